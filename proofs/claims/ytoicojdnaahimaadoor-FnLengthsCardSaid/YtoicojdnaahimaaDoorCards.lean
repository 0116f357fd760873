/-
  DERIVED. GIVEN WITH THE SEED: THE CARDS: each row of YtoicojdnaahimaaDoorRows.lean that lists a variable, with what it lists TIED to the program's text (the seventh form; the later family's looks); each row that meets fmt, with fmt's text TOLD by the authors' own Lean function (tested against real Go, not proved from fmt's source: count such statements apart). THE CARD IS WHAT COUNTS. Prove the row's statement (the work); the ties are given (YtoicojdnaahimaaDoorTie.lean); close each card by the builder's one call (the guide's Derived/Test/ToyasCard.lean, 'card_holds'). Laid BY PROGRAM, IN A SANDBOX (cutbox-door.mjs). By AI agents, Wed Nov 11 2026. No macro, syntax, notation, axiom, sorry.
-/
import Derived.Test.YtoicojdnaahimaaDoorRows
import GoSem.ClaimSeven
namespace Go.Proofs.YtoicojdnaahimaaDoor
namespace Rows

/-- THE TIED CARD OF 'laws.FnLengths'. -/
def fnLengthsCard : Claim7 := { stood := { row := fnLengthsRow, standIns := [], harness := (true, "780ec83aceeb30c3797521ef0e69deea6699a27600af5fc720395bebc69379cf"), looks := true }, kinds := [], alts := [], laidByText := true, laidKinds := [.sentinel, .sentinel, .sentinel], laidTests := true, laidLooks := .later }
def FnLengthsCardSaid : Prop := Claim7.holds Tryd.pinned (.plain (OpenSpec.ofChange fnLengthsSpec)) fnLengthsCard

/-- THE TIED CARD OF 'laws.FnSymbols'. -/
def fnSymbolsCard : Claim7 := { stood := { row := fnSymbolsRow, standIns := [], harness := (true, "780ec83aceeb30c3797521ef0e69deea6699a27600af5fc720395bebc69379cf"), looks := true }, kinds := [], alts := [], laidByText := true, laidKinds := [.sentinel, .sentinel], laidTests := true, laidLooks := .later }
def FnSymbolsCardSaid : Prop := Claim7.holds Tryd.pinned (.plain (OpenSpec.ofChange fnSymbolsSpec)) fnSymbolsCard

/-- THE SECOND FORM's CARD OF 'laws.FnLengths'. -/
def fnLengthsUptoCard : Claim7 := { stood := { row := fnLengthsUptoRow, standIns := [], harness := (true, "780ec83aceeb30c3797521ef0e69deea6699a27600af5fc720395bebc69379cf"), looks := true }, kinds := [], alts := [], laidByText := true, laidKinds := [.sentinel, .sentinel, .sentinel], laidTests := true, laidLooks := .later }
def FnLengthsUptoCardSaid : Prop := Claim7.holds Tryd.pinned (.plain (OpenSpec.upto fnLengthsSpec)) fnLengthsUptoCard

/-- THE SECOND FORM's CARD OF 'laws.FnSymbols'. -/
def fnSymbolsUptoCard : Claim7 := { stood := { row := fnSymbolsUptoRow, standIns := [], harness := (true, "780ec83aceeb30c3797521ef0e69deea6699a27600af5fc720395bebc69379cf"), looks := true }, kinds := [], alts := [], laidByText := true, laidKinds := [.sentinel, .sentinel], laidTests := true, laidLooks := .later }
def FnSymbolsUptoCardSaid : Prop := Claim7.holds Tryd.pinned (.plain (OpenSpec.upto fnSymbolsSpec)) fnSymbolsUptoCard
end Rows
end Go.Proofs.YtoicojdnaahimaaDoor
