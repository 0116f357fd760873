/-
  DERIVED. GIVEN WITH THE SEED: THE CARDS: each row of YtmplkbnajohheaaDoorRows.lean that lists a variable, with what it lists TIED to the program's text (the seventh form; the later family's looks); each row that meets fmt, with fmt's text TOLD by the authors' own Lean function (tested against real Go, not proved from fmt's source: count such statements apart). THE CARD IS WHAT COUNTS. Prove the row's statement (the work); the ties are given (YtmplkbnajohheaaDoorTie.lean); close each card by the builder's one call (the guide's Derived/Test/ToyasCard.lean, 'card_holds'). Laid BY PROGRAM, IN A SANDBOX (cutbox-door.mjs). By AI agents, Wed Nov 11 2026. No macro, syntax, notation, axiom, sorry.
-/
import Derived.Test.YtmplkbnajohheaaDoorRows
import GoSem.ClaimSeven
namespace Go.Proofs.YtmplkbnajohheaaDoor
namespace Rows

/-- THE TIED CARD OF 'laws.FnArms'. -/
def fnArmsCard : Claim7 := { stood := { row := fnArmsRow, standIns := [], harness := (true, "c165786e3dc8314fe641f808638db41810ed68bb6f4712b2117fa3686657aa92"), looks := false }, kinds := [], alts := [], laidByText := true, laidKinds := [.sentinel], laidTests := true, laidLooks := .later }
def FnArmsCardSaid : Prop := Claim7.holds Tryd.pinned (.plain (OpenSpec.ofChange fnArmsSpec)) fnArmsCard

/-- THE TIED CARD OF 'laws.FnCalls'. -/
def fnCallsCard : Claim7 := { stood := { row := fnCallsRow, standIns := [], harness := (true, "c165786e3dc8314fe641f808638db41810ed68bb6f4712b2117fa3686657aa92"), looks := false }, kinds := [], alts := [], laidByText := true, laidKinds := [.sentinel], laidTests := true, laidLooks := .later }
def FnCallsCardSaid : Prop := Claim7.holds Tryd.pinned (.plain (OpenSpec.ofChange fnCallsSpec)) fnCallsCard

/-- THE TIED CARD OF 'laws.FnDelta'. -/
def fnDeltaCard : Claim7 := { stood := { row := fnDeltaRow, standIns := [], harness := (true, "c165786e3dc8314fe641f808638db41810ed68bb6f4712b2117fa3686657aa92"), looks := false }, kinds := [], alts := [], laidByText := true, laidKinds := [.sentinel], laidTests := true, laidLooks := .later }
def FnDeltaCardSaid : Prop := Claim7.holds Tryd.pinned (.plain (OpenSpec.ofChange fnDeltaSpec)) fnDeltaCard

/-- THE TIED CARD OF 'laws.FnCallsOld'. -/
def fnCallsOldCard : Claim7 := { stood := { row := fnCallsOldRow, standIns := [], harness := (true, "c165786e3dc8314fe641f808638db41810ed68bb6f4712b2117fa3686657aa92"), looks := false }, kinds := [], alts := [], laidByText := true, laidKinds := [.data], laidTests := true, laidLooks := .later }
def FnCallsOldCardSaid : Prop := Claim7.holds Tryd.pinned (.plain (OpenSpec.ofChange fnCallsOldSpec)) fnCallsOldCard

/-- THE TIED CARD OF 'laws.FnDeltaOld'. -/
def fnDeltaOldCard : Claim7 := { stood := { row := fnDeltaOldRow, standIns := [], harness := (true, "c165786e3dc8314fe641f808638db41810ed68bb6f4712b2117fa3686657aa92"), looks := false }, kinds := [], alts := [], laidByText := true, laidKinds := [.data], laidTests := true, laidLooks := .later }
def FnDeltaOldCardSaid : Prop := Claim7.holds Tryd.pinned (.plain (OpenSpec.ofChange fnDeltaOldSpec)) fnDeltaOldCard

/-- THE SECOND FORM's CARD OF 'laws.FnArms'. -/
def fnArmsUptoCard : Claim7 := { stood := { row := fnArmsUptoRow, standIns := [], harness := (true, "c165786e3dc8314fe641f808638db41810ed68bb6f4712b2117fa3686657aa92"), looks := false }, kinds := [], alts := [], laidByText := true, laidKinds := [.sentinel], laidTests := true, laidLooks := .later }
def FnArmsUptoCardSaid : Prop := Claim7.holds Tryd.pinned (.plain (OpenSpec.upto fnArmsSpec)) fnArmsUptoCard

/-- THE SECOND FORM's CARD OF 'laws.FnCalls'. -/
def fnCallsUptoCard : Claim7 := { stood := { row := fnCallsUptoRow, standIns := [], harness := (true, "c165786e3dc8314fe641f808638db41810ed68bb6f4712b2117fa3686657aa92"), looks := false }, kinds := [], alts := [], laidByText := true, laidKinds := [.sentinel], laidTests := true, laidLooks := .later }
def FnCallsUptoCardSaid : Prop := Claim7.holds Tryd.pinned (.plain (OpenSpec.upto fnCallsSpec)) fnCallsUptoCard

/-- THE SECOND FORM's CARD OF 'laws.FnDelta'. -/
def fnDeltaUptoCard : Claim7 := { stood := { row := fnDeltaUptoRow, standIns := [], harness := (true, "c165786e3dc8314fe641f808638db41810ed68bb6f4712b2117fa3686657aa92"), looks := false }, kinds := [], alts := [], laidByText := true, laidKinds := [.sentinel], laidTests := true, laidLooks := .later }
def FnDeltaUptoCardSaid : Prop := Claim7.holds Tryd.pinned (.plain (OpenSpec.upto fnDeltaSpec)) fnDeltaUptoCard

/-- THE SECOND FORM's CARD OF 'laws.FnCallsOld'. -/
def fnCallsOldUptoCard : Claim7 := { stood := { row := fnCallsOldUptoRow, standIns := [], harness := (true, "c165786e3dc8314fe641f808638db41810ed68bb6f4712b2117fa3686657aa92"), looks := false }, kinds := [], alts := [], laidByText := true, laidKinds := [.data], laidTests := true, laidLooks := .later }
def FnCallsOldUptoCardSaid : Prop := Claim7.holds Tryd.pinned (.plain (OpenSpec.upto fnCallsOldSpec)) fnCallsOldUptoCard

/-- THE SECOND FORM's CARD OF 'laws.FnDeltaOld'. -/
def fnDeltaOldUptoCard : Claim7 := { stood := { row := fnDeltaOldUptoRow, standIns := [], harness := (true, "c165786e3dc8314fe641f808638db41810ed68bb6f4712b2117fa3686657aa92"), looks := false }, kinds := [], alts := [], laidByText := true, laidKinds := [.data], laidTests := true, laidLooks := .later }
def FnDeltaOldUptoCardSaid : Prop := Claim7.holds Tryd.pinned (.plain (OpenSpec.upto fnDeltaOldSpec)) fnDeltaOldUptoCard
end Rows
end Go.Proofs.YtmplkbnajohheaaDoor
