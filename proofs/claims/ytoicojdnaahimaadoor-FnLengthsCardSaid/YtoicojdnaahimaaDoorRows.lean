/-
  NARROWER THAN 'FOR EVERY INPUT', by the rows' own cells (each row's printed sentence says how): FnLengths: ifaces, laid · FnSymbols: ifaces, laid.
  DERIVED. THE GIVEN ROWS OF THIS SEAT. 2 by the template 'for every input the law returns true; each argument reads behind the call as it read before'; 0 by the template 'total and deterministic' (their statements: YtoicojdnaahimaaDoorTotals.lean).
  GIVEN WITH THE SEED: the statements are not yours to turn. If you find one false, say at which input.
  Laid BY PROGRAM, IN A SANDBOX (cutbox-rows.mjs): the forced cells as the released guide's own fill.sh prints them over the translation 3ce0b6b7bf4ecfb0… (all of the seat's roots in one cut). By AI agents, Wed Nov 11 2026. No macro, syntax, notation, axiom, sorry.
-/
import Derived.Test.YtoicojdnaahimaaDoorChecked
import GoSem.Claim
import GoSem.ClaimJoined
import GoSem.ClaimMapViews
import Derived.JoinedTies
import Derived.KernelRfl
namespace Go.Proofs.YtoicojdnaahimaaDoor
/- THE CELL 'sum', in the pinned program and in every row, IS THE sha256 OF THE DUMP (.gsa) THAT YtoicojdnaahimaaDoorProg.lean LOADS. Nothing in Lean hashes anything: it is a label: what it is worth is what the hold of that sum in a sandbox is worth. -/
noncomputable def Tryd.pinned : Pinned := { name := "ytoicojdnaahimaadoor", sum := "3ce0b6b7bf4ecfb05ca556bd1c07b94e061422e3f543341149ee1682c1f6f6ea", checked := Tryd.checked }
namespace Rows
def none {H : Type} : Left H := { results := [], args := [] }

/- WHAT THE LISTED PACKAGE-LEVEL VARIABLES READ AS WHEN THE CALL BEGINS. Each datum BY PROGRAM (the guide's laid-datum.mjs) off the statement by which the dump's own 'gosem.cut.vars' lays the variable. In a bare row this is a premise. The card (YtoicojdnaahimaaDoorCards.lean) ties it to the program's text. -/
def laid_io_EOF {H : Type} : DataW H := .iface "*errors.errorString" (.ptr (.agg [.lit (.string [69, 79, 70])]))
def laid_loop_example_pub_g03437_pub_rardecode_ErrHuffDecodeFailed {H : Type} : DataW H := .iface "*errors.errorString" (.ptr (.agg [.lit (.string [114, 97, 114, 100, 101, 99, 111, 100, 101, 58, 32, 104, 117, 102, 102, 109, 97, 110, 32, 100, 101, 99, 111, 100, 101, 32, 102, 97, 105, 108, 101, 100])]))
def laid_loop_example_pub_g03437_pub_rardecode_ErrInvalidLengthTable {H : Type} : DataW H := .iface "*errors.errorString" (.ptr (.agg [.lit (.string [114, 97, 114, 100, 101, 99, 111, 100, 101, 58, 32, 105, 110, 118, 97, 108, 105, 100, 32, 104, 117, 102, 102, 109, 97, 110, 32, 99, 111, 100, 101, 32, 108, 101, 110, 103, 116, 104, 32, 116, 97, 98, 108, 101])]))

/-- 'laws.FnLengths': WHATEVER THE INPUT: true; the input reads as it did. -/
def fnLengthsSpec : ChangeSpec := { name := "fnLengths", vars := ["loop.example/pub-g03437/pub/rardecode.ErrInvalidLengthTable", "loop.example/pub-g03437/pub/rardecode.ErrHuffDecodeFailed"], fn := fun _ => fun
  | [d1, d2, d3, d4, g1, g2] => { results := [.lit (.bool true)], args := [d1, d2, d3, d4], vars := [g1, g2] }
  | _ => none }
def fnLengthsRow : OpenClaim := { program := "ytoicojdnaahimaadoor", sum := "3ce0b6b7bf4ecfb05ca556bd1c07b94e061422e3f543341149ee1682c1f6f6ea", func := "loop.example/pub-g03437/laws.FnLengths", spec := "fnLengths", unfollowed := true, recurses := true, named := ["loop.example/pub-g03437/pub/rardecode.ErrInvalidLengthTable", "io.EOF", "loop.example/pub-g03437/pub/rardecode.ErrHuffDecodeFailed"], ifaces := true, apart := false, laid := [("io.EOF", laid_io_EOF), ("loop.example/pub-g03437/pub/rardecode.ErrHuffDecodeFailed", laid_loop_example_pub_g03437_pub_rardecode_ErrHuffDecodeFailed), ("loop.example/pub-g03437/pub/rardecode.ErrInvalidLengthTable", laid_loop_example_pub_g03437_pub_rardecode_ErrInvalidLengthTable)] }
def FnLengthsSaid : Prop := fnLengthsRow.holds Tryd.pinned (OpenSpec.ofChange fnLengthsSpec)

/-- ITS FALSE NEIGHBOUR: 'it returns false'. Refute it at one input. -/
def fnLengthsWrong : ChangeSpec := { name := "fnLengths", vars := ["loop.example/pub-g03437/pub/rardecode.ErrInvalidLengthTable", "loop.example/pub-g03437/pub/rardecode.ErrHuffDecodeFailed"], fn := fun _ => fun
  | [d1, d2, d3, d4, g1, g2] => { results := [.lit (.bool false)], args := [d1, d2, d3, d4], vars := [g1, g2] }
  | _ => none }
def FnLengthsWrongFalsely : Prop := fnLengthsRow.holds Tryd.pinned (OpenSpec.ofChange fnLengthsWrong)

/-- 'laws.FnSymbols': WHATEVER THE INPUT: true; the input reads as it did. -/
def fnSymbolsSpec : ChangeSpec := { name := "fnSymbols", vars := ["loop.example/pub-g03437/pub/rardecode.ErrHuffDecodeFailed"], fn := fun _ => fun
  | [d1, d2, d3, d4, g1] => { results := [.lit (.bool true)], args := [d1, d2, d3, d4], vars := [g1] }
  | _ => none }
def fnSymbolsRow : OpenClaim := { program := "ytoicojdnaahimaadoor", sum := "3ce0b6b7bf4ecfb05ca556bd1c07b94e061422e3f543341149ee1682c1f6f6ea", func := "loop.example/pub-g03437/laws.FnSymbols", spec := "fnSymbols", unfollowed := true, recurses := true, named := ["io.EOF", "loop.example/pub-g03437/pub/rardecode.ErrHuffDecodeFailed"], ifaces := true, apart := false, laid := [("io.EOF", laid_io_EOF), ("loop.example/pub-g03437/pub/rardecode.ErrHuffDecodeFailed", laid_loop_example_pub_g03437_pub_rardecode_ErrHuffDecodeFailed)] }
def FnSymbolsSaid : Prop := fnSymbolsRow.holds Tryd.pinned (OpenSpec.ofChange fnSymbolsSpec)

/-- ITS FALSE NEIGHBOUR: 'it returns false'. Refute it at one input. -/
def fnSymbolsWrong : ChangeSpec := { name := "fnSymbols", vars := ["loop.example/pub-g03437/pub/rardecode.ErrHuffDecodeFailed"], fn := fun _ => fun
  | [d1, d2, d3, d4, g1] => { results := [.lit (.bool false)], args := [d1, d2, d3, d4], vars := [g1] }
  | _ => none }
def FnSymbolsWrongFalsely : Prop := fnSymbolsRow.holds Tryd.pinned (OpenSpec.ofChange fnSymbolsWrong)

/- THE SECOND FORM. 'bulk': how many values and letters a reading holds, each counted each time it is reached (what is shared counts as often as it is met; a slice's spare places count too). A statement '..UptoSaid' is the law's where the arguments, and the package variables that the reading takes, are together of bulk at most 1048576: NARROWER than '..Said'. Prove '..Said' where nothing that the law and all that it calls make is longer than what came in: it says more and counts as full. Else prove '..UptoSaid'. A law counts once. -/
mutual
def uptoBulk {H : Type} : DataW H → Nat
  | .lit (.string bytes) => bytes.length + 1
  | .lit _ => 1
  | .nil => 1
  | .ptr d => uptoBulk d + 1
  | .slice elems spare => uptoBulkAll elems + uptoBulkAll spare + 1
  | .agg parts => uptoBulkAll parts + 1
  | .iface _ d => uptoBulk d + 1
  | .map entries => uptoBulkEntries entries + 1
  | .held _ => 1
def uptoBulkAll {H : Type} : List (DataW H) → Nat
  | [] => 0
  | d :: r => uptoBulk d + uptoBulkAll r
def uptoBulkEntries {H : Type} : List (Lit × DataW H) → Nat
  | [] => 0
  | x :: r => uptoBulkEntry x + uptoBulkEntries r
def uptoBulkEntry {H : Type} : Lit × DataW H → Nat
  | (.string bytes, d) => bytes.length + uptoBulk d + 1
  | (_, d) => uptoBulk d + 1
 end
def uptoSmall : (H : Type) → List (DataW H) → Bool := fun _ ds => decide (uptoBulkAll ds ≤ 1048576)
def OpenSpec.upto (s : _root_.Go.ChangeSpec) : _root_.Go.OpenSpec := { _root_.Go.OpenSpec.ofChange s with cond := some uptoSmall }

/-- 'laws.FnLengths', WHERE WHAT IT READS IS OF BULK AT MOST 1048576: true; the input reads as it did. -/
def fnLengthsUptoRow : OpenClaim := { program := "ytoicojdnaahimaadoor", sum := "3ce0b6b7bf4ecfb05ca556bd1c07b94e061422e3f543341149ee1682c1f6f6ea", func := "loop.example/pub-g03437/laws.FnLengths", spec := "fnLengths", unfollowed := true, recurses := true, named := ["loop.example/pub-g03437/pub/rardecode.ErrInvalidLengthTable", "io.EOF", "loop.example/pub-g03437/pub/rardecode.ErrHuffDecodeFailed"], ifaces := true, apart := false, laid := [("io.EOF", laid_io_EOF), ("loop.example/pub-g03437/pub/rardecode.ErrHuffDecodeFailed", laid_loop_example_pub_g03437_pub_rardecode_ErrHuffDecodeFailed), ("loop.example/pub-g03437/pub/rardecode.ErrInvalidLengthTable", laid_loop_example_pub_g03437_pub_rardecode_ErrInvalidLengthTable)], narrowed := true }
def FnLengthsUptoSaid : Prop := fnLengthsUptoRow.holds Tryd.pinned (OpenSpec.upto fnLengthsSpec)

/-- 'laws.FnSymbols', WHERE WHAT IT READS IS OF BULK AT MOST 1048576: true; the input reads as it did. -/
def fnSymbolsUptoRow : OpenClaim := { program := "ytoicojdnaahimaadoor", sum := "3ce0b6b7bf4ecfb05ca556bd1c07b94e061422e3f543341149ee1682c1f6f6ea", func := "loop.example/pub-g03437/laws.FnSymbols", spec := "fnSymbols", unfollowed := true, recurses := true, named := ["io.EOF", "loop.example/pub-g03437/pub/rardecode.ErrHuffDecodeFailed"], ifaces := true, apart := false, laid := [("io.EOF", laid_io_EOF), ("loop.example/pub-g03437/pub/rardecode.ErrHuffDecodeFailed", laid_loop_example_pub_g03437_pub_rardecode_ErrHuffDecodeFailed)], narrowed := true }
def FnSymbolsUptoSaid : Prop := fnSymbolsUptoRow.holds Tryd.pinned (OpenSpec.upto fnSymbolsSpec)

end Rows
end Go.Proofs.YtoicojdnaahimaaDoor
