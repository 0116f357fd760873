/-
  NARROWER THAN 'FOR EVERY INPUT', by the rows' own cells (each row's printed sentence says how): FnArms: ifaces, laid · FnCalls: ifaces, laid · FnDelta: ifaces, laid · FnCallsOld: laid · FnDeltaOld: laid.
  DERIVED. THE GIVEN ROWS OF THIS SEAT. 5 by the template 'for every input the law returns true; each argument reads behind the call as it read before'; 0 by the template 'total and deterministic' (their statements: YtmplkbnajohheaaDoorTotals.lean).
  GIVEN WITH THE SEED: the statements are not yours to turn. If you find one false, say at which input.
  Laid BY PROGRAM, IN A SANDBOX (cutbox-rows.mjs): the forced cells as the released guide's own fill.sh prints them over the translation 21c98d7205b9308e… (all of the seat's roots in one cut). By AI agents, Wed Nov 11 2026. No macro, syntax, notation, axiom, sorry.
-/
import Derived.Test.YtmplkbnajohheaaDoorChecked
import GoSem.Claim
import GoSem.ClaimJoined
import GoSem.ClaimMapViews
import Derived.JoinedTies
import Derived.KernelRfl
namespace Go.Proofs.YtmplkbnajohheaaDoor
/- THE CELL 'sum', in the pinned program and in every row, IS THE sha256 OF THE DUMP (.gsa) THAT YtmplkbnajohheaaDoorProg.lean LOADS. Nothing in Lean hashes anything: it is a label: what it is worth is what the hold of that sum in a sandbox is worth. -/
noncomputable def Tryd.pinned : Pinned := { name := "ytmplkbnajohheaadoor", sum := "21c98d7205b9308ead51ec4b3c68ec7526759bda96e69049eda8251bd461cad6", checked := Tryd.checked }
namespace Rows
def none {H : Type} : Left H := { results := [], args := [] }

/- WHAT THE LISTED PACKAGE-LEVEL VARIABLES READ AS WHEN THE CALL BEGINS. Each datum BY PROGRAM (the guide's laid-datum.mjs) off the statement by which the dump's own 'gosem.cut.vars' lays the variable. In a bare row this is a premise. The card (YtmplkbnajohheaaDoorCards.lean) ties it to the program's text. -/
def laid_loop_example_pub_g03437_pub_rardecode_ErrUnknownFilter {H : Type} : DataW H := .iface "*errors.errorString" (.ptr (.agg [.lit (.string [114, 97, 114, 100, 101, 99, 111, 100, 101, 58, 32, 117, 110, 107, 110, 111, 119, 110, 32, 86, 53, 32, 102, 105, 108, 116, 101, 114])]))
def laid_loop_example_pub_g03437_pub_rardecode_byteMask {H : Type} : DataW H := .agg [.lit (.int .i64 4), .lit (.int .i64 4), .lit (.int .i64 6), .lit (.int .i64 6), .lit (.int .i64 0), .lit (.int .i64 0), .lit (.int .i64 7), .lit (.int .i64 7), .lit (.int .i64 4), .lit (.int .i64 4), .lit (.int .i64 0), .lit (.int .i64 0), .lit (.int .i64 4), .lit (.int .i64 4), .lit (.int .i64 0), .lit (.int .i64 0)]

/-- 'laws.FnArms': WHATEVER THE INPUT: true; the input reads as it did. -/
def fnArmsSpec : ChangeSpec := { name := "fnArms", vars := ["loop.example/pub-g03437/pub/rardecode.ErrUnknownFilter"], fn := fun _ => fun
  | [d1, d2, g1] => { results := [.lit (.bool true)], args := [d1, d2], vars := [g1] }
  | _ => none }
def fnArmsRow : OpenClaim := { program := "ytmplkbnajohheaadoor", sum := "21c98d7205b9308ead51ec4b3c68ec7526759bda96e69049eda8251bd461cad6", func := "loop.example/pub-g03437/laws.FnArms", spec := "fnArms", named := ["loop.example/pub-g03437/pub/rardecode.ErrUnknownFilter"], ifaces := true, apart := false, laid := [("loop.example/pub-g03437/pub/rardecode.ErrUnknownFilter", laid_loop_example_pub_g03437_pub_rardecode_ErrUnknownFilter)] }
def FnArmsSaid : Prop := fnArmsRow.holds Tryd.pinned (OpenSpec.ofChange fnArmsSpec)

/-- ITS FALSE NEIGHBOUR: 'it returns false'. Refute it at one input. -/
def fnArmsWrong : ChangeSpec := { name := "fnArms", vars := ["loop.example/pub-g03437/pub/rardecode.ErrUnknownFilter"], fn := fun _ => fun
  | [d1, d2, g1] => { results := [.lit (.bool false)], args := [d1, d2], vars := [g1] }
  | _ => none }
def FnArmsWrongFalsely : Prop := fnArmsRow.holds Tryd.pinned (OpenSpec.ofChange fnArmsWrong)

/-- 'laws.FnCalls': WHATEVER THE INPUT: true; the input reads as it did. -/
def fnCallsSpec : ChangeSpec := { name := "fnCalls", vars := ["loop.example/pub-g03437/pub/rardecode.ErrUnknownFilter"], fn := fun _ => fun
  | [d1, d2, d3, g1] => { results := [.lit (.bool true)], args := [d1, d2, d3], vars := [g1] }
  | _ => none }
def fnCallsRow : OpenClaim := { program := "ytmplkbnajohheaadoor", sum := "21c98d7205b9308ead51ec4b3c68ec7526759bda96e69049eda8251bd461cad6", func := "loop.example/pub-g03437/laws.FnCalls", spec := "fnCalls", named := ["loop.example/pub-g03437/pub/rardecode.ErrUnknownFilter"], ifaces := true, apart := false, laid := [("loop.example/pub-g03437/pub/rardecode.ErrUnknownFilter", laid_loop_example_pub_g03437_pub_rardecode_ErrUnknownFilter)] }
def FnCallsSaid : Prop := fnCallsRow.holds Tryd.pinned (OpenSpec.ofChange fnCallsSpec)

/-- ITS FALSE NEIGHBOUR: 'it returns false'. Refute it at one input. -/
def fnCallsWrong : ChangeSpec := { name := "fnCalls", vars := ["loop.example/pub-g03437/pub/rardecode.ErrUnknownFilter"], fn := fun _ => fun
  | [d1, d2, d3, g1] => { results := [.lit (.bool false)], args := [d1, d2, d3], vars := [g1] }
  | _ => none }
def FnCallsWrongFalsely : Prop := fnCallsRow.holds Tryd.pinned (OpenSpec.ofChange fnCallsWrong)

/-- 'laws.FnDelta': WHATEVER THE INPUT: true; the input reads as it did. -/
def fnDeltaSpec : ChangeSpec := { name := "fnDelta", vars := ["loop.example/pub-g03437/pub/rardecode.ErrUnknownFilter"], fn := fun _ => fun
  | [d1, d2, g1] => { results := [.lit (.bool true)], args := [d1, d2], vars := [g1] }
  | _ => none }
def fnDeltaRow : OpenClaim := { program := "ytmplkbnajohheaadoor", sum := "21c98d7205b9308ead51ec4b3c68ec7526759bda96e69049eda8251bd461cad6", func := "loop.example/pub-g03437/laws.FnDelta", spec := "fnDelta", named := ["loop.example/pub-g03437/pub/rardecode.ErrUnknownFilter"], ifaces := true, apart := false, laid := [("loop.example/pub-g03437/pub/rardecode.ErrUnknownFilter", laid_loop_example_pub_g03437_pub_rardecode_ErrUnknownFilter)] }
def FnDeltaSaid : Prop := fnDeltaRow.holds Tryd.pinned (OpenSpec.ofChange fnDeltaSpec)

/-- ITS FALSE NEIGHBOUR: 'it returns false'. Refute it at one input. -/
def fnDeltaWrong : ChangeSpec := { name := "fnDelta", vars := ["loop.example/pub-g03437/pub/rardecode.ErrUnknownFilter"], fn := fun _ => fun
  | [d1, d2, g1] => { results := [.lit (.bool false)], args := [d1, d2], vars := [g1] }
  | _ => none }
def FnDeltaWrongFalsely : Prop := fnDeltaRow.holds Tryd.pinned (OpenSpec.ofChange fnDeltaWrong)

/-- 'laws.FnCallsOld': WHATEVER THE INPUT: true; the input reads as it did. -/
def fnCallsOldSpec : ChangeSpec := { name := "fnCallsOld", vars := ["loop.example/pub-g03437/pub/rardecode.byteMask"], fn := fun _ => fun
  | [d1, d2, d3, g1] => { results := [.lit (.bool true)], args := [d1, d2, d3], vars := [g1] }
  | _ => none }
def fnCallsOldRow : OpenClaim := { program := "ytmplkbnajohheaadoor", sum := "21c98d7205b9308ead51ec4b3c68ec7526759bda96e69049eda8251bd461cad6", func := "loop.example/pub-g03437/laws.FnCallsOld", spec := "fnCallsOld", unfollowed := true, recurses := true, named := ["loop.example/pub-g03437/pub/rardecode.byteMask"], apart := false, laid := [("loop.example/pub-g03437/pub/rardecode.byteMask", laid_loop_example_pub_g03437_pub_rardecode_byteMask)] }
def FnCallsOldSaid : Prop := fnCallsOldRow.holds Tryd.pinned (OpenSpec.ofChange fnCallsOldSpec)

/-- ITS FALSE NEIGHBOUR: 'it returns false'. Refute it at one input. -/
def fnCallsOldWrong : ChangeSpec := { name := "fnCallsOld", vars := ["loop.example/pub-g03437/pub/rardecode.byteMask"], fn := fun _ => fun
  | [d1, d2, d3, g1] => { results := [.lit (.bool false)], args := [d1, d2, d3], vars := [g1] }
  | _ => none }
def FnCallsOldWrongFalsely : Prop := fnCallsOldRow.holds Tryd.pinned (OpenSpec.ofChange fnCallsOldWrong)

/-- 'laws.FnDeltaOld': WHATEVER THE INPUT: true; the input reads as it did. -/
def fnDeltaOldSpec : ChangeSpec := { name := "fnDeltaOld", vars := ["loop.example/pub-g03437/pub/rardecode.byteMask"], fn := fun _ => fun
  | [d1, d2, g1] => { results := [.lit (.bool true)], args := [d1, d2], vars := [g1] }
  | _ => none }
def fnDeltaOldRow : OpenClaim := { program := "ytmplkbnajohheaadoor", sum := "21c98d7205b9308ead51ec4b3c68ec7526759bda96e69049eda8251bd461cad6", func := "loop.example/pub-g03437/laws.FnDeltaOld", spec := "fnDeltaOld", unfollowed := true, recurses := true, named := ["loop.example/pub-g03437/pub/rardecode.byteMask"], apart := false, laid := [("loop.example/pub-g03437/pub/rardecode.byteMask", laid_loop_example_pub_g03437_pub_rardecode_byteMask)] }
def FnDeltaOldSaid : Prop := fnDeltaOldRow.holds Tryd.pinned (OpenSpec.ofChange fnDeltaOldSpec)

/-- ITS FALSE NEIGHBOUR: 'it returns false'. Refute it at one input. -/
def fnDeltaOldWrong : ChangeSpec := { name := "fnDeltaOld", vars := ["loop.example/pub-g03437/pub/rardecode.byteMask"], fn := fun _ => fun
  | [d1, d2, g1] => { results := [.lit (.bool false)], args := [d1, d2], vars := [g1] }
  | _ => none }
def FnDeltaOldWrongFalsely : Prop := fnDeltaOldRow.holds Tryd.pinned (OpenSpec.ofChange fnDeltaOldWrong)

/- THE SECOND FORM. 'bulk': how many values and letters a reading holds, each counted each time it is reached (what is shared counts as often as it is met; a slice's spare places count too). A statement '..UptoSaid' is the law's where the arguments, and the package variables that the reading takes, are together of bulk at most 1048576: NARROWER than '..Said'. Prove '..Said' where nothing that the law and all that it calls make is longer than what came in: it says more and counts as full. Else prove '..UptoSaid'. A law counts once. -/
mutual
def uptoBulk {H : Type} : DataW H → Nat
  | .lit (.string bytes) => bytes.length + 1
  | .lit _ => 1
  | .nil => 1
  | .ptr d => uptoBulk d + 1
  | .slice elems spare => uptoBulkAll elems + uptoBulkAll spare + 1
  | .agg parts => uptoBulkAll parts + 1
  | .iface _ d => uptoBulk d + 1
  | .map entries => uptoBulkEntries entries + 1
  | .held _ => 1
def uptoBulkAll {H : Type} : List (DataW H) → Nat
  | [] => 0
  | d :: r => uptoBulk d + uptoBulkAll r
def uptoBulkEntries {H : Type} : List (Lit × DataW H) → Nat
  | [] => 0
  | x :: r => uptoBulkEntry x + uptoBulkEntries r
def uptoBulkEntry {H : Type} : Lit × DataW H → Nat
  | (.string bytes, d) => bytes.length + uptoBulk d + 1
  | (_, d) => uptoBulk d + 1
 end
def uptoSmall : (H : Type) → List (DataW H) → Bool := fun _ ds => decide (uptoBulkAll ds ≤ 1048576)
def OpenSpec.upto (s : _root_.Go.ChangeSpec) : _root_.Go.OpenSpec := { _root_.Go.OpenSpec.ofChange s with cond := some uptoSmall }

/-- 'laws.FnArms', WHERE WHAT IT READS IS OF BULK AT MOST 1048576: true; the input reads as it did. -/
def fnArmsUptoRow : OpenClaim := { program := "ytmplkbnajohheaadoor", sum := "21c98d7205b9308ead51ec4b3c68ec7526759bda96e69049eda8251bd461cad6", func := "loop.example/pub-g03437/laws.FnArms", spec := "fnArms", named := ["loop.example/pub-g03437/pub/rardecode.ErrUnknownFilter"], ifaces := true, apart := false, laid := [("loop.example/pub-g03437/pub/rardecode.ErrUnknownFilter", laid_loop_example_pub_g03437_pub_rardecode_ErrUnknownFilter)], narrowed := true }
def FnArmsUptoSaid : Prop := fnArmsUptoRow.holds Tryd.pinned (OpenSpec.upto fnArmsSpec)

/-- 'laws.FnCalls', WHERE WHAT IT READS IS OF BULK AT MOST 1048576: true; the input reads as it did. -/
def fnCallsUptoRow : OpenClaim := { program := "ytmplkbnajohheaadoor", sum := "21c98d7205b9308ead51ec4b3c68ec7526759bda96e69049eda8251bd461cad6", func := "loop.example/pub-g03437/laws.FnCalls", spec := "fnCalls", named := ["loop.example/pub-g03437/pub/rardecode.ErrUnknownFilter"], ifaces := true, apart := false, laid := [("loop.example/pub-g03437/pub/rardecode.ErrUnknownFilter", laid_loop_example_pub_g03437_pub_rardecode_ErrUnknownFilter)], narrowed := true }
def FnCallsUptoSaid : Prop := fnCallsUptoRow.holds Tryd.pinned (OpenSpec.upto fnCallsSpec)

/-- 'laws.FnDelta', WHERE WHAT IT READS IS OF BULK AT MOST 1048576: true; the input reads as it did. -/
def fnDeltaUptoRow : OpenClaim := { program := "ytmplkbnajohheaadoor", sum := "21c98d7205b9308ead51ec4b3c68ec7526759bda96e69049eda8251bd461cad6", func := "loop.example/pub-g03437/laws.FnDelta", spec := "fnDelta", named := ["loop.example/pub-g03437/pub/rardecode.ErrUnknownFilter"], ifaces := true, apart := false, laid := [("loop.example/pub-g03437/pub/rardecode.ErrUnknownFilter", laid_loop_example_pub_g03437_pub_rardecode_ErrUnknownFilter)], narrowed := true }
def FnDeltaUptoSaid : Prop := fnDeltaUptoRow.holds Tryd.pinned (OpenSpec.upto fnDeltaSpec)

/-- 'laws.FnCallsOld', WHERE WHAT IT READS IS OF BULK AT MOST 1048576: true; the input reads as it did. -/
def fnCallsOldUptoRow : OpenClaim := { program := "ytmplkbnajohheaadoor", sum := "21c98d7205b9308ead51ec4b3c68ec7526759bda96e69049eda8251bd461cad6", func := "loop.example/pub-g03437/laws.FnCallsOld", spec := "fnCallsOld", unfollowed := true, recurses := true, named := ["loop.example/pub-g03437/pub/rardecode.byteMask"], apart := false, laid := [("loop.example/pub-g03437/pub/rardecode.byteMask", laid_loop_example_pub_g03437_pub_rardecode_byteMask)], narrowed := true }
def FnCallsOldUptoSaid : Prop := fnCallsOldUptoRow.holds Tryd.pinned (OpenSpec.upto fnCallsOldSpec)

/-- 'laws.FnDeltaOld', WHERE WHAT IT READS IS OF BULK AT MOST 1048576: true; the input reads as it did. -/
def fnDeltaOldUptoRow : OpenClaim := { program := "ytmplkbnajohheaadoor", sum := "21c98d7205b9308ead51ec4b3c68ec7526759bda96e69049eda8251bd461cad6", func := "loop.example/pub-g03437/laws.FnDeltaOld", spec := "fnDeltaOld", unfollowed := true, recurses := true, named := ["loop.example/pub-g03437/pub/rardecode.byteMask"], apart := false, laid := [("loop.example/pub-g03437/pub/rardecode.byteMask", laid_loop_example_pub_g03437_pub_rardecode_byteMask)], narrowed := true }
def FnDeltaOldUptoSaid : Prop := fnDeltaOldUptoRow.holds Tryd.pinned (OpenSpec.upto fnDeltaOldSpec)

end Rows
end Go.Proofs.YtmplkbnajohheaaDoor
