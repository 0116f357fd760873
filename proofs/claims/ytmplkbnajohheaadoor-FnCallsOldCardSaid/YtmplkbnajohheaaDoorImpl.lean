/- The walk of the thin package's filter: what the package's filter makes, cloned. -/
import Derived.Test.YtmplkbnajohheaaDoorIs
namespace Go.Proofs.YtmplkbnajohheaaDoor.Base
open Go.RowKit Go.Proofs.YtmplkbnajohheaaDoor.Aid

/-- What is asked of the package's filter at bytes l: it hands back bytes r, and no error. -/
def Gives (f : FuncId) (args : List Value) (l r : List UInt8) : Prop :=
  ∀ (u : Value) (w : World), Rd w w.heap.size u (Lib.byteCells l) →
    Calls Tryd.prog f (args ++ [u]).toArray w fun e w' => ∃ x, e = .returned (.tuple #[x, .nilIface]) ∧ Rd w' w'.heap.size x (Lib.byteCells r) ∧ Below w.heap.size w w'

set_option maxRecDepth 100000 in
set_option maxHeartbeats 2000000 in
theorem impl_any (kind param off : Int) (l r : List UInt8) (hl : l.length ≤ 4096) (hrl : r.length ≤ 4096) (hz : Gives 14 [.int .i64 kind, .int .i64 param, .int .i64 off] l r)
    (v : Value) (w : World) (hr : Rd w w.heap.size v (Lib.byteCells l)) :
    Calls Tryd.prog 8 #[.int .i64 kind, .int .i64 param, .int .i64 off, v] w fun e w' => ∃ x, e = .returned (.tuple #[x, .bool true]) ∧ Rd w' w'.heap.size x (Lib.byteCells r) ∧ Below w.heap.size w w' := by
  have HZ := Lib.hid hz
  clear hz
  go_enter Tryd.func8, Tryd.ntmps8
  go_wp2_with fail
  refine (clone_any v l w.heap.size _ hr (Nat.le_refl _) (by omega)).mono ?_
  rintro e w1 ⟨v1, rfl, hown1, hb1⟩
  go_wp2_with fail
  refine (HZ.out v1 w1 (Rd.own hown1)).mono ?_
  rintro e w2 ⟨x, rfl, hrx, hb2⟩
  go_wp2_with fail
  refine (clone_any x r w2.heap.size _ hrx (Nat.le_refl _) (by omega)).mono ?_
  rintro e w3 ⟨v3, rfl, hown3, hb3⟩
  go_wp2
  go_ret2
  exact ⟨v3, rfl, Rd.own hown3, hb1.trans ((hb2.trans (hb3.mono hb2.size)).mono hb1.size)⟩
end Go.Proofs.YtmplkbnajohheaaDoor.Base
