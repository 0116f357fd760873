/- The walk of the library's clone of a slice of bytes: what comes back is owned by the call and holds the same bytes. -/
import Derived.Test.YtmplkbnajohheaaDoorRows
import Derived.Test.YtmplkbnajohheaaDoorOwn
import Derived.WalkKit
import Derived.WalkSpells
namespace Go.Proofs.YtmplkbnajohheaaDoor.Base
open Go.RowKit Go.Proofs.YtmplkbnajohheaaDoor.Aid

theorem infoB : (Tryd.prog.info? 5).map (fun i => (i.zero, i.size, i.bytes)) = some (some (.int .u8 0), 1, 1) := by kernel_rfl

set_option maxRecDepth 100000 in
set_option maxHeartbeats 1000000 in
theorem clone_any (v : Value) (l : List UInt8) (B : Nat) (w : World) (hr : Rd w B v (Lib.byteCells l)) (hB : B ≤ w.heap.size) (hl : l.length ≤ 4000000) :
    Calls Tryd.prog 15 #[v] w fun e w' => ∃ v', e = .returned v' ∧ w'.ownsRow w.heap.size 5 1 v' l.length (Lib.byteCells l) ∧ Below w.heap.size w w' := by
  obtain ⟨i0, hi, hz0, hz1, hz2⟩ := info_parts infoB
  have hr' := hr
  obtain ⟨A, c, hv, _, hc, hx⟩ := hr'
  rw [Lib.byteCells_length l] at hv
  subst hv
  rcases A with _ | ad
  · have h0 : l = [] := by
      rcases l with _ | ⟨x, r⟩
      · rfl
      · obtain ⟨g, o, h, _⟩ := hx (by simp [Lib.byteCells])
        cases h
    subst h0
    have hnil := fun w => Lib.run_eql_slice_nil (P := Tryd.prog) w 22
    clear hx hr
    go_enter Tryd.func15, Tryd.ntmps15
    go_wp2
    go_ret
    exact ⟨.slice none 0 0, rfl, by simpa [Lib.byteCells] using World.ownsRow_nil _ _ _ _, Below.refl _ _⟩
  · have hne := fun w => Lib.run_eql_slice_nil (P := Tryd.prog) w 22 5 (some ad) l.length c 0 0 Tryd.underlying22
    have hown0 : (w.alloc (.cells #[] 5)).ownsRow w.heap.size 5 1 (.slice (some ⟨w.heap.size, 0, none⟩) 0 0) 0 [] := World.ownsRow_lit w #[] 0 (Nat.le_refl _) (by decide) (by simp)
    go_enter Tryd.func15, Tryd.ntmps15
    go_wp2_with (at_builtin; refine wpList_append_rd _ rfl _ _ 22 rfl w.heap.size 5 i0 (.int .u8 0) 1 Tryd.underlying22 hi hz0 hz1 hz2 rfl _ 0 [] rfl hown0 B _ (Lib.byteCells l) rfl (hr.alloc hB _) (one_bytes l) (by rw [Lib.byteCells_length]; omega) (by rw [Lib.byteCells_length]; omega) (by simp) ?_)
    intro v' w1 hown1 hgrow hat
    have hb1 : Below w.heap.size w w1 := ((Below.refl _ _).alloc (Nat.le_refl _) _).grown hgrow (by simp) (by intro k hk; simp [Value.ownBlock] at hk; omega)
    rw [Lib.byteCells_length] at hown1
    go_wp2
    go_ret
    exact ⟨v', rfl, hown1, hb1⟩
end Go.Proofs.YtmplkbnajohheaaDoor.Base
