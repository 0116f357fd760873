/- The walks of the library's clones of a slice of bytes, and of numbers: what comes back is owned by the call and holds the same. -/
import Derived.Test.YtoicojdnaahimaaDoorRows
import Derived.Test.YtoicojdnaahimaaDoorMem
import Derived.WalkKit
import Derived.WalkSpells
namespace Go.Proofs.YtoicojdnaahimaaDoor.Base
open Go.RowKit Go.Proofs.YtoicojdnaahimaaDoor.Aid

theorem infoB : (Tryd.prog.info? 5).map (fun i => (i.zero, i.size, i.bytes)) = some (some (.int .u8 0), 1, 1) := by kernel_rfl
theorem infoI : (Tryd.prog.info? 3).map (fun i => (i.zero, i.size, i.bytes)) = some (some (.int .i64 0), 1, 8) := by kernel_rfl
theorem infoH : (Tryd.prog.info? 23).map (fun i => (i.zero, i.size, i.bytes)) = some (some (.int .u16 0), 1, 2) := by kernel_rfl
theorem infoT : (Tryd.prog.info? 4).map (fun i => (i.zero, i.size, i.bytes)) = some (some (.bool false), 1, 1) := by kernel_rfl

set_option maxRecDepth 100000 in
set_option maxHeartbeats 1000000 in
theorem clone_bytes (v : Value) (l : List Nat) (B : Nat) (w : World) (hr : Rd w B v (nums .u8 l)) (hB : B ≤ w.heap.size) (hl : l.length ≤ 4000000) :
    Calls Tryd.prog 12 #[v] w fun e w' => ∃ v', e = .returned v' ∧ w'.ownsRow w.heap.size 5 1 v' l.length (nums .u8 l) ∧ Below w.heap.size w w' := by
  obtain ⟨i0, hi, hz0, hz1, hz2⟩ := info_parts infoB
  have hr' := hr
  obtain ⟨A, c, hv, _, hc, hx⟩ := hr'
  rw [nums_length] at hv
  subst hv
  rcases A with _ | ad
  · have h0 : l = [] := by
      rcases l with _ | ⟨x, r⟩
      · rfl
      · obtain ⟨g, o, h, _⟩ := hx (by simp [nums])
        cases h
    subst h0
    have hnil := fun w => Lib.run_eql_slice_nil (P := Tryd.prog) w 28
    clear hx hr
    go_enter Tryd.func12, Tryd.ntmps12
    go_wp2
    go_ret
    exact ⟨.slice none 0 0, rfl, by simpa [nums] using World.ownsRow_nil _ _ _ _, Below.refl _ _⟩
  · have hne := fun w => Lib.run_eql_slice_nil (P := Tryd.prog) w 28 5 (some ad) l.length c 0 0 Tryd.underlying28
    have hown0 : (w.alloc (.cells #[] 5)).ownsRow w.heap.size 5 1 (.slice (some ⟨w.heap.size, 0, none⟩) 0 0) 0 [] := World.ownsRow_lit w #[] 0 (Nat.le_refl _) (by decide) (by simp)
    go_enter Tryd.func12, Tryd.ntmps12
    go_wp2_with (at_builtin; refine wpList_append_rd _ rfl _ _ 28 rfl w.heap.size 5 i0 (.int .u8 0) 1 Tryd.underlying28 hi hz0 hz1 hz2 rfl _ 0 [] rfl hown0 B _ (nums .u8 l) rfl (hr.alloc hB _) (nums_one _ l) (by rw [nums_length]; omega) (by rw [nums_length]; omega) (by simp) ?_)
    intro v' w1 hown1 hgrow hat
    have hb1 : Below w.heap.size w w1 := ((Below.refl _ _).alloc (Nat.le_refl _) _).grown hgrow (by simp) (by intro k hk; simp [Value.ownBlock] at hk; omega)
    rw [nums_length] at hown1
    go_wp2
    go_ret
    exact ⟨v', rfl, by simpa using hown1, hb1⟩

set_option maxRecDepth 100000 in
set_option maxHeartbeats 1000000 in
theorem clone_ints (v : Value) (l : List Nat) (B : Nat) (w : World) (hr : Rd w B v (nums .i64 l)) (hB : B ≤ w.heap.size) (hl : l.length ≤ 4000000) :
    Calls Tryd.prog 15 #[v] w fun e w' => ∃ v', e = .returned v' ∧ w'.ownsRow w.heap.size 3 1 v' l.length (nums .i64 l) ∧ Below w.heap.size w w' := by
  obtain ⟨i0, hi, hz0, hz1, hz2⟩ := info_parts infoI
  have hr' := hr
  obtain ⟨A, c, hv, _, hc, hx⟩ := hr'
  rw [nums_length] at hv
  subst hv
  rcases A with _ | ad
  · have h0 : l = [] := by
      rcases l with _ | ⟨x, r⟩
      · rfl
      · obtain ⟨g, o, h, _⟩ := hx (by simp [nums])
        cases h
    subst h0
    have hnil := fun w => Lib.run_eql_slice_nil (P := Tryd.prog) w 24
    clear hx hr
    go_enter Tryd.func15, Tryd.ntmps15
    go_wp2
    go_ret
    exact ⟨.slice none 0 0, rfl, by simpa [nums] using World.ownsRow_nil _ _ _ _, Below.refl _ _⟩
  · have hne := fun w => Lib.run_eql_slice_nil (P := Tryd.prog) w 24 3 (some ad) l.length c 0 0 Tryd.underlying24
    have hown0 : (w.alloc (.cells #[] 3)).ownsRow w.heap.size 3 1 (.slice (some ⟨w.heap.size, 0, none⟩) 0 0) 0 [] := World.ownsRow_lit w #[] 0 (Nat.le_refl _) (by decide) (by simp)
    go_enter Tryd.func15, Tryd.ntmps15
    go_wp2_with (at_builtin; refine wpList_append_rd _ rfl _ _ 24 rfl w.heap.size 3 i0 (.int .i64 0) 8 Tryd.underlying24 hi hz0 hz1 hz2 rfl _ 0 [] rfl hown0 B _ (nums .i64 l) rfl (hr.alloc hB _) (nums_one _ l) (by rw [nums_length]; omega) (by rw [nums_length]; omega) (by simp) ?_)
    intro v' w1 hown1 hgrow hat
    have hb1 : Below w.heap.size w w1 := ((Below.refl _ _).alloc (Nat.le_refl _) _).grown hgrow (by simp) (by intro k hk; simp [Value.ownBlock] at hk; omega)
    rw [nums_length] at hown1
    go_wp2
    go_ret
    exact ⟨v', rfl, by simpa using hown1, hb1⟩
end Go.Proofs.YtoicojdnaahimaaDoor.Base
