/- The walk of the law of x86's calls. -/
import Derived.Test.YtmplkbnajohheaaDoorCallSpec
import Derived.Test.YtmplkbnajohheaaDoorCallE8
import Derived.Test.YtmplkbnajohheaaDoorImpl
import Derived.Test.YtmplkbnajohheaaDoorArgs
namespace Go.Proofs.YtmplkbnajohheaaDoor.Call
open Go.RowKit Go.Proofs.YtmplkbnajohheaaDoor.Aid Go.Proofs.YtmplkbnajohheaaDoor.Base

set_option maxRecDepth 100000 in
set_option maxHeartbeats 2000000 in
theorem gives_no (l : List UInt8) (off : Nat) (hl : l.length ≤ 4096) (ho : off ≤ 8388608) : Gives 14 [.int .i64 1, .int .i64 0, .int .i64 (off : Int)] l (run off false l.length 0 l) := by
  intro u w hr
  obtain ⟨i0, hi, hz0, hz1, hz2⟩ := info_parts infoB
  show Calls Tryd.prog 14 #[.int .i64 1, .int .i64 0, .int .i64 (off : Int), u] w _
  go_enter Tryd.func14, Tryd.ntmps14
  go_wp2_with (at_builtin; refine wpList_append_bytes _ rfl _ _ 22 rfl w.heap.size 5 i0 (.int .u8 0) Tryd.underlying22 hi hz0 hz1 hz2 rfl w.heap.size 0 [] rfl (own_nil w 5) w.heap.size _ l rfl (hr.alloc (Nat.le_refl _) _) (by simp; omega) (by simp) ?_)
  intro g cap w1 hown hgrow hat
  have hb1 : Below w.heap.size w w1 := ((Below.refl _ _).alloc (Nat.le_refl _) _).grown hgrow (by simp) (by intro k hk; simp at hk; omega)
  clear hgrow hat
  go_wp2_with (go_at_call 18; refine (e8_any l g cap w.heap.size off false true 232 (fun h => by cases h) (fun _ => rfl) _ hown hl ho).mono ?_; rintro e w2 ⟨rfl, hown2, hb2⟩)
  go_ret2
  refine ⟨_, rfl, ?_, hb1.trans hb2⟩
  have h := hown2.rd
  rw [run_length] at h
  exact h

set_option maxRecDepth 100000 in
set_option maxHeartbeats 2000000 in
theorem gives_yes (l : List UInt8) (off : Nat) (hl : l.length ≤ 4096) (ho : off ≤ 8388608) : Gives 14 [.int .i64 2, .int .i64 0, .int .i64 (off : Int)] l (run off true l.length 0 l) := by
  intro u w hr
  obtain ⟨i0, hi, hz0, hz1, hz2⟩ := info_parts infoB
  show Calls Tryd.prog 14 #[.int .i64 2, .int .i64 0, .int .i64 (off : Int), u] w _
  go_enter Tryd.func14, Tryd.ntmps14
  go_wp2_with (at_builtin; refine wpList_append_bytes _ rfl _ _ 22 rfl w.heap.size 5 i0 (.int .u8 0) Tryd.underlying22 hi hz0 hz1 hz2 rfl w.heap.size 0 [] rfl (own_nil w 5) w.heap.size _ l rfl (hr.alloc (Nat.le_refl _) _) (by simp; omega) (by simp) ?_)
  intro g cap w1 hown hgrow hat
  have hb1 : Below w.heap.size w w1 := ((Below.refl _ _).alloc (Nat.le_refl _) _).grown hgrow (by simp) (by intro k hk; simp at hk; omega)
  clear hgrow hat
  go_wp2_with (go_at_call 18; refine (e8_any l g cap w.heap.size off true true 233 (fun _ => rfl) (fun h => by cases h) _ hown hl ho).mono ?_; rintro e w2 ⟨rfl, hown2, hb2⟩)
  go_ret2
  refine ⟨_, rfl, ?_, hb1.trans hb2⟩
  have h := hown2.rd
  rw [run_length] at h
  exact h

set_option maxRecDepth 100000 in
set_option maxHeartbeats 2000000 in
theorem walk (a0 : Option Addr) (len0 cap0 : Nat) (z0 : List Int) (a1 : Int) (a2 : Bool) (w : World) (w0 : IsRow .u8 w a0 len0 cap0 z0) (w1 : (Lit.int .u32 a1).wf = true) :
    Calls Tryd.prog 4 #[.slice a0 len0 cap0, .int .u32 a1, .bool a2] w fun e w' => e = .returned (.bool true) ∧ Below w.heap.size w w' := by
  obtain ⟨b1, b1'⟩ := bounds_u32 w1
  obtain ⟨l, hll, hr⟩ := rd_of_row w0
  have hlc := (isRow_cells w0).1
  clear w0 w1
  by_cases hbig : 2147483647 < len0
  · clear hr hll
    go_enter Tryd.func4, Tryd.ntmps4
    go_wp2
    go_ret
    exact ⟨rfl, Below.refl _ _⟩
  by_cases hmid : 4096 < len0
  · clear hr hll
    go_enter Tryd.func4, Tryd.ntmps4
    go_wp2
    go_ret
    exact ⟨rfl, Below.refl _ _⟩
  subst hll
  obtain ⟨off, hoff⟩ : ∃ off : Nat, (off : Int) = a1 % 8388608 := ⟨(a1 % 8388608).toNat, by omega⟩
  have ho : off ≤ 8388608 := by omega
  have HO := Lib.hid hoff
  clear hoff
  have hl : l.length ≤ 4096 := by omega
  cases a2
  · go_enter Tryd.func4, Tryd.ntmps4
    go_wp2_with fail
    rw [← HO.out]
    refine (impl_any 1 0 off l (run off false l.length 0 l) hl (by rw [run_length]; exact hl) (gives_no l off hl ho) _ w hr).mono ?_
    rintro e w1 ⟨x, rfl, hrx, hb1⟩
    go_wp2_with fail
    refine (spec_any _ l w.heap.size off false w1 (hr.below hb1) hb1.size hl ho).mono ?_
    rintro e w2 ⟨g, cap, rfl, hown, hb2⟩
    have h2 := hown.rd
    rw [run_length] at h2
    go_wp2_with (go_at_call 9; refine (is_any x _ (run off false l.length 0 l) w1.heap.size w2.heap.size w2 (hrx.below hb2) h2).mono ?_; rintro e w3 ⟨rfl, rfl⟩)
    go_ret
    exact ⟨rfl, hb1.trans (hb2.mono hb1.size)⟩
  · go_enter Tryd.func4, Tryd.ntmps4
    go_wp2_with fail
    rw [← HO.out]
    refine (impl_any 2 0 off l (run off true l.length 0 l) hl (by rw [run_length]; exact hl) (gives_yes l off hl ho) _ w hr).mono ?_
    rintro e w1 ⟨x, rfl, hrx, hb1⟩
    go_wp2_with fail
    refine (spec_any _ l w.heap.size off true w1 (hr.below hb1) hb1.size hl ho).mono ?_
    rintro e w2 ⟨g, cap, rfl, hown, hb2⟩
    have h2 := hown.rd
    rw [run_length] at h2
    go_wp2_with (go_at_call 9; refine (is_any x _ (run off true l.length 0 l) w1.heap.size w2.heap.size w2 (hrx.below hb2) h2).mono ?_; rintro e w3 ⟨rfl, rfl⟩)
    go_ret
    exact ⟨rfl, hb1.trans (hb2.mono hb1.size)⟩
end Go.Proofs.YtmplkbnajohheaaDoor.Call
