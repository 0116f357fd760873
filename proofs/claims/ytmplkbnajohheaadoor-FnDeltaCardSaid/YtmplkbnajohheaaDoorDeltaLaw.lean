/- The walk of the law of channels. -/
import Derived.Test.YtmplkbnajohheaaDoorDelta
import Derived.Test.YtmplkbnajohheaaDoorImpl
import Derived.Test.YtmplkbnajohheaaDoorArgs
namespace Go.Proofs.YtmplkbnajohheaaDoor.Delta
open Go.RowKit Go.Proofs.YtmplkbnajohheaaDoor.Aid Go.Proofs.YtmplkbnajohheaaDoor.Base

set_option maxRecDepth 100000 in
set_option maxHeartbeats 2000000 in
theorem gives (l : List UInt8) (n : Nat) (hl : l.length ≤ 4096) (hn0 : 0 < n) (hn1 : n ≤ 32) : Gives 14 [.int .i64 0, .int .i64 (n : Int), .int .i64 0] l (outer n l.length l n 0 0 (List.replicate l.length 0)) := by
  intro u w hr
  obtain ⟨i0, hi, hz0, hz1, hz2⟩ := info_parts infoB
  show Calls Tryd.prog 14 #[.int .i64 0, .int .i64 (n : Int), .int .i64 0, u] w _
  go_enter Tryd.func14, Tryd.ntmps14
  go_wp2_with (at_builtin; refine wpList_append_bytes _ rfl _ _ 22 rfl w.heap.size 5 i0 (.int .u8 0) Tryd.underlying22 hi hz0 hz1 hz2 rfl w.heap.size 0 [] rfl (own_nil w 5) w.heap.size _ l rfl (hr.alloc (Nat.le_refl _) _) (by simp; omega) (by simp) ?_)
  intro g cap w1 hown hgrow hat
  have hb1 : Below w.heap.size w w1 := ((Below.refl _ _).alloc (Nat.le_refl _) _).grown hgrow (by simp) (by intro k hk; simp at hk; omega)
  clear hgrow hat
  go_wp2_with (go_at_call 17; refine (filter_any l g cap w.heap.size n _ hown hb1.size hl hn0 hn1).mono ?_; rintro e w2 ⟨x, rfl, hrd, hb2⟩)
  go_ret2
  exact ⟨_, rfl, hrd, hb1.trans hb2⟩

set_option maxRecDepth 100000 in
set_option maxHeartbeats 2000000 in
theorem walk (a0 : Option Addr) (len0 cap0 : Nat) (z0 : List Int) (a1 : Int) (w : World) (w0 : IsRow .u8 w a0 len0 cap0 z0) (w1 : (Lit.int .u8 a1).wf = true) :
    Calls Tryd.prog 5 #[.slice a0 len0 cap0, .int .u8 a1] w fun e w' => e = .returned (.bool true) ∧ Below w.heap.size w w' := by
  obtain ⟨b1, b1'⟩ := bounds_u8 w1
  obtain ⟨l, hll, hr⟩ := rd_of_row w0
  have hlc := (isRow_cells w0).1
  clear w0 w1
  by_cases hbig : 2147483647 < len0
  · clear hr hll
    go_enter Tryd.func5, Tryd.ntmps5
    go_wp2
    go_ret
    exact ⟨rfl, Below.refl _ _⟩
  by_cases hmid : 4096 < len0
  · clear hr hll
    go_enter Tryd.func5, Tryd.ntmps5
    go_wp2
    go_ret
    exact ⟨rfl, Below.refl _ _⟩
  subst hll
  obtain ⟨n, hn⟩ : ∃ n : Nat, (n : Int) = 1 + a1 % 32 := ⟨(1 + a1 % 32).toNat, by omega⟩
  have hn0 : 0 < n := by omega
  have hn1 : n ≤ 32 := by omega
  have HN := Lib.hid hn
  clear hn
  have hl : l.length ≤ 4096 := by omega
  have hol := outer_length n l.length l n 0 0 (List.replicate l.length 0)
  rw [List.length_replicate] at hol
  have HOL := Lib.hid hol
  clear hol
  go_enter Tryd.func5, Tryd.ntmps5
  go_wp2_with fail
  rw [← HN.out]
  refine (impl_any 0 n 0 l (outer n l.length l n 0 0 (List.replicate l.length 0)) hl (by rw [HOL.out]; exact hl) (gives l n hl hn0 hn1) _ w hr).mono ?_
  rintro e w1 ⟨x, rfl, hrx, hb1⟩
  go_wp2_with fail
  refine (spec_any _ l w.heap.size n w1 (hr.below hb1) hb1.size hl hn0 hn1).mono ?_
  rintro e w2 ⟨h, c, rfl, hrd, hb2⟩
  go_wp2_with (go_at_call 9; refine (is_any x _ (outer n l.length l n 0 0 (List.replicate l.length 0)) w1.heap.size w2.heap.size w2 (hrx.below hb2) hrd).mono ?_; rintro e w3 ⟨rfl, rfl⟩)
  go_ret
  exact ⟨rfl, hb1.trans (hb2.mono hb1.size)⟩
end Go.Proofs.YtmplkbnajohheaaDoor.Delta
