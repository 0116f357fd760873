/- The walk of the law of ARM's calls. -/
import Derived.Test.YtmplkbnajohheaaDoorArm
import Derived.Test.YtmplkbnajohheaaDoorImpl
import Derived.Test.YtmplkbnajohheaaDoorArgs
namespace Go.Proofs.YtmplkbnajohheaaDoor.Arm
open Go.RowKit Go.Proofs.YtmplkbnajohheaaDoor.Aid Go.Proofs.YtmplkbnajohheaaDoor.Base

theorem gives (l : List UInt8) (off : Nat) (hl : l.length ≤ 4096) (ho : off ≤ 8388608) : Gives 14 [.int .i64 3, .int .i64 0, .int .i64 (off : Int)] l (upto off l (l.length / 4)) :=
  fun u w hr => zz_any u l off w hr hl ho

set_option maxRecDepth 100000 in
set_option maxHeartbeats 2000000 in
theorem walk (a0 : Option Addr) (len0 cap0 : Nat) (z0 : List Int) (a1 : Int) (w : World) (w0 : IsRow .u8 w a0 len0 cap0 z0) (w1 : (Lit.int .u32 a1).wf = true) :
    Calls Tryd.prog 3 #[.slice a0 len0 cap0, .int .u32 a1] w fun e w' => e = .returned (.bool true) ∧ Below w.heap.size w w' := by
  obtain ⟨b1, b1'⟩ := bounds_u32 w1
  obtain ⟨l, hll, hr⟩ := rd_of_row w0
  have hlc := (isRow_cells w0).1
  clear w0 w1
  by_cases hbig : 2147483647 < len0
  · clear hr hll
    go_enter Tryd.func3, Tryd.ntmps3
    go_wp2
    go_ret
    exact ⟨rfl, Below.refl _ _⟩
  by_cases hmid : 4096 < len0
  · clear hr hll
    go_enter Tryd.func3, Tryd.ntmps3
    go_wp2
    go_ret
    exact ⟨rfl, Below.refl _ _⟩
  subst hll
  obtain ⟨off, hoff⟩ : ∃ off : Nat, (off : Int) = a1 % 8388608 / 4 * 4 := ⟨(a1 % 8388608 / 4 * 4).toNat, by omega⟩
  have ho : off ≤ 8388608 := by omega
  have HO := Lib.hid hoff
  clear hoff
  have hl : l.length ≤ 4096 := by omega
  go_enter Tryd.func3, Tryd.ntmps3
  go_wp2_with fail
  rw [← HO.out]
  refine (impl_any 3 0 off l (upto off l (l.length / 4)) hl (by rw [upto_length]; exact hl) (gives l off hl ho) _ w hr).mono ?_
  rintro e w1 ⟨x, rfl, hrx, hb1⟩
  go_wp2_with fail
  refine (spec_any _ l w.heap.size off w1 (hr.below hb1) hb1.size hl ho).mono ?_
  rintro e w2 ⟨g, cap, rfl, hown, hb2⟩
  have h2 := hown.rd
  rw [upto_length] at h2
  go_wp2_with (go_at_call 9; refine (is_any x _ (upto off l (l.length / 4)) w1.heap.size w2.heap.size w2 (hrx.below hb2) h2).mono ?_; rintro e w3 ⟨rfl, rfl⟩)
  go_ret
  exact ⟨rfl, hb1.trans (hb2.mono hb1.size)⟩
end Go.Proofs.YtmplkbnajohheaaDoor.Arm
