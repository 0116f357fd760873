/- The walks of the two laws of the older format's filters: x86's calls and channels. -/
import Derived.Test.YtmplkbnajohheaaDoorOld
import Derived.Maps.Views
import Derived.Test.YtmplkbnajohheaaDoorCallSpec
import Derived.Test.YtmplkbnajohheaaDoorImpl
import Derived.Test.YtmplkbnajohheaaDoorArgs
namespace Go.Proofs.YtmplkbnajohheaaDoor.Old
open Go.RowKit Go.Maps Go.Proofs.YtmplkbnajohheaaDoor.Aid Go.Proofs.YtmplkbnajohheaaDoor.Base

set_option maxRecDepth 100000 in
set_option maxHeartbeats 2000000 in
theorem e8_no (p1 p2 : Int) (l : List UInt8) (off : Nat) (hl : l.length ≤ 4096) (ho : off ≤ 8388608) : Filters 23 p1 p2 off l (Call.run off false l.length 0 l) := by
  intro g cap m base w hown hbw hmap
  go_enter Tryd.func23, Tryd.ntmps23
  go_wp2_with (go_at_call 18; refine (Call.e8_any l g cap base off false false 232 (fun h => by cases h) (fun _ => rfl) _ hown hl ho).mono ?_; rintro e w2 ⟨rfl, hown2, hb2⟩)
  go_ret2
  refine ⟨_, rfl, ?_, hb2⟩
  have h := hown2.rd
  rw [Call.run_length] at h
  exact h

set_option maxRecDepth 100000 in
set_option maxHeartbeats 2000000 in
theorem e8_yes (p1 p2 : Int) (l : List UInt8) (off : Nat) (hl : l.length ≤ 4096) (ho : off ≤ 8388608) : Filters 24 p1 p2 off l (Call.run off true l.length 0 l) := by
  intro g cap m base w hown hbw hmap
  go_enter Tryd.func24, Tryd.ntmps24
  go_wp2_with (go_at_call 18; refine (Call.e8_any l g cap base off true false 233 (fun _ => rfl) (fun h => by cases h) _ hown hl ho).mono ?_; rintro e w2 ⟨rfl, hown2, hb2⟩)
  go_ret2
  refine ⟨_, rfl, ?_, hb2⟩
  have h := hown2.rd
  rw [Call.run_length] at h
  exact h

theorem look0 (n : Nat) (p2 c : Int) (h : ((((DataW.map []).put (.int .i64 0) (.lit (.int .u32 (n : Int)))).put (.int .i64 1) (.lit (.int .u32 p2))) : DataW Unit).atKey (.int .i64 0) (.lit (.int .u32 0)) = .lit (.int .u32 c)) : c = n := by
  rw [atKey_put_other (by intro e; injection e with _ e; cases e), atKey_put_same ⟨[], rfl⟩ (by simp [WideAt.IsKeyLit])] at h
  injection h with h
  injection h with _ h
  exact h.symm

set_option maxRecDepth 100000 in
set_option maxHeartbeats 2000000 in
theorem delta (p2 off : Int) (l : List UInt8) (n : Nat) (hl : l.length ≤ 4096) (hn0 : 0 < n) (hn1 : n ≤ 32) : Filters 26 n p2 off l (Delta.outer n l.length l n 0 0 (List.replicate l.length 0)) := by
  intro g cap m base w hown hbw hmap
  go_enter Tryd.func26, Tryd.ntmps26
  go_wp2_with (first
    | (at_lookup; refine wpList_lookup_own_int _ rfl _ _ 49 rfl 3 23 .u32 law3 Tryd.underlying49 Tryd.underlying23 (zero23 _) m 2 _ rfl hmap _ _ rfl key0 ?_; intro c hat hwc; obtain rfl := look0 n p2 c hat)
    | (go_at_call 17; refine (Delta.filter_any l g cap base n _ hown hbw hl hn0 hn1).mono ?_; rintro e w2 ⟨x, rfl, hrd, hb2⟩))
  go_ret2
  exact ⟨_, rfl, hrd, hb2⟩

set_option maxRecDepth 100000 in
set_option maxHeartbeats 2000000 in
theorem walkCalls (a0 : Option Addr) (len0 cap0 : Nat) (z0 : List Int) (a1 : Int) (a2 : Bool) (w : World) (w0 : IsRow .u8 w a0 len0 cap0 z0) (w1 : (Lit.int .u32 a1).wf = true) :
    Calls Tryd.prog 6 #[.slice a0 len0 cap0, .int .u32 a1, .bool a2] w fun e w' => e = .returned (.bool true) ∧ Below w.heap.size w w' := by
  obtain ⟨b1, b1'⟩ := bounds_u32 w1
  obtain ⟨l, hll, hr⟩ := rd_of_row w0
  have hlc := (isRow_cells w0).1
  clear w0 w1
  by_cases hbig : 2147483647 < len0
  · clear hr hll
    go_enter Tryd.func6, Tryd.ntmps6
    go_wp2
    go_ret
    exact ⟨rfl, Below.refl _ _⟩
  by_cases hlow : len0 < 5
  · clear hr hll
    go_enter Tryd.func6, Tryd.ntmps6
    go_wp2
    go_ret
    exact ⟨rfl, Below.refl _ _⟩
  by_cases hmid : 4096 < len0
  · clear hr hll
    go_enter Tryd.func6, Tryd.ntmps6
    go_wp2
    go_ret
    exact ⟨rfl, Below.refl _ _⟩
  subst hll
  obtain ⟨off, hoff⟩ : ∃ off : Nat, (off : Int) = a1 % 8388608 := ⟨(a1 % 8388608).toNat, by omega⟩
  have ho : off ≤ 8388608 := by omega
  have HO := Lib.hid hoff
  clear hoff
  have hl : l.length ≤ 4096 := by omega
  have z : (Lit.int .u32 0).wf = true := by decide
  cases a2
  · go_enter Tryd.func6, Tryd.ntmps6
    go_wp2_with fail
    rw [← HO.out]
    refine (impl_any 0 0 0 off l (Call.run off false l.length 0 l) hl (by rw [Call.run_length]; exact hl) (old0 0 0 off l _ z z hl (e8_no 0 0 l off hl ho)) _ w hr).mono ?_
    rintro e w1 ⟨x, rfl, hrx, hb1⟩
    go_wp2_with fail
    refine (Call.spec_any _ l w.heap.size off false w1 (hr.below hb1) hb1.size hl ho).mono ?_
    rintro e w2 ⟨g, cap, rfl, hown, hb2⟩
    have h2 := hown.rd
    rw [Call.run_length] at h2
    go_wp2_with (go_at_call 9; refine (is_any x _ (Call.run off false l.length 0 l) w1.heap.size w2.heap.size w2 (hrx.below hb2) h2).mono ?_; rintro e w3 ⟨rfl, rfl⟩)
    go_ret
    exact ⟨rfl, hb1.trans (hb2.mono hb1.size)⟩
  · go_enter Tryd.func6, Tryd.ntmps6
    go_wp2_with fail
    rw [← HO.out]
    refine (impl_any 1 0 0 off l (Call.run off true l.length 0 l) hl (by rw [Call.run_length]; exact hl) (old1 0 0 off l _ z z hl (e8_yes 0 0 l off hl ho)) _ w hr).mono ?_
    rintro e w1 ⟨x, rfl, hrx, hb1⟩
    go_wp2_with fail
    refine (Call.spec_any _ l w.heap.size off true w1 (hr.below hb1) hb1.size hl ho).mono ?_
    rintro e w2 ⟨g, cap, rfl, hown, hb2⟩
    have h2 := hown.rd
    rw [Call.run_length] at h2
    go_wp2_with (go_at_call 9; refine (is_any x _ (Call.run off true l.length 0 l) w1.heap.size w2.heap.size w2 (hrx.below hb2) h2).mono ?_; rintro e w3 ⟨rfl, rfl⟩)
    go_ret
    exact ⟨rfl, hb1.trans (hb2.mono hb1.size)⟩

set_option maxRecDepth 100000 in
set_option maxHeartbeats 2000000 in
theorem walkDelta (a0 : Option Addr) (len0 cap0 : Nat) (z0 : List Int) (a1 : Int) (w : World) (w0 : IsRow .u8 w a0 len0 cap0 z0) (w1 : (Lit.int .u8 a1).wf = true) :
    Calls Tryd.prog 7 #[.slice a0 len0 cap0, .int .u8 a1] w fun e w' => e = .returned (.bool true) ∧ Below w.heap.size w w' := by
  obtain ⟨b1, b1'⟩ := bounds_u8 w1
  obtain ⟨l, hll, hr⟩ := rd_of_row w0
  have hlc := (isRow_cells w0).1
  clear w0 w1
  by_cases hbig : 2147483647 < len0
  · clear hr hll
    go_enter Tryd.func7, Tryd.ntmps7
    go_wp2
    go_ret
    exact ⟨rfl, Below.refl _ _⟩
  by_cases hlow : len0 = 0
  · clear hr hll
    go_enter Tryd.func7, Tryd.ntmps7
    go_wp2
    go_ret
    exact ⟨rfl, Below.refl _ _⟩
  by_cases hmid : 4096 < len0
  · clear hr hll
    go_enter Tryd.func7, Tryd.ntmps7
    go_wp2
    go_ret
    exact ⟨rfl, Below.refl _ _⟩
  subst hll
  obtain ⟨n, hn⟩ : ∃ n : Nat, (n : Int) = 1 + a1 % 32 := ⟨(1 + a1 % 32).toNat, by omega⟩
  have hn0 : 0 < n := by omega
  have hn1 : n ≤ 32 := by omega
  have HN := Lib.hid hn
  clear hn
  have hl : l.length ≤ 4096 := by omega
  have z : (Lit.int .u32 0).wf = true := by decide
  have zn : (Lit.int .u32 (n : Int)).wf = true := by
    rcases (show n ≤ 32 from hn1) with h
    have : ∀ k, k ≤ 32 → (Lit.int .u32 (k : Nat)).wf = true := by decide
    exact this n hn1
  have hol := Delta.outer_length n l.length l n 0 0 (List.replicate l.length 0)
  rw [List.length_replicate] at hol
  have HOL := Lib.hid hol
  clear hol
  have hnz : (((l.length : Nat) : Int) == 0) = false := decide_eq_false (by omega)
  go_enter Tryd.func7, Tryd.ntmps7
  go_wp2_with fail
  rw [← HN.out]
  refine (impl_any 3 n 0 0 l (Delta.outer n l.length l n 0 0 (List.replicate l.length 0)) hl (by rw [HOL.out]; exact hl) (old3 n 0 0 l _ zn z hl (delta 0 0 l n hl hn0 hn1)) _ w hr).mono ?_
  rintro e w1 ⟨x, rfl, hrx, hb1⟩
  go_wp2_with fail
  refine (Delta.spec_any _ l w.heap.size n w1 (hr.below hb1) hb1.size hl hn0 hn1).mono ?_
  rintro e w2 ⟨h, c, rfl, hrd, hb2⟩
  go_wp2_with (go_at_call 9; refine (is_any x _ (Delta.outer n l.length l n 0 0 (List.replicate l.length 0)) w1.heap.size w2.heap.size w2 (hrx.below hb2) hrd).mono ?_; rintro e w3 ⟨rfl, rfl⟩)
  go_ret
  exact ⟨rfl, hb1.trans (hb2.mono hb1.size)⟩
end Go.Proofs.YtmplkbnajohheaaDoor.Old
