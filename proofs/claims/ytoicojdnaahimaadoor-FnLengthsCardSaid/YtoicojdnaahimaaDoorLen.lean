/- The walk of the reference's lengths. -/
import Derived.Test.YtoicojdnaahimaaDoorLenPlain
import Derived.Test.YtoicojdnaahimaaDoorMake
namespace Go.Proofs.YtoicojdnaahimaaDoor.Len
open Go Go.RowKit Go.Proofs.YtoicojdnaahimaaDoor.Aid Go.Proofs.YtoicojdnaahimaaDoor.Base

theorem rd_num (w : World) (k : IntKind) (x e : Nat) : Rd (w.alloc (.cells #[.int k (x : Int)] e)) (w.heap.size + 1) (.slice (some ⟨w.heap.size, 0, none⟩) 1 1) (nums k [x]) := rd_one w _ e

set_option maxRecDepth 100000 in
set_option maxHeartbeats 1000000 in
theorem len_any (v : Value) (us : List Bool) (n ways B : Nat) (w : World) (hr : Rd w B v (us.map .bool)) (hB : B ≤ w.heap.size) (hus : us.length = n) (hn0 : 3 ≤ n) (hn : n ≤ 430) (hways : ways ≤ 5) :
    Calls Tryd.prog 5 #[v, .int .i64 (ways : Int)] w fun e w' => ∃ (o : List Nat) (m : Nat), e = .returned (.slice (some ⟨w.heap.size, 0, none⟩) n n) ∧ 2 ^ m ≤ n ∧ Good us n (ways + m + 1) o ∧ Row .i64 w' w.heap.size 3 w.heap.size n o ∧ Below w.heap.size w w' := by
  obtain ⟨i0, hi, hz0, hz1, hz2⟩ := info_parts infoI
  obtain ⟨A, cap, hv, hA1, hA2, hA3⟩ := hr
  rw [List.length_map, hus] at hv hA1 hA3
  subst hv
  obtain ⟨g, o, rfl, hg, hcell0⟩ := hA3 (by omega)
  have hcell : ∀ j, j < n → w.cell? ⟨g, o + j, none⟩ = some (.bool (us.getD j false)) := fun j hj => hcell0 j _ (by rw [List.getElem?_map, List.getElem?_eq_getElem (by omega), List.getD_eq_getElem?_getD, List.getElem?_eq_getElem (by omega)]; rfl)
  have HC := Lib.hid hcell
  clear hcell0 hcell
  have hmk := run_zeros (P := Tryd.prog) 24 3 i0 (.int .i64 0) 8 Tryd.underlying24 hi hz0 hz1 hz2 (by omega) rfl n (by omega)
  have hm0 := row_zeros .i64 w 3 n (by omega)
  obtain ⟨H, hH⟩ : ∃ H, w.heap.size = H := ⟨_, rfl⟩
  have hr0 := row_nil .i64 (w.alloc (.cells (zeros (.int .i64 0) n) 3)) 3
  have hs1 : (w.alloc (.cells (zeros (.int .i64 0) n) 3)).heap.size = H + 1 := by rw [← hH]; simp
  have hs2 : ((w.alloc (.cells (zeros (.int .i64 0) n) 3)).alloc (.cells #[] 3)).heap.size = H + 2 := by rw [← hH]; simp
  have hm1 := hm0.alloc (.cells #[] 3)
  rw [hs1] at hr0
  rw [hH] at hm1
  have hr1 := hr0.low (Nat.le_succ H)
  have hb0 : Below H w ((w.alloc (.cells (zeros (.int .i64 0) n) 3)).alloc (.cells #[] 3)) := ((Below.refl _ _).alloc (Nat.le_of_eq hH.symm) _).alloc (by rw [hs1]; omega) _
  have hgH : g < H := by omega
  go_enter Tryd.func5, Tryd.ntmps5
  go_wp2
  generalize ((w.alloc (.cells (zeros (.int .i64 0) n) 3)).alloc (.cells #[] 3)) = w0 at hr1 hm1 hb0 hs2 ⊢
  have HH := Lib.hid hH
  clear hH hmk hm0 hr0 hs1 hA3 hB
  go_loopw [6, 21] (fun vl i wr => ∃ (k gl cl : Nat) (li : List Nat), k ≤ n ∧ i = .int .i64 (k : Int) ∧ vl = .slice (some ⟨gl, 0, none⟩) li.length cl ∧ H < gl ∧ H < wr.heap.size ∧ Hid (L1 us k li) ∧ Row .i64 wr H 3 gl cl li ∧ Row .i64 wr H 3 H n (List.replicate n 0) ∧ Below H w wr)
    (fun _ i _ => n - (intOf i).toNat)
  case atStart => exact ⟨0, H + 1, 0, [], by omega, rfl, rfl, by omega, by omega, L1.nil us, hr1, hm1, hb0⟩
  case round =>
    obtain ⟨k, gl, cl, li, hk, rfl, rfl, hgl, hsz, h1, hrow, hout, hb⟩ := hrel
    by_cases hlt : k < n
    · have hc := (hb.cell (p := ⟨g, o + k, none⟩) hgH).trans (HC.out k hlt)
      cases hu : us.getD k false
      · rw [hu] at hc
        go_wp2
        exact ⟨⟨k + 1, gl, cl, li, by omega, by go_num, rfl, hgl, hsz, h1.out.skip hu, hrow, hout, hb⟩, by simp [intOf]; omega⟩
      · rw [hu] at hc
        have hll := h1.out.len
        go_wp2_with (at_builtin; refine wpList_append_nums _ rfl _ _ 24 rfl .i64 H 3 i0 (.int .i64 0) 8 Tryd.underlying24 hi hz0 hz1 hz2 rfl (by omega) gl cl li rfl (hrow.alloc _) (wr.heap.size + 1) _ [k] rfl (rd_num wr .i64 k 3) (by simp; omega) (by simp; omega) ?_; intro g2 c2 w2 hrow2 hgr hat)
        have hgl2 : H < g2 := by rcases hat with h | h; omega; simp at h; omega
        have hs2' := hgr.size
        exact ⟨⟨k + 1, g2, c2, li ++ [k], by omega, by go_num, by simp, hgl2, by simp at hs2'; omega, h1.out.add hu, hrow2, (hout.alloc _).turn ((Turn.refl (fun b => b = gl) _).grown hgr (fun k hk _ => by cases hk; rfl)) (by omega), (hb.alloc (by omega) _).grown hgr (by simp; omega) (fun k hk => by cases hk; omega)⟩, by simp [intOf]; omega⟩
    · obtain rfl : n = k := by omega
      have H2 : Hid (L2 us n 0 li) := L2.start h1.out
      clear h1 hlt hk hr1 hm1 hb0 hs2
      go_wp2
      go_loopw [6, 9] (fun vl i wr => ∃ (k gl cl : Nat) (li : List Nat), i = .int .i64 (k : Int) ∧ vl = .slice (some ⟨gl, 0, none⟩) li.length cl ∧ H < gl ∧ H < wr.heap.size ∧ Hid (L2 us n k li) ∧ Row .i64 wr H 3 gl cl li ∧ Row .i64 wr H 3 H n (List.replicate n 0) ∧ Below H w wr)
        (fun _ i _ => 3 - (intOf i).toNat)
      case atStart => exact ⟨0, gl, cl, li, rfl, rfl, hgl, hsz, H2, hrow, hout, hb⟩
      case round =>
        obtain ⟨k, gl, cl, li, rfl, rfl, hgl, hsz, h2, hrow, hout, hb⟩ := hrel
        have hll := h2.out.len
        by_cases hlt : li.length < 2
        · have hk1 := h2.out.low_lt hlt
          have hkn : k < n := by omega
          have hc := (hb.cell (p := ⟨g, o + k, none⟩) hgH).trans (HC.out k hkn)
          cases hu : us.getD k false
          · rw [hu] at hc
            go_wp2_with (at_builtin; refine wpList_append_nums _ rfl _ _ 24 rfl .i64 H 3 i0 (.int .i64 0) 8 Tryd.underlying24 hi hz0 hz1 hz2 rfl (by omega) gl cl li rfl (hrow.alloc _) (wr.heap.size + 1) _ [k] rfl (rd_num wr .i64 k 3) (by simp; omega) (by simp; omega) ?_; intro g2 c2 w2 hrow2 hgr hat)
            have hgl2 : H < g2 := by rcases hat with h | h; omega; simp at h; omega
            have hs2' := hgr.size
            exact ⟨⟨k + 1, g2, c2, li ++ [k], by go_num, by simp, hgl2, by simp at hs2'; omega, h2.out.add hu hkn hlt, hrow2, (hout.alloc _).turn ((Turn.refl (fun b => b = gl) _).grown hgr (fun k hk _ => by cases hk; rfl)) (by omega), (hb.alloc (by omega) _).grown hgr (by simp; omega) (fun k hk => by cases hk; omega)⟩, by simp [intOf]; omega⟩
          · rw [hu] at hc
            go_wp2
            exact ⟨⟨k + 1, gl, cl, li, by go_num, rfl, hgl, hsz, h2.out.skip hu hkn, hrow, hout, hb⟩, by simp [intOf]; omega⟩
        · have HL : Hid (Ls n li) := Ls.of h2.out
          have hlen : 2 ≤ li.length ∧ li.length ≤ 430 := by omega
          have hcl := hrow.caps
          go_wp2
          go_loopw [6, 10] (fun vl i wr => ∃ (d : Nat) (o : List Nat), i = .int .i64 (d : Int) ∧ vl = .slice (some ⟨gl, d, none⟩) (li.length - d) (cl - d) ∧ d ≤ ways ∧ d + 2 ≤ li.length ∧ Hid (Out n li d d (2 ^ 15 - 2 ^ (15 - d)) o) ∧ Row .i64 wr H 3 gl cl li ∧ Row .i64 wr H 3 H n o ∧ Below H w wr)
            (fun _ i _ => ways - (intOf i).toNat)
          case atStart => exact ⟨0, List.replicate n 0, rfl, rfl, by omega, by omega, Out.zero n li, hrow, hout, hb⟩
          case round =>
            obtain ⟨d, o2, rfl, rfl, hdw, hdl, h3, hrow, hout, hb⟩ := hrel
            by_cases hdw2 : d < ways ∧ 2 < li.length - d
            · obtain ⟨hdw2, hdl2⟩ := hdw2
              have hcx := hrow.cell (j := d) (by omega)
              have hsn := HL.out.lt d (by omega)
              obtain ⟨x, hx⟩ : ∃ x, x = li.getD d 0 := ⟨_, rfl⟩
              rw [← hx] at hcx hsn
              have HX := Lib.hid hx
              clear hx
              have hfr := hout.frozen x
              have hcy := hout.cell (j := x) (by rw [h3.out.len]; exact hsn)
              go_wp2
              have h4 := h3.out.step HL.out (by omega : d < li.length) (d + 1) (d + 1) (by omega) (by omega) (by omega)
              rw [← HX.out, worth_first d (by omega)] at h4
              have hr2 := hout.set x (d + 1) (v := (d : Int) + 1) (by omega)
              refine ⟨⟨d + 1, _, by go_num, by simp; omega, by omega, by omega, h4, hrow.other (by show H ≠ gl; omega) _, hr2, hb.setCell (Nat.le_refl _) _⟩, by simp [intOf]; omega⟩
            · obtain ⟨L, hL⟩ : ∃ L, L = li.length - d := ⟨_, rfl⟩
              have hL2 : 2 ≤ L ∧ L ≤ 430 := by omega
              have HLL := Lib.hid hL
              have hcase : ways ≤ d ∨ (d < ways ∧ li.length - d ≤ 2) := by omega
              clear hdw2
              rcases hcase with hw | ⟨hw, hw2⟩
              all_goals go_wp2
              all_goals rw [← hL]
              all_goals clear hL
              all_goals (
                go_loopw [11] (fun i wx => wx = wr ∧ ∃ m : Nat, i = .int .i64 (m : Int) ∧ 2 ^ m ≤ L) (fun i _ => 9 - (intOf i).toNat)
                case atStart => exact ⟨rfl, 0, rfl, by omega⟩
                case round =>
                  obtain ⟨rfl, m, rfl, hm⟩ := hrel
                  have hm8 : m ≤ 8 := Decidable.byContradiction fun hx => by
                    have : 2 ^ 9 ≤ 2 ^ m := Nat.pow_le_pow_right (by omega) (by omega)
                    omega
                  obtain ⟨T, hT⟩ : ∃ T : Nat, (2 : Int) ^ m = (T : Int) := ⟨2 ^ m, by push_cast; rfl⟩
                  have HT : Hid (T = 2 ^ m) := by
                    have : ((2 ^ m : Nat) : Int) = (T : Int) := by push_cast; exact hT
                    show T = 2 ^ m
                    omega
                  rw [← HT.out] at hm
                  by_cases hx : 2 * T ≤ L
                  · go_wp2
                    exact ⟨⟨trivial, m + 1, by go_num, by have := HT.out; rw [Nat.pow_succ]; omega⟩, by simp [intOf]; omega⟩
                  · have hd5 : d ≤ 5 := by omega
                    have hm1 : 0 < m := by
                      rcases m with _ | m
                      · have := HT.out; omega
                      · omega
                    have HO : Hid (Out n li (d + 0) (d + m + 1) (after d m (2 * T - L) 0) o2) := h3.out.mono (by omega) (after_zero _ _ _).symm
                    go_wp2
                    go_loopw [78] (fun i wr => ∃ (k : Nat) (o : List Nat), i = .int .i64 (k : Int) ∧ k ≤ L ∧ Hid (Out n li (d + k) (d + m + 1) (after d m (2 * T - L) k) o) ∧ Row .i64 wr H 3 gl cl li ∧ Row .i64 wr H 3 H n o ∧ Below H w wr)
                      (fun i _ => L - (intOf i).toNat)
                    case atStart => exact ⟨0, o2, rfl, by omega, HO, hrow, hout, hb⟩
                    case round =>
                      obtain ⟨j, o5, rfl, hj, h5, hrow, hout, hb⟩ := hrel
                      have hlen5 := h5.out.len
                      by_cases hjl : j < L
                      · have hdj : d + j < li.length := by have := HLL.out; omega
                        have hcx := hrow.cell (j := d + j) hdj
                        have hsn := HL.out.lt (d + j) hdj
                        obtain ⟨x, hx2⟩ : ∃ x, x = li.getD (d + j) 0 := ⟨_, rfl⟩
                        rw [← hx2] at hcx hsn
                        have HX := Lib.hid hx2
                        clear hx2
                        have hfr := hout.frozen x
                        have hcy := hout.cell (j := x) (by omega)
                        have hr2 := hout.set x (d + m + 1) (v := (d : Int) + m + 1) (by omega)
                        by_cases hsh : j < 2 * T - L
                        · have hfr2 := hr2.frozen x
                          have hcy2 := hr2.cell (j := x) (by simp; omega)
                          have hr3 := hr2.set x (d + m) (v := (d : Int) + m) (by omega)
                          rw [List.set_set] at hr3
                          go_wp2
                          have h6 := h5.out.step HL.out hdj (d + m) (d + m + 1) (by omega) (by omega) (Nat.le_refl _)
                          rw [← HX.out, after_short d m _ j hsh (by omega)] at h6
                          refine ⟨⟨j + 1, _, by go_num, by omega, h6, (hrow.other (by show H ≠ gl; omega) _).other (by show H ≠ gl; omega) _, hr3, (hb.setCell (Nat.le_refl _) _).setCell (Nat.le_refl _) _⟩, by simp [intOf]; omega⟩
                        · go_wp2
                          have h6 := h5.out.step HL.out hdj (d + m + 1) (d + m + 1) (by omega) (by omega) (Nat.le_refl _)
                          rw [← HX.out, after_long d m _ j hsh] at h6
                          refine ⟨⟨j + 1, _, by go_num, by omega, h6, hrow.other (by show H ≠ gl; omega) _, hr2, hb.setCell (Nat.le_refl _) _⟩, by simp [intOf]; omega⟩
                      · obtain rfl : L = j := by omega
                        go_wp2
                        go_ret
                        have hT2 := HT.out
                        have hLL := HLL.out
                        have hall := after_all d m L (by omega) (by omega) (by omega)
                        rw [← hT2] at hall
                        have h7 := h5.out
                        rw [show d + L = li.length by omega] at h7
                        have hgood := Good.of h2.out (h7.mono (show d + m + 1 ≤ ways + m + 1 by omega) rfl) hall
                        have h2m : 2 ^ m ≤ n := by omega
                        obtain rfl := HH.out
                        exact ⟨o5, m, rfl, h2m, hgood, hout, hb⟩)
end Go.Proofs.YtoicojdnaahimaaDoor.Len
