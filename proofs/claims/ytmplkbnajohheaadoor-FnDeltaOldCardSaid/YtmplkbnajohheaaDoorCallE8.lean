/- The walk of the package's filter of x86 over a row of bytes that the caller owns. -/
import Derived.Test.YtmplkbnajohheaaDoorCallLe
import Derived.WalkSmall
namespace Go.Proofs.YtmplkbnajohheaaDoor.Call
open Go.RowKit Go.Proofs.YtmplkbnajohheaaDoor.Aid Go.Proofs.YtmplkbnajohheaaDoor.Base

/-- How many elements a slice value has. -/
def cnt : Value → Nat | .slice _ n _ => n | _ => 0

set_option maxRecDepth 100000 in
set_option maxHeartbeats 4000000 in
theorem e8_any (l : List UInt8) (g cap base off : Nat) (jumps v5 : Bool) (C : Int) (hj1 : jumps = true → C = 233) (hj2 : jumps = false → C = 232) (w : World) (hown : Own w base 5 g cap l) (hl : l.length ≤ 4096) (ho : off ≤ 8388608) :
    Calls Tryd.prog 18 #[.int .u8 C, .bool v5, .slice (some ⟨g, 0, none⟩) l.length cap, .int .i64 (off : Int)] w fun e w' => e = .returned (.tuple #[.slice (some ⟨g, 0, none⟩) l.length cap, .nilIface]) ∧ Own w' base 5 g cap (run off jumps l.length 0 l) ∧ Below base w w' := by
  have hcaps := hown.caps
  have hC : C = 232 ∨ C = 233 := by
    cases jumps
    · exact .inl (hj2 rfl)
    · exact .inr (hj1 rfl)
  have HJ : Hid ((jumps = true → C = 233) ∧ (jumps = false → C = 232)) := ⟨hj1, hj2⟩
  clear hj1 hj2
  go_enter Tryd.func18, Tryd.ntmps18
  go_wp2
  go_loopw [10, 11] (fun vo vb wr => ∃ (f k r cr : Nat) (A : Option Addr) (t : List UInt8), vo = .int .i32 ((off : Int) + (k : Int)) ∧ vb = .slice A r cr ∧ Hid (k + r = l.length) ∧ r ≤ cr ∧ cr ≤ 9223372036854775807 ∧ Hid (0 < r → A = some ⟨g, k, none⟩) ∧ l.length ≤ k + f ∧ Hid (run off jumps f k t = run off jumps l.length 0 l) ∧ Hid (t.length = l.length) ∧ Own wr base 5 g cap t ∧ Below base w wr)
    (fun _ vb _ => cnt vb)
  case atStart => exact ⟨l.length, 0, l.length, cap, _, l, by go_num, rfl, by show 0 + _ = _; omega, hcaps.1, hcaps.2, fun _ => rfl, by omega, rfl, rfl, hown, Below.refl _ _⟩
  case round =>
    obtain ⟨f, k, r, cr, A, t, rfl, rfl, HK, hrc, hcm, HA, hf, HR, HLEN, hownr, hbr⟩ := hrel
    by_cases hlt : 5 ≤ r
    · obtain ⟨r, rfl⟩ : ∃ r', r = r' + 5 := ⟨r - 5, by omega⟩
      obtain ⟨cr, rfl⟩ : ∃ c', cr = c' + 5 := ⟨cr - 5, by omega⟩
      have hAe := HA.out (by omega)
      subst hAe
      have hkr := HK.out
      obtain ⟨f, rfl⟩ : ∃ f', f = f' + 1 := ⟨f - 1, by omega⟩
      have hk5 : k + 5 ≤ t.length := by rw [HLEN.out]; omega
      have hk : k + r + 5 ≤ 4096 := by omega
      have HKR : Hid (k + 5 + r = l.length) := by show k + 5 + r = l.length; omega
      have HKR1 : Hid (k + 1 + (r + 4) = l.length) := by show k + 1 + (r + 4) = l.length; omega
      have hff : l.length ≤ k + 5 + f := by omega
      have hff1 : l.length ≤ k + 1 + f := by omega
      clear hkr HA HK
      have c0 := hownr.cell (j := k) (by omega)
      have c1 := hownr.cell (j := k + 1) (by omega)
      have c2 := hownr.cell (j := k + 2) (by omega)
      have c3 := hownr.cell (j := k + 3) (by omega)
      have c4 := hownr.cell (j := k + 4) (by omega)
      have HH := fun h => run_hit (off := off) (f := f) (jumps := jumps) hk5 h
      have HM := fun h => run_miss (off := off) (f := f) (jumps := jumps) hk5 h
      rw [HR.out] at HH HM
      have HP : Hid (put4 k (sword k t) t = t) := put4_same hk5
      have y0 := (t.getD k 0).toNat_lt
      have hsb := sword_bd k t
      have HSW : Hid (sword k t = (((t.getD (k + 1) 0).toNat : Int) + ((t.getD (k + 2) 0).toNat : Int) * 256 + ((t.getD (k + 3) 0).toNat : Int) * 65536 + ((t.getD (k + 4) 0).toNat : Int) * 16777216 + 2147483648) % 4294967296 - 2147483648) := rfl
      generalize sword k t = V at HH HSW hsb HP
      generalize t.getD k 0 = x0 at c0 HH HM y0
      generalize t.getD (k + 1) 0 = x1 at c1 HSW
      generalize t.getD (k + 2) 0 = x2 at c2 HSW
      generalize t.getD (k + 3) 0 = x3 at c3 HSW
      generalize t.getD (k + 4) 0 = x4 at c4 HSW
      have hV : wrap32 ((x1.toNat : Int) + (x2.toNat : Int) * 256 + (x3.toNat : Int) * 65536 + (x4.toNat : Int) * 16777216) = V := by
        rw [HSW.out, wrap32]
      have hkt := Lib.hid hk5
      have hat : ((off : Int) + k + 1) % 16777216 = (off : Int) + k + 1 := by omega
      clear HR hk5
      by_cases h0 : (x0.toNat : Int) = 232
      · have HH1 := Lib.hid (HH (hit_yes jumps (by omega)))
        clear HH HM
        by_cases d1 : V < 0
        · by_cases d2 : 0 ≤ V + ((k : Int) + 1 + off)
          · as_aux_lemma =>
              have HN : Hid (newv ((k : Int) + 1 + off) V = V + 16777216) := by show newv _ _ = _; rw [newv, if_pos d1, if_pos d2]
              rw [HN.out] at HH1
              have HLP : Hid ((put4 k (V + 16777216) t).length = l.length) := (put4_length _ _ _).trans HLEN.out
              cases v5
              all_goals
                go_wp2_with fail
                refine (le_any g (k + 1) (r + 4) (cr + 4) x1 x2 x3 x4 wr (by omega) (by omega) (by omega) c1 c2 c3 c4).mono ?_
                rintro e w2 ⟨rfl, q, rfl⟩
                go_wp2_with fail
                refine (put_own g k (r + 4) (cr + 4) base cap t (V + 16777216) _ (by omega) _ (hownr.drewN q) hkt.out (by omega)).mono ?_
                rintro e w3 ⟨rfl, hown3, hb3⟩
                have hb4 : Below base w w3 := (below_drewN hbr q).trans hb3
                clear hb3 hownr hbr c0 c1 c2 c3 c4
                go_wp2
                all_goals
                  go_roundw
                  case rel => exact ⟨f, k + 5, r, cr, _, put4 k (V + 16777216) t, by go_num, rfl, HKR, by omega, by omega, fun h => by rw [if_neg (by omega)], by omega, HH1.out.symm, HLP, hown3, hb4⟩
                  case measure => first | (simp [cnt]; done) | (simp [cnt]; omega)
          · as_aux_lemma =>
              have HN : Hid (newv ((k : Int) + 1 + off) V = V) := by show newv _ _ = _; rw [newv, if_pos d1, if_neg d2]
              rw [HN.out] at HH1
              have HLP : Hid ((put4 k (V) t).length = l.length) := (put4_length _ _ _).trans HLEN.out
              cases v5
              all_goals
                go_wp2_with fail
                refine (le_any g (k + 1) (r + 4) (cr + 4) x1 x2 x3 x4 wr (by omega) (by omega) (by omega) c1 c2 c3 c4).mono ?_
                rintro e w2 ⟨rfl, q, rfl⟩
                go_wp2
                all_goals
                  go_roundw
                  case rel => exact ⟨f, k + 5, r, cr, _, put4 k (V) t, by go_num, rfl, HKR, by omega, by omega, fun h => by rw [if_neg (by omega)], by omega, HH1.out.symm, HLP, (by rw [HP.out]; exact hownr.drewN _), (below_drewN hbr _)⟩
                  case measure => first | (simp [cnt]; done) | (simp [cnt]; omega)
        · by_cases d2 : V < 16777216
          · as_aux_lemma =>
              have HN : Hid (newv ((k : Int) + 1 + off) V = V - ((k : Int) + 1 + off)) := by show newv _ _ = _; rw [newv, if_neg d1, if_pos d2]
              rw [HN.out] at HH1
              have HLP : Hid ((put4 k (V - ((k : Int) + 1 + off)) t).length = l.length) := (put4_length _ _ _).trans HLEN.out
              cases v5
              all_goals
                go_wp2_with fail
                refine (le_any g (k + 1) (r + 4) (cr + 4) x1 x2 x3 x4 wr (by omega) (by omega) (by omega) c1 c2 c3 c4).mono ?_
                rintro e w2 ⟨rfl, q, rfl⟩
                go_wp2_with fail
                refine (put_own g k (r + 4) (cr + 4) base cap t (V - ((k : Int) + 1 + off)) _ (by omega) _ (hownr.drewN q) hkt.out (by omega)).mono ?_
                rintro e w3 ⟨rfl, hown3, hb3⟩
                have hb4 : Below base w w3 := (below_drewN hbr q).trans hb3
                clear hb3 hownr hbr c0 c1 c2 c3 c4
                go_wp2
                all_goals
                  go_roundw
                  case rel => exact ⟨f, k + 5, r, cr, _, put4 k (V - ((k : Int) + 1 + off)) t, by go_num, rfl, HKR, by omega, by omega, fun h => by rw [if_neg (by omega)], by omega, HH1.out.symm, HLP, hown3, hb4⟩
                  case measure => first | (simp [cnt]; done) | (simp [cnt]; omega)
          · as_aux_lemma =>
              have HN : Hid (newv ((k : Int) + 1 + off) V = V) := by show newv _ _ = _; rw [newv, if_neg d1, if_neg d2]
              rw [HN.out] at HH1
              have HLP : Hid ((put4 k (V) t).length = l.length) := (put4_length _ _ _).trans HLEN.out
              cases v5
              all_goals
                go_wp2_with fail
                refine (le_any g (k + 1) (r + 4) (cr + 4) x1 x2 x3 x4 wr (by omega) (by omega) (by omega) c1 c2 c3 c4).mono ?_
                rintro e w2 ⟨rfl, q, rfl⟩
                go_wp2
                all_goals
                  go_roundw
                  case rel => exact ⟨f, k + 5, r, cr, _, put4 k (V) t, by go_num, rfl, HKR, by omega, by omega, fun h => by rw [if_neg (by omega)], by omega, HH1.out.symm, HLP, (by rw [HP.out]; exact hownr.drewN _), (below_drewN hbr _)⟩
                  case measure => first | (simp [cnt]; done) | (simp [cnt]; omega)
      · have hn0 : ((x0.toNat : Int) != 232) = true := by simp; omega
        by_cases h9 : (x0.toNat : Int) = C
        · obtain rfl : C = 233 := by omega
          have hjt : jumps = true := by
            cases jumps
            · exact absurd (HJ.out.2 rfl) (by decide)
            · rfl
          subst hjt
          have HH1 := Lib.hid (HH (hit_yes9 (by omega)))
          clear HH HM
          by_cases d1 : V < 0
          · by_cases d2 : 0 ≤ V + ((k : Int) + 1 + off)
            · as_aux_lemma =>
                have HN : Hid (newv ((k : Int) + 1 + off) V = V + 16777216) := by show newv _ _ = _; rw [newv, if_pos d1, if_pos d2]
                rw [HN.out] at HH1
                have HLP : Hid ((put4 k (V + 16777216) t).length = l.length) := (put4_length _ _ _).trans HLEN.out
                cases v5
                all_goals
                  go_wp2_with fail
                  refine (le_any g (k + 1) (r + 4) (cr + 4) x1 x2 x3 x4 wr (by omega) (by omega) (by omega) c1 c2 c3 c4).mono ?_
                  rintro e w2 ⟨rfl, q, rfl⟩
                  go_wp2_with fail
                  refine (put_own g k (r + 4) (cr + 4) base cap t (V + 16777216) _ (by omega) _ (hownr.drewN q) hkt.out (by omega)).mono ?_
                  rintro e w3 ⟨rfl, hown3, hb3⟩
                  have hb4 : Below base w w3 := (below_drewN hbr q).trans hb3
                  clear hb3 hownr hbr c0 c1 c2 c3 c4
                  go_wp2
                  all_goals
                    go_roundw
                    case rel => exact ⟨f, k + 5, r, cr, _, put4 k (V + 16777216) t, by go_num, rfl, HKR, by omega, by omega, fun h => by rw [if_neg (by omega)], by omega, HH1.out.symm, HLP, hown3, hb4⟩
                    case measure => first | (simp [cnt]; done) | (simp [cnt]; omega)
            · as_aux_lemma =>
                have HN : Hid (newv ((k : Int) + 1 + off) V = V) := by show newv _ _ = _; rw [newv, if_pos d1, if_neg d2]
                rw [HN.out] at HH1
                have HLP : Hid ((put4 k (V) t).length = l.length) := (put4_length _ _ _).trans HLEN.out
                cases v5
                all_goals
                  go_wp2_with fail
                  refine (le_any g (k + 1) (r + 4) (cr + 4) x1 x2 x3 x4 wr (by omega) (by omega) (by omega) c1 c2 c3 c4).mono ?_
                  rintro e w2 ⟨rfl, q, rfl⟩
                  go_wp2
                  all_goals
                    go_roundw
                    case rel => exact ⟨f, k + 5, r, cr, _, put4 k (V) t, by go_num, rfl, HKR, by omega, by omega, fun h => by rw [if_neg (by omega)], by omega, HH1.out.symm, HLP, (by rw [HP.out]; exact hownr.drewN _), (below_drewN hbr _)⟩
                    case measure => first | (simp [cnt]; done) | (simp [cnt]; omega)
          · by_cases d2 : V < 16777216
            · as_aux_lemma =>
                have HN : Hid (newv ((k : Int) + 1 + off) V = V - ((k : Int) + 1 + off)) := by show newv _ _ = _; rw [newv, if_neg d1, if_pos d2]
                rw [HN.out] at HH1
                have HLP : Hid ((put4 k (V - ((k : Int) + 1 + off)) t).length = l.length) := (put4_length _ _ _).trans HLEN.out
                cases v5
                all_goals
                  go_wp2_with fail
                  refine (le_any g (k + 1) (r + 4) (cr + 4) x1 x2 x3 x4 wr (by omega) (by omega) (by omega) c1 c2 c3 c4).mono ?_
                  rintro e w2 ⟨rfl, q, rfl⟩
                  go_wp2_with fail
                  refine (put_own g k (r + 4) (cr + 4) base cap t (V - ((k : Int) + 1 + off)) _ (by omega) _ (hownr.drewN q) hkt.out (by omega)).mono ?_
                  rintro e w3 ⟨rfl, hown3, hb3⟩
                  have hb4 : Below base w w3 := (below_drewN hbr q).trans hb3
                  clear hb3 hownr hbr c0 c1 c2 c3 c4
                  go_wp2
                  all_goals
                    go_roundw
                    case rel => exact ⟨f, k + 5, r, cr, _, put4 k (V - ((k : Int) + 1 + off)) t, by go_num, rfl, HKR, by omega, by omega, fun h => by rw [if_neg (by omega)], by omega, HH1.out.symm, HLP, hown3, hb4⟩
                    case measure => first | (simp [cnt]; done) | (simp [cnt]; omega)
            · as_aux_lemma =>
                have HN : Hid (newv ((k : Int) + 1 + off) V = V) := by show newv _ _ = _; rw [newv, if_neg d1, if_neg d2]
                rw [HN.out] at HH1
                have HLP : Hid ((put4 k (V) t).length = l.length) := (put4_length _ _ _).trans HLEN.out
                cases v5
                all_goals
                  go_wp2_with fail
                  refine (le_any g (k + 1) (r + 4) (cr + 4) x1 x2 x3 x4 wr (by omega) (by omega) (by omega) c1 c2 c3 c4).mono ?_
                  rintro e w2 ⟨rfl, q, rfl⟩
                  go_wp2
                  all_goals
                    go_roundw
                    case rel => exact ⟨f, k + 5, r, cr, _, put4 k (V) t, by go_num, rfl, HKR, by omega, by omega, fun h => by rw [if_neg (by omega)], by omega, HH1.out.symm, HLP, (by rw [HP.out]; exact hownr.drewN _), (below_drewN hbr _)⟩
                    case measure => first | (simp [cnt]; done) | (simp [cnt]; omega)
        · have hn9 : ((x0.toNat : Int) != C) = true := by simp; omega
          have HM1 := Lib.hid (HM (hit_no (by omega) (fun h => by have := HJ.out.1 h; omega)))
          clear HH HM
          go_wp2
          go_roundw
          case rel => exact ⟨f, k + 1, r + 4, cr + 4, _, t, by go_num, rfl, HKR1, by omega, by omega, fun _ => rfl, hff1, HM1.out.symm, HLEN, hownr, hbr⟩
          case measure => simp [cnt]
    · have HE : Hid (run off jumps f k t = t) := run_end (by have := HK.out; rw [HLEN.out]; omega)
      go_wp2
      go_ret2
      exact ⟨rfl, by rw [← HR.out, HE.out]; exact hownr, hbr⟩
end Go.Proofs.YtmplkbnajohheaaDoor.Call
