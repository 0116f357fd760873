/- The walk of the package's reading of symbols. -/
import Derived.Test.YtoicojdnaahimaaDoorInit
import Derived.Test.YtoicojdnaahimaaDoorSym
import Derived.Test.YtoicojdnaahimaaDoorNew
import Derived.Test.YtoicojdnaahimaaDoorText
import Derived.Test.YtoicojdnaahimaaDoorLen
namespace Go.Proofs.YtoicojdnaahimaaDoor.Dec
open Go Go.RowKit Go.Proofs.YtoicojdnaahimaaDoor.Aid Go.Proofs.YtoicojdnaahimaaDoor.Base Go.Proofs.YtoicojdnaahimaaDoor.Len Go.Proofs.YtoicojdnaahimaaDoor.Cod Go.Proofs.YtoicojdnaahimaaDoor.Rdr

/-- A new reader of bits over bytes: nothing is read. -/
theorem Rdr.new {w : World} {base g1 g2 : Nat} {sl : Value} {d : List Nat} (h1 : St w base 53 g1 [.iface 55 (.pointer (some ⟨g2, 0, none⟩)), .int .i64 0, .int .i64 ((d.length : Int) * 8), .int .u8 0]) (h2 : St w base 73 g2 [sl, .int .i64 0, .int .i64 (-1)]) (N : Nat) : Rdr w base g1 g2 sl d 0 N := by
  refine ⟨0, -1, 0, 0, ?_, h2, by omega, by omega, by omega, by simp [win], by omega, by omega⟩
  have e : (8 * ((d.length : Int) - ((0 : Nat) : Int))) = (d.length : Int) * 8 := by omega
  rw [e]
  exact h1

theorem own_low {w : World} {base base' e size n : Nat} {v : Value} {xs : List Value} (h : w.ownsRow base e size v n xs) (hb : base' ≤ base) : w.ownsRow base' e size v n xs := by
  refine ⟨h.1, ?_⟩
  rcases h.2 with hl | ⟨g, cap, cur, e1, hb1, hr⟩
  · exact .inl hl
  · exact .inr ⟨g, cap, cur, e1, by omega, hr⟩
theorem take_nums (l : List Nat) (j : Nat) (hj : j < l.length) : l.take j ++ [l.getD j 0] = l.take (j + 1) := by
  rw [List.take_add_one, List.getElem?_eq_getElem hj, List.getD_eq_getElem?_getD, List.getElem?_eq_getElem hj]
  rfl

set_option maxRecDepth 100000 in
set_option maxHeartbeats 2000000 in
theorem zz_any (v0 v1 : Value) (ls d want : List Nat) (B : Nat) (w : World) (hr0 : Rd w B v0 (nums .u8 ls)) (hr1 : Rd w B v1 (nums .u8 d)) (hB : B ≤ w.heap.size) (hl0 : 20 ≤ ls.length) (hl : ls.length ≤ 430) (hf : Full ls) (hwl : want.length ≤ 1000)
    (hws : ∀ j, j < want.length → want.getD j 0 < ls.length ∧ 0 < ls.getD (want.getD j 0) 0) (htx : Texts ls want want.length d) (hpos : posOf ls want want.length + 15 ≤ 8 * d.length) (hd : d.length ≤ 4000000) (hby : ∀ j, d.getD j 0 < 256) :
    Calls Tryd.prog 14 #[v0, v1, .int .i64 (want.length : Int)] w fun e w' => ∃ v, e = .returned (.tuple #[v, .nilIface]) ∧ w'.ownsRow w.heap.size 3 1 v want.length (nums .i64 want) ∧ Below w.heap.size w w' := by
  obtain ⟨i0, hi, hz0, hz1, hz2⟩ := info_parts infoI
  have hnew := new_zero
  have hnn := new_ne
  obtain ⟨H, hH⟩ : ∃ H, w.heap.size = H := ⟨_, rfl⟩
  have hD := dec_new w H hH.symm
  have hq0 := hr0.alloc hB (.cells newCells.toArray 67)
  have hq1 := hr1.alloc hB (.cells newCells.toArray 67)
  have hb0 : Below H w (w.alloc (.cells newCells.toArray 67)) := (Below.refl _ _).alloc (by omega) _
  have hsz : (w.alloc (.cells newCells.toArray 67)).heap.size = H + 1 := by rw [← hH]; simp
  have hBH : B ≤ H := by omega
  obtain ⟨A1, n1, c1, rfl⟩ : ∃ A n c, v1 = .slice A n c := by
    obtain ⟨A, c, h, _⟩ := hr1
    exact ⟨A, _, c, h⟩
  obtain rfl : n1 = d.length := by
    obtain ⟨A, c, h, _⟩ := hr1
    cases h
    rw [nums_length]
  have HF := Lib.hid hf
  have HWS := Lib.hid hws
  have HTX := Lib.hid htx
  have HBY := Lib.hid hby
  clear hf hws htx hby hr0 hr1
  go_enter Tryd.func14, Tryd.ntmps14
  go_wp2_with (go_at_call 22; refine (init_any H H B v0 ls _ _ _ _ 0 0 _ hD hq0 hBH hl0 hl HF.out).mono ?_; rintro e w1 ⟨rfl, hY1, ht1⟩; obtain ⟨M, hM⟩ : ∃ M, w1.heap.size = M := ⟨_, rfl⟩)
  rw [hM] at hY1
  have hHM : H < M := by have := ht1.size; rw [hsz, hM] at this; omega
  have hbx : Below H w w1 := hb0.trans (ht1.below (by rw [hsz]; omega) (fun k hk => by omega))
  have hs1 : (w1.alloc (.cells #[.nilIface, .int .i64 0, .int .i64 0, .int .u8 0] 53)).heap.size = M + 1 := by rw [← hM]; simp
  have hst1 : St ((w1.alloc (.cells #[.nilIface, .int .i64 0, .int .i64 0, .int .u8 0] 53)).alloc (.cells #[.slice A1 d.length c1, .int .i64 0, .int .i64 (-1)] 73)) M 53 M [.nilIface, .int .i64 0, .int .i64 0, .int .u8 0] := by
    have h := (St.made w1 53 #[.nilIface, .int .i64 0, .int .i64 0, .int .u8 0]).alloc (.cells #[.slice A1 d.length c1, .int .i64 0, .int .i64 (-1)] 73)
    rw [hM] at h
    exact h
  have hst2 : St ((w1.alloc (.cells #[.nilIface, .int .i64 0, .int .i64 0, .int .u8 0] 53)).alloc (.cells #[.slice A1 d.length c1, .int .i64 0, .int .i64 (-1)] 73)) (M + 1) 73 (M + 1) [.slice A1 d.length c1, .int .i64 0, .int .i64 (-1)] := by
    have h := St.made (w1.alloc (.cells #[.nilIface, .int .i64 0, .int .i64 0, .int .u8 0] 53)) 73 #[.slice A1 d.length c1, .int .i64 0, .int .i64 (-1)]
    rw [hs1] at h
    exact h
  have htw : Turn (fun k => M ≤ k) w1 ((w1.alloc (.cells #[.nilIface, .int .i64 0, .int .i64 0, .int .u8 0] 53)).alloc (.cells #[.slice A1 d.length c1, .int .i64 0, .int .i64 (-1)] 73)) := ((Turn.refl _ _).alloc _).alloc _
  have hs2 : ((w1.alloc (.cells #[.nilIface, .int .i64 0, .int .i64 0, .int .u8 0] 53)).alloc (.cells #[.slice A1 d.length c1, .int .i64 0, .int .i64 (-1)] 73)).heap.size = M + 2 := by rw [← hM]; simp
  have hq2 := rd_turn hq1 ht1 (by rw [hsz]; omega) (fun k hk => by omega)
  clear hD hq0 hq1 hb0 hsz hs1 ht1
  go_wp2_with (go_at_call 19; refine (newReader_any A1 d.length c1 _).mono ?_; rintro e w2 ⟨rfl, rfl⟩)
  generalize ((w1.alloc (.cells #[.nilIface, .int .i64 0, .int .i64 0, .int .u8 0] 53)).alloc (.cells #[.slice A1 d.length c1, .int .i64 0, .int .i64 (-1)] 73)) = w2 at hst1 hst2 htw hs2 ⊢
  go_wp2_with (go_at_call 18; refine (reset_any M M 53 _ _ _ _ (M + 1) w2 hst1).mono ?_; rintro e w3 ⟨rfl, hst3, ht3⟩)
  go_wp2_with (go_at_call 20; refine (setLimit_any M M 53 _ _ _ _ ((d.length : Int) * 8) w3 hst3).mono ?_; rintro e w4 ⟨rfl, hst4, ht4⟩)
  have htx : Turn (fun k => M ≤ k) w1 w4 := (htw.trans (ht3.mono (fun k _ h => by omega))).trans (ht4.mono (fun k _ h => by omega))
  have hst5 : St w4 (M + 1) 73 (M + 1) [.slice A1 d.length c1, .int .i64 0, .int .i64 (-1)] := (hst2.turn ht3 (by omega)).turn ht4 (by omega)
  have hR0 : Rdr w4 M M (M + 1) (.slice A1 d.length c1) d 0 22 := Rdr.new hst4 (hst5.low (by omega)) 22
  have hY4 : Ready w4 H M H ls := hY1.turn htx (fun k _ hk => by omega)
  have hs4 : M + 2 ≤ w4.heap.size := by have := ht3.size; have := ht4.size; omega
  have HY := Lib.hid hY4
  have HR := Lib.hid hR0
  have HM := Lib.hid hM
  have HH := Lib.hid hH
  have hw0 : w4.ownsRow (M + 2) 3 1 (.slice none 0 0) 0 (nums .i64 (want.take 0)) := World.ownsRow_nil _ _ _ _
  clear hst1 hst2 hst3 hst4 hst5 ht3 ht4 htw hs2 hY1 hR0 hY4 hM hH hnew hnn
  go_loopw [6, 10, 11, 12] (fun vs vi _ _ wr => ∃ (j : Nat) (A : Option Addr) (cv : Nat), vi = .int .i64 (j : Int) ∧ vs = .slice A j cv ∧ j ≤ want.length ∧ wr.ownsRow (M + 2) 3 1 (.slice A j cv) j (nums .i64 (want.take j)) ∧ Hid (Rdr wr M M (M + 1) (.slice A1 d.length c1) d (posOf ls want j) 22) ∧ Hid (Ready wr H M H ls) ∧ M + 2 ≤ wr.heap.size ∧ Turn (fun k => M ≤ k) w1 wr)
    (fun _ vi _ _ _ => want.length - (intOf vi).toNat)
  case atStart => exact ⟨0, none, 0, rfl, rfl, by omega, hw0, HR, HY, hs4, htx⟩
  case round =>
    obtain ⟨j, A, cv, rfl, rfl, hj, hown, HR, HY, hsw, ht⟩ := hrel
    by_cases hlt : j < want.length
    · obtain ⟨hs, hsp⟩ := HWS.out j hlt
      obtain ⟨s, hsd⟩ : ∃ s, s = want.getD j 0 := ⟨_, rfl⟩
      rw [← hsd] at hs hsp
      have hwin := HTX.out.told j hlt
      rw [← hsd] at hwin
      have hp1 : posOf ls want (j + 1) = posOf ls want j + ls.getD s 0 := by rw [hsd]; rfl
      have hp2 := posOf_mono ls want (show j + 1 ≤ want.length by omega)
      have hrw := rd_turn hq2 ht (by have := HM.out; omega) (fun k hk => by omega)
      have hS := sym_any M H H M M (M + 1) B s (posOf ls want j) (.slice A1 d.length c1) ls d wr HY.out HR.out hrw (by omega) (by omega) (by omega) (by omega) hl HF.out hs hsp hwin (by omega) hd HBY.out
      have HS := Lib.hid hsd
      have HP := Lib.hid hp1
      clear hsd hp1 hwin hrw
      have hl2 : (want.take j).length = j := by rw [List.length_take]; omega
      have hown1 : wr.ownsRow (M + 2) 3 1 (.slice A j cv) (want.take j).length (nums .i64 (want.take j)) := by rw [hl2]; exact hown
      have HL2 := Lib.hid hl2
      clear hl2
      go_wp2_with (first | (go_at_call 23; refine hS.mono ?_; rintro e w5 ⟨rfl, hR5, ht5⟩; have hown5 := own_turn hown1 ht5 (fun k hk => by have := own_ge hown1 k hk; omega)) | (at_builtin; refine wpList_append_push _ rfl _ _ 24 rfl .i64 (M + 2) 3 i0 (.int .i64 0) 8 Tryd.underlying24 hi hz0 hz1 hz2 rfl (by omega) (.slice A j cv) (want.take j) rfl (World.ownsRow.alloc hown5 _) _ _ [s] rfl (rd_num w5 .i64 s 3) (by simp) ?_ ?_ ?_))
      case refine_1 => rw [HL2.out]; simp; omega
      case refine_2 => have := ht5.size; simp; omega
      case refine_3 =>
        intro g2 c2 w6 hrow6 hgr hat
        have ht6 : Turn (fun k => M + 2 ≤ k) w5 w6 := ((Turn.refl (fun k => M + 2 ≤ k) w5).alloc _).grown hgr (fun k hk _ => by have := own_ge hown5 k hk; omega)
        have hR6 : Rdr w6 M M (M + 1) (.slice A1 d.length c1) d (posOf ls want (j + 1)) 22 := by
          rw [HP.out]
          exact hR5.turn ht6 (by omega) (by omega)
        have hY6 : Ready w6 H M H ls := (HY.out.turn ht5 (fun k _ hk => by omega)).turn ht6 (fun k _ hk => by omega)
        have hts : want.take j ++ [s] = want.take (j + 1) := by rw [HS.out]; exact take_nums want j hlt
        have hown6 : w6.ownsRow (M + 2) 3 1 (.slice (some ⟨g2, 0, none⟩) (j + 1) c2) (j + 1) (nums .i64 (want.take (j + 1))) := by
          have h := hrow6
          unfold Row at h
          rw [hts] at h
          have e : (want.take (j + 1)).length = j + 1 := by rw [List.length_take]; omega
          rw [e] at h
          exact h
        have hs6 : M + 2 ≤ w6.heap.size := by have := ht5.size; have := ht6.size; omega
        have ht7 : Turn (fun k => M ≤ k) w1 w6 := (ht.trans (ht5.mono (fun k _ h => by omega))).trans (ht6.mono (fun k _ h => by omega))
        clear hgr hat hrow6 hts
        go_wp2
        go_roundw
        case rel => exact ⟨j + 1, _, c2, by go_num, rfl, by omega, hown6, hR6, hY6, hs6, ht7⟩
        case measure => simp [intOf]; omega
    · obtain rfl : j = want.length := by omega
      go_wp2
      go_ret2
      obtain rfl := HH.out
      have hf7 := ht.below (B := M) (by have := HM.out; omega) (fun k hk => hk)
      rw [List.take_length] at hown
      exact ⟨_, rfl, own_low hown (by omega), hbx.trans (hf7.mono (by omega))⟩
end Go.Proofs.YtoicojdnaahimaaDoor.Dec
