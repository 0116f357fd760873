/- The walk of the law of lengths. -/
import Derived.Test.YtoicojdnaahimaaDoorLens
import Derived.Test.YtoicojdnaahimaaDoorSymsLaw
namespace Go.Proofs.YtoicojdnaahimaaDoor.Law
open Go Go.RowKit Go.Proofs.YtoicojdnaahimaaDoor.Aid Go.Proofs.YtoicojdnaahimaaDoor.Base Go.Proofs.YtoicojdnaahimaaDoor.Len Go.Proofs.YtoicojdnaahimaaDoor.Cod Go.Proofs.YtoicojdnaahimaaDoor.Dec Go.Proofs.YtoicojdnaahimaaDoor.Tab

set_option maxRecDepth 100000 in
set_option maxHeartbeats 1000000 in
theorem implLens_any (v0 : Value) (ls sh d : List Nat) (B q e : Nat) (w : World) (hr : Rd w B v0 (nums .u8 d)) (hB : B ≤ w.heap.size) (hT : Table ls sh d q e) (he : e + 15 ≤ 8 * d.length) (hd : d.length ≤ 4000000) (hby : ∀ j, d.getD j 0 < 256) (hl0 : 20 ≤ ls.length) (hl : ls.length ≤ 430) (h14 : ∀ i, ls.getD i 0 ≤ 14) :
    Calls Tryd.prog 7 #[v0, .int .i64 (ls.length : Int)] w fun r w' => ∃ v, r = .returned (.tuple #[v, .bool true]) ∧ w'.ownsRow w.heap.size 5 1 v ls.length (nums .u8 ls) ∧ Below w.heap.size w w' := by
  have HT := Lib.hid hT
  have HBY := Lib.hid hby
  have H14 := Lib.hid h14
  clear hT hby h14
  go_enter Tryd.func7, Tryd.ntmps7
  go_wp2_with fail
  refine (clone_bytes v0 d B w hr hB hd).mono ?_
  rintro e' w1 ⟨x0, rfl, hown0, hb1⟩
  go_wp2_with fail
  refine (zzLens_any x0 ls sh d w1.heap.size q e w1 (Rd.own hown0) (Nat.le_refl _) HT.out he hd HBY.out hl0 hl H14.out).mono ?_
  rintro e' w2 ⟨rfl, hrow2, hb2⟩
  have hr2 := hrow2.rd
  go_wp2_with (go_at_call 12; refine (clone_bytes _ ls w2.heap.size w2 hr2 (Nat.le_refl _) (by omega)).mono ?_; rintro e' w3 ⟨x3, rfl, hown3, hb3⟩)
  go_ret2
  have hs1 := hb1.size
  have hs2 := hb2.size
  exact ⟨x3, rfl, own_low hown3 (by omega), hb1.trans ((hb2.mono hs1).trans (hb3.mono (by omega)))⟩

set_option maxRecDepth 100000 in
set_option maxHeartbeats 2000000 in
theorem walkLengths (a0 : Option Addr) (len0 cap0 : Nat) (z0 : List Int) (a1 a2 : Int) (a3 : Bool) (w : World) (w0 : IsRow .u16 w a0 len0 cap0 z0) (w1 : (Lit.int .u16 a1).wf = true) (w2 : (Lit.int .u8 a2).wf = true) :
    Calls Tryd.prog 3 #[.slice a0 len0 cap0, .int .u16 a1, .int .u8 a2, .bool a3] w fun e w' => e = .returned (.bool true) ∧ Below w.heap.size w w' := by
  obtain ⟨b1, b1'⟩ := bounds_u16 w1
  obtain ⟨b2, b2'⟩ := bounds_u8 w2
  obtain ⟨used, hl0, hub, hru⟩ := rd_of_row16 w0
  have hlc0 := (isRow_cells w0).1
  clear w0 w1 w2
  by_cases hbig : 2147483647 < len0
  · clear hru hl0
    go_enter Tryd.func3, Tryd.ntmps3
    go_wp2
    go_ret
    exact ⟨rfl, Below.refl _ _⟩
  by_cases hmid : 1000 < len0
  · clear hru hl0
    go_enter Tryd.func3, Tryd.ntmps3
    go_wp2
    go_ret
    exact ⟨rfl, Below.refl _ _⟩
  obtain ⟨n, hn⟩ : ∃ n : Nat, 20 + a1 % 411 = (n : Int) := ⟨(20 + a1 % 411).toNat, by omega⟩
  obtain ⟨ways, hways⟩ : ∃ ways : Nat, a2 % 6 = (ways : Int) := ⟨(a2 % 6).toNat, by omega⟩
  have hn20 : 20 ≤ n := by omega
  have hn430 : n ≤ 430 := by omega
  have hw5 : ways ≤ 5 := by omega
  subst hl0
  have HUB := Lib.hid hub
  clear hub
  go_enter Tryd.func3, Tryd.ntmps3
  go_wp2_with fail
  refine (used_any (.slice a0 used.length cap0) used n w hru (by omega) HUB.out (by omega) hn430).mono ?_
  rintro e w1 ⟨us, rfl, hus, hmk, hb1⟩
  have hr1 := hmk.rd
  rw [hus] at hr1
  have HUS := Lib.hid hus
  clear hus
  go_wp2_with fail
  rw [hways]
  refine (len_any _ us n ways w1.heap.size w1 hr1 (Nat.le_refl _) HUS.out (by omega) hn430 hw5).mono ?_
  rintro e w2 ⟨ls, m, rfl, hm, hgood, hrow, hb2⟩
  have hf := full_of hgood hw5 hm hn430
  have hln := hgood.len
  obtain ⟨L, hL⟩ : ∃ L, L = w1.heap.size := ⟨_, rfl⟩
  rw [← hL] at hrow hb2 ⊢
  have hbx : Below w.heap.size w w2 := hb1.trans (hb2.mono (by rw [hL]; exact hb1.size))
  have hr2 := hrow.rd
  have HF := Lib.hid hf
  obtain rfl : n = ls.length := hln.symm
  obtain ⟨i5, hi5, hz50, hz51, hz52⟩ := info_parts infoB
  clear hr1 hmk hb1 hb2 hL hf hgood hm hru hln HUS HUB hn hways hw5 b1 b1' b2 b2'
  have hTB := tableBytes_any _ ls a3 w2.heap.size w2 hr2 (Nat.le_refl _) hn20 hn430 HF.out.most
  go_wp2_with (first
    | (go_at_call 8; (with_reducible refine hTB.mono ?_); rintro e w8 ⟨out, sh, q, pe, vs, rfl, hout, hbits, htab, hpe, hb8⟩)
    | (at_builtin; refine wpList_append_push _ rfl _ _ 28 rfl .u8 w2.heap.size 5 i5 (.int .u8 0) 1 Tryd.underlying28 hi5 hz50 hz51 hz52 rfl (by omega) vs out rfl (World.ownsRow.alloc hout _) _ _ [0, 0, 0, 0] rfl (rd_four w8) (by simp) ?_ ?_ ?_))
  case refine_1 => have := hbits.len; simp; omega
  case refine_2 => have := hb8.size; simp; omega
  case refine_3 =>
    intro g4 c4 w9 hd4 hgr hat
    have hb9 : Below w2.heap.size w2 w9 := hb8.trans (((Below.refl w2.heap.size w8).alloc hb8.size _).grown hgr (by have := hb8.size; simp; omega) (fun k hk => own_ge hout k hk))
    have hol := hbits.len
    have e4 : (out ++ [0, 0, 0, 0]).length = out.length + 4 := by simp
    have hr9 := hd4.rd
    rw [e4] at hr9
    have hI := implLens_any _ ls sh (out ++ [0, 0, 0, 0]) w9.heap.size q pe w9 hr9 (Nat.le_refl _) (htab.more hbits) (by rw [e4]; omega) (by rw [e4]; omega) (four_bytes hbits.byte) hn20 hn430 HF.out.most
    have hr09 := (hr2.below hb9).more hb9.size
    have hbx9 := hbx.trans (hb9.mono hbx.size)
    clear hgr hat hbits htab hol hout hb8 e4 hr9 hr2 hb9 hbx hTB hd4
    go_wp2_with (go_at_call 7; (with_reducible refine hI.mono ?_); rintro e wa ⟨v, rfl, hown, hba⟩; obtain ⟨Av, cv, rfl⟩ := own_len hown)
    have hrg := Rd.own hown
    have hrw := (hr09.below hba).more hba.size
    have hbz := hbx9.trans (hba.mono hbx9.size)
    obtain ⟨Ag, cg, hvg, hG1, hG2, hG3⟩ := hrg
    rw [nums_length] at hvg hG1 hG3
    obtain ⟨rfl, rfl⟩ : Ag = Av ∧ cg = cv := by cases hvg; exact ⟨rfl, rfl⟩
    obtain ⟨Aw, cw2, hvw, hW1, hW2, hW3⟩ := hrw
    rw [nums_length] at hvw hW1 hW3
    obtain ⟨rfl, rfl⟩ : Aw = some ⟨L, 0, none⟩ ∧ cw2 = ls.length := by cases hvw; exact ⟨rfl, rfl⟩
    have HG := Lib.hid hG3
    have HW := Lib.hid hW3
    clear hvg hvw hG3 hW3 hown hr09 hba hbx9 hI hG1 hG2 hW1 hW2
    go_loopw [13, 51] (fun _ vj wr => ∃ j : Nat, vj = .int .i64 (j : Int) ∧ j ≤ ls.length ∧ Turn (fun _ => False) wa wr) (fun _ vj _ => ls.length - (intOf vj).toNat)
    case atStart => exact ⟨0, rfl, by omega, Turn.refl _ _⟩
    case round =>
      obtain ⟨j, rfl, hj, ht⟩ := hrel
      by_cases hlt : j < ls.length
      · obtain ⟨gg, og, rfl, hgg, hgc⟩ := HG.out (by omega)
        obtain ⟨gv, ov, hgv, hgw, hwc⟩ := HW.out (by omega)
        obtain ⟨rfl, rfl⟩ : gv = L ∧ ov = 0 := by cases hgv; exact ⟨rfl, rfl⟩
        have hc1 := (ht.cell (p := ⟨gg, og + j, none⟩) hgg (fun h => h)).trans (hgc j _ (nums_get hlt))
        have hc2 := (ht.cell (p := ⟨gv, 0 + j, none⟩) hgw (fun h => h)).trans (hwc j _ (nums_get hlt))
        rw [Nat.zero_add] at hc2
        obtain ⟨y, hy⟩ : ∃ y, y = ls.getD j 0 := ⟨_, rfl⟩
        rw [← hy] at hc1 hc2
        have hy14 : y ≤ 14 := by rw [hy]; exact HF.out.most j
        clear hgc hwc hy hgv
        go_wp2
        go_quiet (fail)
        go_wp2
        go_roundw
        case rel => exact ⟨j + 1, by go_num, by omega, ht.drewN _⟩
        case measure => simp [intOf]; omega
      · go_wp2
        go_ret
        exact ⟨rfl, hbz.trans ((ht.below (B := wa.heap.size) (Nat.le_refl _) (fun k hk => hk.elim)).mono hbz.size)⟩
end Go.Proofs.YtoicojdnaahimaaDoor.Law
