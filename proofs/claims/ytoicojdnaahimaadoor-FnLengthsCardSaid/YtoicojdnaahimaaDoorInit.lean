/- The walk of the decoder's making. -/
import Derived.Test.YtoicojdnaahimaaDoorSymPlain
import Derived.StillTailTactics
import Derived.BigQuiet
import Derived.Deep.QuietTactic
import Derived.Laws.BitsLemmas
namespace Go.Proofs.YtoicojdnaahimaaDoor.Dec
open Go Go.RowKit Go.Proofs.YtoicojdnaahimaaDoor.Aid Go.Proofs.YtoicojdnaahimaaDoor.Base Go.Proofs.YtoicojdnaahimaaDoor.Len Go.Proofs.YtoicojdnaahimaaDoor.Cod

theorem sizeH : (Tryd.prog.info? 23).map (·.size) = some 1 := by kernel_rfl
theorem range_get (f : Nat → Nat) {n j : Nat} (hj : j < n) : ((List.range n).map f).getD j 0 = f j := by
  rw [List.getD_eq_getElem?_getD, List.getElem?_map, List.getElem?_range hj]
  rfl

set_option maxRecDepth 100000 in
set_option maxHeartbeats 4000000 in
theorem init_any (base g B : Nat) (v : Value) (ls : List Nat) (lim0 pos0 ql0 qs0 : Nat → Nat) (mn0 qb0 : Nat) (w : World) (hD : Dec w base g lim0 pos0 (.slice none 0 0) mn0 qb0 ql0 qs0) (hr : Rd w B v (nums .u8 ls)) (hB : B ≤ g) (hl0 : 20 ≤ ls.length) (hl : ls.length ≤ 430) (hf : Full ls) :
    Calls Tryd.prog 22 #[.pointer (some ⟨g, 0, none⟩), v] w fun e w' => e = .returned (.tuple #[]) ∧ Ready w' base w'.heap.size g ls ∧ Turn (fun b => b = g) w w' := by
  obtain ⟨i0, hi, hz0, hz1, hz2⟩ := info_parts infoH
  obtain ⟨A, cap, hv, hA1, hA2, hA3⟩ := hr
  rw [nums_length] at hv hA1 hA3
  subst hv
  obtain ⟨gl, o, rfl, hgl, hcell0⟩ := hA3 (by omega)
  have hcell : ∀ j, j < ls.length → w.cell? ⟨gl, o + j, none⟩ = some (.int .u8 ((ls.getD j 0 : Nat) : Int)) := fun j hj => hcell0 j _ (nums_get hj)
  have HC := Lib.hid hcell
  have HF := Lib.hid hf
  clear hcell0 hcell hA3 hf
  have hmk16 : ∀ w, (Instr.makeSlice 22 (.int .i64 16) (.int .i64 16)).run Tryd.prog w = .ok (.slice (some ⟨w.heap.size, 0, none⟩) 16 16) (w.alloc (.cells (zeros (.int .u16 0) 16) 23)) := run_zeros (P := Tryd.prog) 22 23 i0 (.int .u16 0) 2 Tryd.underlying22 hi hz0 hz1 hz2 (by omega) rfl 16 (by omega)
  have hmkl := run_zeros (P := Tryd.prog) 22 23 i0 (.int .u16 0) 2 Tryd.underlying22 hi hz0 hz1 hz2 (by omega) rfl ls.length (by omega)
  have hm0 := row_zeros .u16 w 23 16 (by omega)
  obtain ⟨H, hH⟩ : ∃ H, w.heap.size = H := ⟨_, rfl⟩
  have hgH : g < H := by have := hD.lt; omega
  have hs1 : (w.alloc (.cells (zeros (.int .u16 0) 16) 23)).heap.size = H + 1 := by rw [← hH]; simp
  have ht0 : Turn (fun b => b = g) w (w.alloc (.cells (zeros (.int .u16 0) 16) 23)) := (Turn.refl _ _).alloc _
  have hD1 := hD.alloc (.cells (zeros (.int .u16 0) 16) 23)
  rw [hH] at hm0
  have HC0 : Hid (Cnt ls 0 (List.replicate 16 0)) := Cnt.start ls
  go_enter Tryd.func22, Tryd.ntmps22
  go_wp2
  generalize (w.alloc (.cells (zeros (.int .u16 0) 16) 23)) = w0 at hm0 hs1 ht0 hD1 ⊢
  have HH := Lib.hid hH
  clear hH hD
  go_loopw [18] (fun vi wr => ∃ (k : Nat) (cs : List Nat), vi = .int .i64 (k : Int) ∧ k ≤ ls.length ∧ Hid (Cnt ls k cs) ∧ Row .u16 wr H 23 H 16 cs ∧ Dec wr base g lim0 pos0 (.slice none 0 0) mn0 qb0 ql0 qs0 ∧ Turn (fun b => b = g) w wr)
    (fun vi _ => ls.length - (intOf vi).toNat)
  case atStart => exact ⟨0, List.replicate 16 0, rfl, by omega, HC0, hm0, hD1, ht0⟩
  case round =>
    obtain ⟨k, cs, rfl, hk, HCn, hrow, hD, ht⟩ := hrel
    by_cases hlt : k < ls.length
    · have hc := (ht.cell (p := ⟨gl, o + k, none⟩) (by show gl < w.heap.size; rw [HH.out]; omega) (by show ¬ gl = g; omega)).trans (HC.out k hlt)
      obtain ⟨x, hx⟩ : ∃ x, ls.getD k 0 = x := ⟨_, rfl⟩
      rw [hx] at hc
      have hx14 : x ≤ 14 := by rw [← hx]; exact HF.out.most k
      have HX := Lib.hid hx
      clear hx
      by_cases h0 : x = 0
      · have H0 := Lib.hid h0
        have hx0 : ((x : Int) == 0) = true := by rw [h0]; rfl
        clear h0
        go_wp2
        refine ⟨⟨k + 1, cs, by go_num, by omega, HCn.out.skip hlt (by rw [HX.out, H0.out]), hrow, hD, ht⟩, by simp [intOf]; omega⟩
      · have hlc := HCn.out.len
        have hcx := hrow.cell (j := x) (by omega)
        have hfx := hrow.frozen x
        have hcle := HCn.out.le (l := x) (by omega)
        obtain ⟨c, hc2⟩ : ∃ c, c = cs.getD x 0 := ⟨_, rfl⟩
        rw [← hc2] at hcx hcle
        have HC2 := Lib.hid hc2
        clear hc2
        go_wp2
        have hstep := HCn.out.step hlt HX.out h0
        rw [← HC2.out] at hstep
        refine ⟨⟨k + 1, _, by go_num, by omega, hstep, hrow.set x (c + 1) (by omega), hD.other (by show H ≠ g; omega) _, ht.setNew (by show w.heap.size ≤ H; rw [HH.out]; exact Nat.le_refl _) _⟩, by simp [intOf]; omega⟩
    · have HCk : Hid (Cnt ls ls.length cs) := by
        have h := HCn.out
        rw [show k = ls.length by omega] at h
        exact h
      have f0 := hD.frozen 0
      have f16 := hD.frozen 16
      have f33 := hD.frozen 33
      have c0 := hD.cLim (j := 0) (by omega)
      have c16 := hD.cPos (j := 0) (by omega)
      have c33 := hD.cMn
      have hD2 := ((hD.setPos (i := 0) (by omega) 0 (x := 0) rfl).setLim (i := 0) (by omega) 0 (x := 0) rfl).setMn 0 (x := 0) rfl
      have hrow2 := ((hrow.other (p := ⟨g, 16 + 0, none⟩) (by show g ≠ H; omega) (.int .u16 0)).other (p := ⟨g, 0, none⟩) (by show g ≠ H; omega) (.int .u16 0)).other (p := ⟨g, 33, none⟩) (by show g ≠ H; omega) (.int .u8 0)
      have ht2 := ((ht.setCell (p := ⟨g, 16 + 0, none⟩) rfl (.int .u16 0)).setCell (p := ⟨g, 0, none⟩) rfl (.int .u16 0)).setCell (p := ⟨g, 33, none⟩) rfl (.int .u8 0)
      have HL2 : Hid (Lims ls 1 (upd lim0 0 0) (upd pos0 0 0) 0) := Lims.start ls lim0 pos0
      go_wp2
      clear f0 f16 f33 c0 c16 c33
      obtain ⟨w2, hw2⟩ : ∃ w2, w2 = ((wr.setCell ⟨g, 16 + 0, none⟩ (.int .u16 0)).setCell ⟨g, 0, none⟩ (.int .u16 0)).setCell ⟨g, 33, none⟩ (.int .u8 0) := ⟨_, rfl⟩
      rw [← hw2] at hD2 hrow2 ht2
      have hw3 := hw2
      rw [Nat.add_zero] at hw3
      rw [← hw3]
      clear hw2 hw3 hrow hD ht hm0 hD1 ht0 HC0 hlt hk
      go_loopw [7] (fun vi wr => ∃ (p mn : Nat) (lim pos : Nat → Nat), vi = .int .u8 ((p : Int) + 1) ∧ p ≤ 15 ∧ Hid (Lims ls (p + 1) lim pos mn) ∧ mn ≤ 15 ∧ Row .u16 wr H 23 H 16 cs ∧ Dec wr base g lim pos (.slice none 0 0) mn qb0 ql0 qs0 ∧ Turn (fun b => b = g) w wr)
        (fun vi _ => 16 - (intOf vi).toNat)
      case atStart => exact ⟨0, 0, _, _, by go_num, by omega, HL2, by omega, hrow2, hD2, ht2⟩
      case round =>
        obtain ⟨p, mn, lim, pos, rfl, hp, HL, hmn, hrow, hD, ht⟩ := hrel
        by_cases hlt : p < 15
        · have cl := hD.cLim (j := p) (by omega)
          have cl1 := hD.cLim (j := p + 1) (by omega)
          have fl1 := hD.frozen (p + 1)
          have cc := hrow.cell (j := p + 1) (by rw [HCk.out.len]; omega)
          have cc0 := hrow.cell (j := p) (by rw [HCk.out.len]; omega)
          obtain ⟨c, hcd⟩ : ∃ c, c = cs.getD (p + 1) 0 := ⟨_, rfl⟩
          obtain ⟨c0, hc0d⟩ : ∃ c0, c0 = cs.getD p 0 := ⟨_, rfl⟩
          rw [← hcd] at cc
          rw [← hc0d] at cc0
          have hcn : c = Cod.cn ls (p + 1) := by rw [hcd]; exact HCk.out.cn (by omega)
          have hcn0 : c0 = Cod.cn ls p := by rw [hc0d]; exact HCk.out.cn (by omega)
          obtain ⟨a, had⟩ : ∃ a, a = lim p := ⟨_, rfl⟩
          rw [← had] at cl
          have hal : a = Cod.lim ls p := by rw [had]; exact HL.out.lim p (by omega)
          obtain ⟨E, hE⟩ : ∃ E, E = 15 - (p + 1) := ⟨_, rfl⟩
          have hE14 : E ≤ 14 := by omega
          obtain ⟨Y, hY⟩ : ∃ Y, Y = c * 2 ^ E := ⟨_, rfl⟩
          have haY : a + Y = Cod.lim ls (p + 1) := by rw [hal, hY, hcn, hE]; rfl
          have haY2 : a + Y ≤ 32768 := by rw [haY]; exact HF.out.lim_le (p + 1) (by omega)
          have hYI : (c : Int) * 2 ^ E = (Y : Int) := by rw [hY]; push_cast; rfl
          have hmin : min (15 - (p + 1)) 16 = E := by omega
          have hwY : IntKind.u16.wrap (Y : Int) = (Y : Int) := by simp [IntKind.wrap, IntKind.bits, IntKind.signed]; omega
          have hwp : IntKind.u8.wrap (p : Int) = (p : Int) := by rw [IntKind.wrap_u8]; omega
          have hws : IntKind.u16.wrap ((a : Int) + Y) = (a : Int) + Y := by simp [IntKind.wrap, IntKind.bits, IntKind.signed]; omega
          have hp16 : (p : Int) < 16 := by omega
          have hp17 : (p : Int) + 1 < 16 := by omega
          have hp18 : 0 ≤ (p : Int) + 1 := by omega
          have HA := Lib.hid haY
          have HAL := Lib.hid hal
          have HCN := Lib.hid hcn
          have HCN0 := Lib.hid hcn0
          have HC0d := Lib.hid hc0d
          clear hcd hc0d hcn hcn0 had hal hE hY haY
          go_wp2
          go_still_tail 20, (by kernel_rfl)
          change wpList _ _ _ _ _ wr.drew
          go_wp2
          rw [hmin, hYI, hwY, hws]
          have hD3 := (hD.setLim (i := p + 1) (by omega) (a + Y) (x := (a : Int) + Y) (by omega)).drew
          have hrow3 := (hrow.other (p := ⟨g, p + 1, none⟩) (by show g ≠ H; omega) (.int .u16 ((a : Int) + Y))).drew
          have ht3 := (ht.setCell (p := ⟨g, p + 1, none⟩) rfl (.int .u16 ((a : Int) + Y))).drew
          obtain ⟨w3, hw3⟩ : ∃ w3, w3 = (wr.setCell ⟨g, p + 1, none⟩ (.int .u16 ((a : Int) + Y))).drew := ⟨_, rfl⟩
          rw [← hw3] at hD3 hrow3 ht3 ⊢
          clear hw3 cl cl1 fl1 cc cc0 hD hrow ht
          have cp := hD3.cPos (j := p) (by omega)
          have cp1 := hD3.cPos (j := p + 1) (by omega)
          have fp1 := hD3.frozen (16 + (p + 1))
          have cc0 := hrow3.cell (j := p) (by rw [HCk.out.len]; omega)
          obtain ⟨b, hbd⟩ : ∃ b, b = pos p := ⟨_, rfl⟩
          rw [← hbd] at cp
          rw [← HC0d.out] at cc0
          have hbp : b = ps ls p := by rw [hbd]; exact HL.out.pos p (by omega)
          have hbc : b + c0 = ps ls (p + 1) := by rw [hbp, HCN0.out]; rfl
          have hbc2 : b + c0 ≤ 430 := by rw [hbc]; have := ps_le ls (p + 1); omega
          have hws2 : IntKind.u16.wrap ((b : Int) + c0) = (b : Int) + c0 := by simp [IntKind.wrap, IntKind.bits, IntKind.signed]; omega
          have HBC := Lib.hid hbc
          clear hbd hbp hbc
          have c33 := hD3.cMn
          have f33 := hD3.frozen 33
          have cl1 := hD3.cLim (j := p + 1) (by omega)
          rw [upd_same] at cl1
          obtain ⟨Z, hZ⟩ : ∃ Z, Z = a + Y := ⟨_, rfl⟩
          rw [← hZ] at cl1
          have HZ := Lib.hid hZ
          have hZ2 : Z ≤ 32768 := by omega
          clear hZ
          have hD4 := (hD3.setPos (i := p + 1) (by omega) (b + c0) (x := (b : Int) + c0) (by omega)).drew
          have hrow4 := (hrow3.other (p := ⟨g, 16 + (p + 1), none⟩) (by show g ≠ H; omega) (.int .u16 ((b : Int) + c0))).drew
          have ht4 := (ht3.setCell (p := ⟨g, 16 + (p + 1), none⟩) rfl (.int .u16 ((b : Int) + c0))).drew
          have hm3 : 0 < mn ∨ (mn = 0 ∧ 0 < Z) ∨ (mn = 0 ∧ Z = 0) := by omega
          rcases hm3 with hm3 | ⟨rfl, hz⟩ | ⟨rfl, rfl⟩
          all_goals go_still_tail 18, (by kernel_rfl)
          all_goals change wpList _ _ _ _ _ w3.drew
          all_goals go_wp2
          · have hL4 := HL.out.step (mn' := mn) HA.out HBC.out (.inl ⟨by omega, rfl⟩)
            exact ⟨⟨p + 1, mn, _, _, by go_num, by omega, hL4, hmn, hrow4, hD4, ht4⟩, by simp [intOf]; omega⟩
          · have hL4 := HL.out.step (mn' := p + 1) HA.out HBC.out (.inr (.inl ⟨rfl, by have := HZ.out; omega, rfl, by omega⟩))
            exact ⟨⟨p + 1, p + 1, _, _, by go_num, by omega, hL4, by omega, (hrow4.other (p := ⟨g, 33, none⟩) (by show g ≠ H; omega) _), (hD4.setMn (p + 1) (x := (p : Int) + 1) (by omega)), (ht4.setCell (p := ⟨g, 33, none⟩) rfl _)⟩, by simp [intOf]; omega⟩
          · have hL4 := HL.out.step (mn' := 0) HA.out HBC.out (.inr (.inr ⟨rfl, by have := HZ.out; omega, rfl⟩))
            exact ⟨⟨p + 1, 0, _, _, by go_num, by omega, hL4, by omega, hrow4, hD4, ht4⟩, by simp [intOf]; omega⟩
        · -- LAST15
          have HL2 : Hid (Lims ls 16 lim pos mn) := by
            have h := HL.out
            rw [show p + 1 = 16 by omega] at h
            exact h
          have c32 := hD.cSym
          have f32 := hD.frozen 32
          have hgw := hD.lt
          obtain ⟨G, hG⟩ : ∃ G, wr.heap.size = G := ⟨_, rfl⟩
          have hGH : H < G := by have := hrow.lt; omega
          have hsy0 := row_zeros .u16 wr 23 ls.length (by omega)
          rw [hG] at hsy0
          have hsy1 := hsy0.other (p := ⟨g, 32, none⟩) (by show g ≠ G; omega) (.slice (some ⟨G, 0, none⟩) ls.length ls.length)
          have hD1 := (hD.alloc (.cells (zeros (.int .u16 0) ls.length) 23)).setSym (.slice (some ⟨G, 0, none⟩) ls.length ls.length)
          have hrow1 := (hrow.alloc (.cells (zeros (.int .u16 0) ls.length) 23)).other (p := ⟨g, 32, none⟩) (by show g ≠ H; omega) (.slice (some ⟨G, 0, none⟩) ls.length ls.length)
          have ht1 := (ht.alloc (.cells (zeros (.int .u16 0) ls.length) 23)).setCell (p := ⟨g, 32, none⟩) rfl (.slice (some ⟨G, 0, none⟩) ls.length ls.length)
          have fA := (hD.alloc (.cells (zeros (.int .u16 0) ls.length) 23)).frozen 32
          have cA := (hD.alloc (.cells (zeros (.int .u16 0) ls.length) 23)).cSym
          have hne : ¬ ls = [] := fun e => by rw [e] at hl0; simp at hl0
          have hsrc : ∀ j, j < ((List.range 16).map pos).length → ((wr.alloc (.cells (zeros (.int .u16 0) ls.length) 23)).setCell ⟨g, 32, none⟩ (.slice (some ⟨G, 0, none⟩) ls.length ls.length)).cell? ⟨g, 16 + j, none⟩ = some (.int .u16 ((((List.range 16).map pos).getD j 0 : Nat) : Int)) := fun j hj => by
            have hj : j < 16 := by simpa using hj
            rw [range_get pos hj]
            exact hD1.cPos hj
          have hcl := HCk.out.len
          obtain ⟨w4, hcopy, hrow4, ht4⟩ := run_copy_full (P := Tryd.prog) 22 22 3 23 Tryd.underlying22 sizeH .u16 H 23 H 16 cs ((List.range 16).map pos) hrow1 (by rw [hcl]; simp) g 16 16 16 hcl.symm hsrc
          have hHw : H < (wr.alloc (.cells (zeros (.int .u16 0) ls.length) 23)).heap.size := by simp; omega
          have hsy4 := hsy1.turn ht4 (by omega : ¬ G = H)
          have hD4 := hD1.turn ht4 (by omega : ¬ g = H)
          have htt : Turn (fun b => b = g) w w4 := ht1.then ht4 (fun i hi h => by have := HH.out; omega)
          have HS0 : Hid (Syms ls 0 ((List.range 16).map pos) (List.replicate ls.length 0)) := Syms.start ls _ (by simp) (fun l hl => by rw [range_get pos hl]; exact HL2.out.pos l hl)
          have hrow5 : Row .u16 w4 H 23 H 16 ((List.range 16).map pos) := hrow4
          go_wp2
          clear hcopy hsrc hrow4 hrow1 hD1 hsy0 hsy1 ht1 ht4 hrow hD ht fA cA c32 f32 hmkl hmk16
          go_loopw [138] (fun vi wr => ∃ (k : Nat) (cs sy : List Nat), vi = .int .i64 (k : Int) ∧ k ≤ ls.length ∧ Hid (Syms ls k cs sy) ∧ Row .u16 wr H 23 H 16 cs ∧ Row .u16 wr G 23 G ls.length sy ∧ Dec wr base g lim pos (.slice (some ⟨G, 0, none⟩) ls.length ls.length) mn qb0 ql0 qs0 ∧ Turn (fun b => b = g) w wr)
            (fun vi _ => ls.length - (intOf vi).toNat)
          case atStart => exact ⟨0, _, _, rfl, by omega, HS0, hrow5, hsy4, hD4, htt⟩
          case round =>
            obtain ⟨k, cs, sy, rfl, hk, HS, hrow, hsy, hD, ht⟩ := hrel
            by_cases hlt : k < ls.length
            · have hc := (ht.cell (p := ⟨gl, o + k, none⟩) (by show gl < w.heap.size; rw [HH.out]; omega) (by show ¬ gl = g; omega)).trans (HC.out k hlt)
              obtain ⟨x, hx⟩ : ∃ x, ls.getD k 0 = x := ⟨_, rfl⟩
              rw [hx] at hc
              have hx14 : x ≤ 14 := by rw [← hx]; exact HF.out.most k
              have HX := Lib.hid hx
              clear hx
              by_cases h0 : x = 0
              · have H0 := Lib.hid h0
                have hx0 : ((x : Int) == 0) = true := by rw [h0]; rfl
                clear h0
                go_wp2
                refine ⟨⟨k + 1, cs, sy, by go_num, by omega, HS.out.skip hlt (by rw [HX.out, H0.out]), hrow, hsy, hD, ht⟩, by simp [intOf]; omega⟩
              · have hx0 : 0 < x := by omega
                have hcx := hrow.cell (j := x) (by rw [HS.out.len]; omega)
                have hfx := hrow.frozen x
                have hat := HS.out.at HX.out hx0 (by omega)
                have hpl := place_lt ls k hlt (by rw [HX.out]; exact hx0)
                rw [HX.out, ← hat] at hpl
                have hstep := HS.out.step hlt HX.out hx0 (by omega)
                obtain ⟨c, hcd⟩ : ∃ c, c = cs.getD x 0 := ⟨_, rfl⟩
                rw [← hcd] at hcx hpl hstep
                have HST := Lib.hid hstep
                have c32 := hD.cSym
                have hcs := hsy.cell (j := c) (by rw [HS.out.slen]; exact hpl)
                have hfs := hsy.frozen c
                have hk16 : IntKind.u16.wrap (k : Int) = (k : Int) := by simp [IntKind.wrap, IntKind.bits, IntKind.signed]; omega
                have hx16 : (x : Int) < 16 := by omega
                have hxp : 0 ≤ (x : Int) := by omega
                have hcl3 : (c : Int) < ls.length := by omega
                have hHG : H ≠ G := by omega
                clear hat hcd hstep
                go_wp2
                go_still_tail 11, (by kernel_rfl)
                change wpList _ _ _ _ _ wr.drew
                go_wp2
                have hw := HH.out
                exact ⟨⟨k + 1, _, _, by go_num, by omega, HST.out, ((hrow.other (p := ⟨G, c, none⟩) (by show G ≠ H; omega) _).set x (c + 1) (by omega)).drew, ((hsy.set c k rfl).other (p := ⟨H, x, none⟩) (by show H ≠ G; omega) _).drew, ((hD.other (p := ⟨G, c, none⟩) (by show G ≠ g; omega) _).other (p := ⟨H, x, none⟩) (by show H ≠ g; omega) _).drew, ((ht.setNew (p := ⟨G, c, none⟩) (by show w.heap.size ≤ G; omega) _).setNew (p := ⟨H, x, none⟩) (by show w.heap.size ≤ H; omega) _).drew⟩, by simp [intOf]; omega⟩
            · -- LASTSY
              have HSY : Hid (Syms ls ls.length cs sy) := by
                have h := HS.out
                rw [show k = ls.length by omega] at h
                exact h
              have f34 := hD.frozen 34
              have c34 := hD.cQb
              by_cases hbig : 298 ≤ ls.length
              · have hbb : decide ((298 : Int) ≤ (ls.length : Int)) = true := decide_eq_true (by omega)
                have hD5 := hD.setQb 10 (x := 10) rfl
                have hsy5 := hsy.other (p := ⟨g, 34, none⟩) (by show g ≠ G; omega) (.int .u8 10)
                have ht5 := ht.setCell (p := ⟨g, 34, none⟩) rfl (.int .u8 10)
                have HQ0 : Hid (Quicks ls sy 5 0 ql0 qs0) := Quicks.start ls sy 5 ql0 qs0
                have HB0 : Hid (Cod.lim ls (1 - 1) ≤ 0 * 32) := Nat.le_refl _
                go_wp2
                clear f34 c34 hD hsy ht hrow
                go_loopw [10, 11] (fun vb vi wr => ∃ (b i : Nat) (ql qs : Nat → Nat), vb = .int .u8 (b : Int) ∧ vi = .int .u16 (i : Int) ∧ i ≤ 1024 ∧ 1 ≤ b ∧ b ≤ 14 ∧ Hid (Cod.lim ls (b - 1) ≤ i * 32) ∧ Hid (Quicks ls sy 5 i ql qs) ∧ Row .u16 wr G 23 G ls.length sy ∧ Dec wr base g lim pos (.slice (some ⟨G, 0, none⟩) ls.length ls.length) mn 10 ql qs ∧ Turn (fun b => b = g) w wr)
                  (fun _ vi _ => 1024 - (intOf vi).toNat)
                case atStart => exact ⟨1, 0, _, _, rfl, rfl, by omega, by omega, by omega, HB0, HQ0, hsy5, hD5, ht5⟩
                case round =>
                  obtain ⟨b, i, ql, qs, rfl, rfl, hi10, hb1, hb14, HBL, HQ, hsy, hD, ht⟩ := hrel
                  have c34 := hD.cQb
                  by_cases hlt : i < 1024
                  · obtain ⟨V, hV⟩ : ∃ V, V = i * 32 := ⟨_, rfl⟩
                    have hVI : (i : Int) * 32 = (V : Int) := by omega
                    have hVl : V < 32768 := by omega
                    have HBL2 : Hid (Cod.lim ls (b - 1) ≤ V) := by rw [hV]; exact HBL.out
                    have HV := Lib.hid hV
                    clear hV HBL
                    go_wp2
                    go_loopw [10] (fun vb wx => wx = wr ∧ ∃ (b : Nat), vb = .int .u8 (b : Int) ∧ 1 ≤ b ∧ b ≤ 14 ∧ Hid (Cod.lim ls (b - 1) ≤ V)) (fun vb _ => 15 - (intOf vb).toNat)
                    case atStart => exact ⟨rfl, b, rfl, hb1, hb14, HBL2⟩
                    case round =>
                      obtain ⟨rfl, b, rfl, hb1, hb14, HBL⟩ := hrel
                      have cl := hD.cLim (j := b) (by omega)
                      obtain ⟨a, had⟩ : ∃ a, lim b = a := ⟨_, rfl⟩
                      rw [had] at cl
                      have hal : a = Cod.lim ls b := by rw [← had]; exact HL2.out.lim b (by omega)
                      have hal2 : a ≤ 32768 := by rw [hal]; exact HF.out.lim_le b (by omega)
                      have HAL := Lib.hid hal
                      clear had hal
                      by_cases hva : a ≤ V
                      · have hb13 : b ≤ 13 := Decidable.byContradiction fun h => by
                          have h1 := HF.out.lim14
                          have h2 := HAL.out
                          rw [show b = 14 by omega, h1] at h2
                          omega
                        go_wp2
                        refine ⟨⟨trivial, b + 1, by go_num, by omega, by omega, ?_⟩, by simp [intOf]; omega⟩
                        show Cod.lim ls (b + 1 - 1) ≤ V
                        rw [show b + 1 - 1 = b by omega, ← HAL.out]
                        exact hva
                      · obtain ⟨q, rfl⟩ : ∃ q, b = q + 1 := ⟨b - 1, by omega⟩
                        have clq := hD.cLim (j := q) (by omega)
                        have cps := hD.cPos (j := q + 1) (by omega)
                        have c32 := hD.cSym
                        have cql := hD.cQl (j := i) hlt
                        have fql := hD.frozen (35 + i)
                        have fqs := hD.frozen (1059 + i)
                        have cqs := hD.cQs (j := i) hlt
                        obtain ⟨a0, ha0⟩ : ∃ a0, lim q = a0 := ⟨_, rfl⟩
                        rw [ha0] at clq
                        have ha0l : a0 = Cod.lim ls q := by rw [← ha0]; exact HL2.out.lim q (by omega)
                        have ha0V : a0 ≤ V := by rw [ha0l]; exact HBL.out
                        obtain ⟨e0, he0⟩ : ∃ e0, pos (q + 1) = e0 := ⟨_, rfl⟩
                        rw [he0] at cps
                        have he0l : e0 = ps ls (q + 1) := by rw [← he0]; exact HL2.out.pos (q + 1) (by omega)
                        obtain ⟨D, hDd⟩ : ∃ D, D = (V - a0) / 2 ^ (14 - q) := ⟨_, rfl⟩
                        have hDI : ((V : Int) - a0) / 2 ^ (14 - q) = (D : Int) := by
                          rw [hDd]
                          have : (V : Int) - a0 = ((V - a0 : Nat) : Int) := by omega
                          rw [this]
                          push_cast
                          rfl
                        have hpl : e0 + D < ls.length := by
                          have h1 := dist_lt (ls := ls) (b := q + 1) (v := V) (by omega) (by show Cod.lim ls q ≤ V; rw [← ha0l]; exact ha0V) (by rw [← HAL.out]; omega)
                          rw [show q + 1 - 1 = q by omega, show 15 - (q + 1) = 14 - q by omega, ← ha0l, ← he0l, ← hDd] at h1
                          exact h1
                        have hsyc := hsy.cell (j := e0 + D) (by have := HSY.out.slen; omega)
                        have hpl2 : (e0 : Int) + D < ls.length := by omega
                        have HA0 := Lib.hid ha0l
                        have HE0 := Lib.hid he0l
                        have HDD := Lib.hid hDd
                        have hi1024 : (i : Int) < 1024 := by omega
                        have hi0 : 0 ≤ (i : Int) := by omega
                        have hed0 : 0 ≤ (e0 : Int) + D := by omega
                        have htn : ((e0 : Int) + D).toNat = e0 + D := by omega
                        clear ha0 ha0l he0 he0l hDd
                        go_wp2
                        have hD6 := hD.setQl (i := i) hlt (q + 1) (x := (q : Int) + 1) (by omega)
                        have hsy6 := hsy.other (p := ⟨g, 35 + i, none⟩) (by show g ≠ G; omega) (.int .u8 ((q : Int) + 1))
                        have ht6 := ht.setCell (p := ⟨g, 35 + i, none⟩) rfl (.int .u8 ((q : Int) + 1))
                        obtain ⟨w6, hw6⟩ : ∃ w6, w6 = wr.setCell ⟨g, 35 + i, none⟩ (.int .u8 ((q : Int) + 1)) := ⟨_, rfl⟩
                        rw [← hw6] at hD6 hsy6 ht6 ⊢
                        clear hw6 hD hsy ht hsyc c32 fqs cqs cql fql clq cps c34 cl
                        have hsyc := hsy6.cell (j := e0 + D) (by have := HSY.out.slen; omega)
                        obtain ⟨sv, hsv⟩ : ∃ sv, sv = sy.getD (e0 + D) 0 := ⟨_, rfl⟩
                        rw [← hsv] at hsyc
                        have HSV := Lib.hid hsv
                        clear hsv
                        have c32 := hD6.cSym
                        have fqs := hD6.frozen (1059 + i)
                        have cqs := hD6.cQs (j := i) hlt
                        go_still_tail 12, (by kernel_rfl)
                        change wpList _ _ _ _ _ w6.drew
                        go_wp2
                        have hbl : Cod.lim ls q ≤ V := by rw [← HA0.out]; exact ha0V
                        have hvl : V < Cod.lim ls (q + 1) := by rw [← HAL.out]; omega
                        have hquick : Quick ls sy 5 i (q + 1) sv := by
                          refine ⟨by omega, hb14, ?_, ?_, ?_⟩
                          · show Cod.lim ls q ≤ i * 32
                            rw [← HV.out]; exact hbl
                          · show i * 32 < _
                            rw [← HV.out]; exact hvl
                          · show sv = sy.getD (ps ls (q + 1) + (i * 32 - Cod.lim ls q) / 2 ^ (15 - (q + 1))) 0
                            rw [← HV.out, ← HE0.out, ← HA0.out, show 15 - (q + 1) = 14 - q by omega, ← HDD.out]
                            exact HSV.out
                        have hq2 := HQ.out.step hquick
                        have hnb : Cod.lim ls (q + 1 - 1) ≤ (i + 1) * 32 := by
                          have := HV.out
                          show Cod.lim ls q ≤ _
                          omega
                        go_roundw
                        case rel => first | exact ⟨q + 1, i + 1, _, _, by go_num, by go_num, by omega, by omega, by omega, hnb, hq2, (hsy6.other (p := ⟨g, 1059 + i, none⟩) (by show g ≠ G; omega) _).drew, (hD6.setQs (i := i) hlt sv rfl).drew, (ht6.setCell (p := ⟨g, 1059 + i, none⟩) rfl _).drew⟩ | ((repeat apply Exists.intro); refine ⟨?_, rfl⟩; exact ⟨q + 1, i + 1, _, _, by go_num, by go_num, by omega, by omega, by omega, hnb, hq2, (hsy6.other (p := ⟨g, 1059 + i, none⟩) (by show g ≠ G; omega) _).drew, (hD6.setQs (i := i) hlt sv rfl).drew, (ht6.setCell (p := ⟨g, 1059 + i, none⟩) rfl _).drew⟩)
                        case measure => simp [intOf]; omega
                  · have HQ2 : Quicks ls sy 5 1024 ql qs := by
                      have h := HQ.out
                      rw [show i = 1024 by omega] at h
                      exact h
                    have HRD : Ready wr base wr.heap.size g ls := ⟨lim, pos, cs, sy, G, mn, 10, ql, qs, hD, hsy, by omega, hsy.lt, HL2.out, HSY.out, .inl ⟨rfl, HQ2⟩⟩
                    go_wp2
                    go_end0
                    exact ⟨rfl, HRD, ht⟩
              · have hbb : decide ((298 : Int) ≤ (ls.length : Int)) = false := decide_eq_false (by omega)
                have hD5 := hD.setQb 7 (x := 7) rfl
                have hsy5 := hsy.other (p := ⟨g, 34, none⟩) (by show g ≠ G; omega) (.int .u8 7)
                have ht5 := ht.setCell (p := ⟨g, 34, none⟩) rfl (.int .u8 7)
                have HQ0 : Hid (Quicks ls sy 8 0 ql0 qs0) := Quicks.start ls sy 8 ql0 qs0
                have HB0 : Hid (Cod.lim ls (1 - 1) ≤ 0 * 256) := Nat.le_refl _
                go_wp2
                clear f34 c34 hD hsy ht hrow
                go_loopw [10, 11] (fun vb vi wr => ∃ (b i : Nat) (ql qs : Nat → Nat), vb = .int .u8 (b : Int) ∧ vi = .int .u16 (i : Int) ∧ i ≤ 128 ∧ 1 ≤ b ∧ b ≤ 14 ∧ Hid (Cod.lim ls (b - 1) ≤ i * 256) ∧ Hid (Quicks ls sy 8 i ql qs) ∧ Row .u16 wr G 23 G ls.length sy ∧ Dec wr base g lim pos (.slice (some ⟨G, 0, none⟩) ls.length ls.length) mn 7 ql qs ∧ Turn (fun b => b = g) w wr)
                  (fun _ vi _ => 128 - (intOf vi).toNat)
                case atStart => exact ⟨1, 0, _, _, rfl, rfl, by omega, by omega, by omega, HB0, HQ0, hsy5, hD5, ht5⟩
                case round =>
                  obtain ⟨b, i, ql, qs, rfl, rfl, hi10, hb1, hb14, HBL, HQ, hsy, hD, ht⟩ := hrel
                  have c34 := hD.cQb
                  by_cases hlt : i < 128
                  · obtain ⟨V, hV⟩ : ∃ V, V = i * 256 := ⟨_, rfl⟩
                    have hVI : (i : Int) * 256 = (V : Int) := by omega
                    have hVl : V < 32768 := by omega
                    have HBL2 : Hid (Cod.lim ls (b - 1) ≤ V) := by rw [hV]; exact HBL.out
                    have HV := Lib.hid hV
                    clear hV HBL
                    go_wp2
                    go_loopw [10] (fun vb wx => wx = wr ∧ ∃ (b : Nat), vb = .int .u8 (b : Int) ∧ 1 ≤ b ∧ b ≤ 14 ∧ Hid (Cod.lim ls (b - 1) ≤ V)) (fun vb _ => 15 - (intOf vb).toNat)
                    case atStart => exact ⟨rfl, b, rfl, hb1, hb14, HBL2⟩
                    case round =>
                      obtain ⟨rfl, b, rfl, hb1, hb14, HBL⟩ := hrel
                      have cl := hD.cLim (j := b) (by omega)
                      obtain ⟨a, had⟩ : ∃ a, lim b = a := ⟨_, rfl⟩
                      rw [had] at cl
                      have hal : a = Cod.lim ls b := by rw [← had]; exact HL2.out.lim b (by omega)
                      have hal2 : a ≤ 32768 := by rw [hal]; exact HF.out.lim_le b (by omega)
                      have HAL := Lib.hid hal
                      clear had hal
                      by_cases hva : a ≤ V
                      · have hb13 : b ≤ 13 := Decidable.byContradiction fun h => by
                          have h1 := HF.out.lim14
                          have h2 := HAL.out
                          rw [show b = 14 by omega, h1] at h2
                          omega
                        go_wp2
                        refine ⟨⟨trivial, b + 1, by go_num, by omega, by omega, ?_⟩, by simp [intOf]; omega⟩
                        show Cod.lim ls (b + 1 - 1) ≤ V
                        rw [show b + 1 - 1 = b by omega, ← HAL.out]
                        exact hva
                      · obtain ⟨q, rfl⟩ : ∃ q, b = q + 1 := ⟨b - 1, by omega⟩
                        have clq := hD.cLim (j := q) (by omega)
                        have cps := hD.cPos (j := q + 1) (by omega)
                        have c32 := hD.cSym
                        have cql := hD.cQl (j := i) (by omega)
                        have fql := hD.frozen (35 + i)
                        have fqs := hD.frozen (1059 + i)
                        have cqs := hD.cQs (j := i) (by omega)
                        obtain ⟨a0, ha0⟩ : ∃ a0, lim q = a0 := ⟨_, rfl⟩
                        rw [ha0] at clq
                        have ha0l : a0 = Cod.lim ls q := by rw [← ha0]; exact HL2.out.lim q (by omega)
                        have ha0V : a0 ≤ V := by rw [ha0l]; exact HBL.out
                        obtain ⟨e0, he0⟩ : ∃ e0, pos (q + 1) = e0 := ⟨_, rfl⟩
                        rw [he0] at cps
                        have he0l : e0 = ps ls (q + 1) := by rw [← he0]; exact HL2.out.pos (q + 1) (by omega)
                        obtain ⟨D, hDd⟩ : ∃ D, D = (V - a0) / 2 ^ (14 - q) := ⟨_, rfl⟩
                        have hDI : ((V : Int) - a0) / 2 ^ (14 - q) = (D : Int) := by
                          rw [hDd]
                          have : (V : Int) - a0 = ((V - a0 : Nat) : Int) := by omega
                          rw [this]
                          push_cast
                          rfl
                        have hpl : e0 + D < ls.length := by
                          have h1 := dist_lt (ls := ls) (b := q + 1) (v := V) (by omega) (by show Cod.lim ls q ≤ V; rw [← ha0l]; exact ha0V) (by rw [← HAL.out]; omega)
                          rw [show q + 1 - 1 = q by omega, show 15 - (q + 1) = 14 - q by omega, ← ha0l, ← he0l, ← hDd] at h1
                          exact h1
                        have hsyc := hsy.cell (j := e0 + D) (by have := HSY.out.slen; omega)
                        have hpl2 : (e0 : Int) + D < ls.length := by omega
                        have HA0 := Lib.hid ha0l
                        have HE0 := Lib.hid he0l
                        have HDD := Lib.hid hDd
                        have hi1024 : (i : Int) < 1024 := by omega
                        have hi0 : 0 ≤ (i : Int) := by omega
                        have hed0 : 0 ≤ (e0 : Int) + D := by omega
                        have htn : ((e0 : Int) + D).toNat = e0 + D := by omega
                        clear ha0 ha0l he0 he0l hDd
                        go_wp2
                        have hD6 := hD.setQl (i := i) (by omega) (q + 1) (x := (q : Int) + 1) (by omega)
                        have hsy6 := hsy.other (p := ⟨g, 35 + i, none⟩) (by show g ≠ G; omega) (.int .u8 ((q : Int) + 1))
                        have ht6 := ht.setCell (p := ⟨g, 35 + i, none⟩) rfl (.int .u8 ((q : Int) + 1))
                        obtain ⟨w6, hw6⟩ : ∃ w6, w6 = wr.setCell ⟨g, 35 + i, none⟩ (.int .u8 ((q : Int) + 1)) := ⟨_, rfl⟩
                        rw [← hw6] at hD6 hsy6 ht6 ⊢
                        clear hw6 hD hsy ht hsyc c32 fqs cqs cql fql clq cps c34 cl
                        have hsyc := hsy6.cell (j := e0 + D) (by have := HSY.out.slen; omega)
                        obtain ⟨sv, hsv⟩ : ∃ sv, sv = sy.getD (e0 + D) 0 := ⟨_, rfl⟩
                        rw [← hsv] at hsyc
                        have HSV := Lib.hid hsv
                        clear hsv
                        have c32 := hD6.cSym
                        have fqs := hD6.frozen (1059 + i)
                        have cqs := hD6.cQs (j := i) (by omega)
                        go_still_tail 12, (by kernel_rfl)
                        change wpList _ _ _ _ _ w6.drew
                        go_wp2
                        have hbl : Cod.lim ls q ≤ V := by rw [← HA0.out]; exact ha0V
                        have hvl : V < Cod.lim ls (q + 1) := by rw [← HAL.out]; omega
                        have hquick : Quick ls sy 8 i (q + 1) sv := by
                          refine ⟨by omega, hb14, ?_, ?_, ?_⟩
                          · show Cod.lim ls q ≤ i * 256
                            rw [← HV.out]; exact hbl
                          · show i * 256 < _
                            rw [← HV.out]; exact hvl
                          · show sv = sy.getD (ps ls (q + 1) + (i * 256 - Cod.lim ls q) / 2 ^ (15 - (q + 1))) 0
                            rw [← HV.out, ← HE0.out, ← HA0.out, show 15 - (q + 1) = 14 - q by omega, ← HDD.out]
                            exact HSV.out
                        have hq2 := HQ.out.step hquick
                        have hnb : Cod.lim ls (q + 1 - 1) ≤ (i + 1) * 256 := by
                          have := HV.out
                          show Cod.lim ls q ≤ _
                          omega
                        go_roundw
                        case rel => first | exact ⟨q + 1, i + 1, _, _, by go_num, by go_num, by omega, by omega, by omega, hnb, hq2, (hsy6.other (p := ⟨g, 1059 + i, none⟩) (by show g ≠ G; omega) _).drew, (hD6.setQs (i := i) (by omega) sv rfl).drew, (ht6.setCell (p := ⟨g, 1059 + i, none⟩) rfl _).drew⟩ | ((repeat apply Exists.intro); refine ⟨?_, rfl⟩; exact ⟨q + 1, i + 1, _, _, by go_num, by go_num, by omega, by omega, by omega, hnb, hq2, (hsy6.other (p := ⟨g, 1059 + i, none⟩) (by show g ≠ G; omega) _).drew, (hD6.setQs (i := i) (by omega) sv rfl).drew, (ht6.setCell (p := ⟨g, 1059 + i, none⟩) rfl _).drew⟩)
                        case measure => simp [intOf]; omega
                  · have HQ2 : Quicks ls sy 8 128 ql qs := by
                      have h := HQ.out
                      rw [show i = 128 by omega] at h
                      exact h
                    have HRD : Ready wr base wr.heap.size g ls := ⟨lim, pos, cs, sy, G, mn, 7, ql, qs, hD, hsy, by omega, hsy.lt, HL2.out, HSY.out, .inr ⟨rfl, HQ2⟩⟩
                    go_wp2
                    go_end0
                    exact ⟨rfl, HRD, ht⟩
end Go.Proofs.YtoicojdnaahimaaDoor.Dec
