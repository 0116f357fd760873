/- The walk of the reference's text of symbols. -/
import Derived.Test.YtoicojdnaahimaaDoorWord
import Derived.Test.YtoicojdnaahimaaDoorCodes
namespace Go.Proofs.YtoicojdnaahimaaDoor.Cod
open Go Go.RowKit Go.Proofs.YtoicojdnaahimaaDoor.Aid Go.Proofs.YtoicojdnaahimaaDoor.Base Go.Proofs.YtoicojdnaahimaaDoor.Len

/-- How many bits the first j symbols take. -/
def posOf (ls want : List Nat) : Nat → Nat
  | 0 => 0
  | j + 1 => posOf ls want j + ls.getD (want.getD j 0) 0
theorem posOf_mono (ls want : List Nat) {i j : Nat} (h : i ≤ j) : posOf ls want i ≤ posOf ls want j := by
  induction j with
  | zero => rw [show i = 0 by omega]; exact Nat.le_refl _
  | succ j ih =>
    by_cases e : i = j + 1
    · rw [e]; exact Nat.le_refl _
    · have := ih (by omega); show _ ≤ posOf ls want j + _; omega
theorem posOf_le {ls : List Nat} (want : List Nat) (hf : Full ls) : ∀ j, posOf ls want j ≤ 14 * j
  | 0 => by simp [posOf]
  | j + 1 => by have := posOf_le want hf j; have := hf.most (want.getD j 0); show posOf ls want j + _ ≤ _; omega
/-- The first j symbols are written. -/
structure Texts (ls want : List Nat) (j : Nat) (out : List Nat) : Prop where
  told : ∀ i, i < j → win out (posOf ls want i) (ls.getD (want.getD i 0) 0) = code ls (want.getD i 0)
theorem Texts.start (ls want out : List Nat) : Texts ls want 0 out := ⟨fun i h => by omega⟩
theorem Texts.step {ls want out out' : List Nat} {j : Nat} (h : Texts ls want j out) (hold : ∀ p, p < posOf ls want j → bitAt out' p = bitAt out p)
    (hw : win out' (posOf ls want j) (ls.getD (want.getD j 0) 0) = code ls (want.getD j 0)) : Texts ls want (j + 1) out' := by
  refine ⟨fun i hi => ?_⟩
  by_cases e : i = j
  · subst e; exact hw
  · rw [← h.told i (by omega)]
    refine win_congr _ fun k hk => hold _ ?_
    have h1 : posOf ls want (i + 1) ≤ posOf ls want j := posOf_mono ls want (by omega)
    have h2 : posOf ls want (i + 1) = posOf ls want i + ls.getD (want.getD i 0) 0 := rfl
    omega

set_option maxRecDepth 100000 in
set_option maxHeartbeats 1000000 in
theorem text_any (v0 v1 : Value) (want ls : List Nat) (B : Nat) (w : World) (hr0 : Rd w B v0 (nums .i64 want)) (hr1 : Rd w B v1 (nums .i64 ls)) (hB : B ≤ w.heap.size)
    (hl0 : 0 < ls.length) (hl : ls.length ≤ 430) (hf : Full ls) (hwl : want.length ≤ 1000) (hws : ∀ j, j < want.length → want.getD j 0 < ls.length ∧ 0 < ls.getD (want.getD j 0) 0) :
    Calls Tryd.prog 10 #[v0, v1] w fun e w' => ∃ (out : List Nat) (vs : Value), e = .returned vs ∧ w'.ownsRow w.heap.size 5 1 vs out.length (nums .u8 out) ∧ Bits out (posOf ls want want.length) ∧ Texts ls want want.length out ∧ Below w.heap.size w w' := by
  have hst0 := St.made w 44 #[.slice none 0 0, .int .i64 0]
  obtain ⟨A0, cap0, hv0, hA1, hA2, hA3⟩ := hr0
  rw [nums_length] at hv0 hA1 hA3
  subst hv0
  have HA := Lib.hid hA3
  have HF := Lib.hid hf
  have HWS := Lib.hid hws
  obtain ⟨H, hH⟩ : ∃ H, w.heap.size = H := ⟨_, rfl⟩
  have hr1' := hr1.alloc hB (.cells #[.slice none 0 0, .int .i64 0] 44)
  obtain ⟨A1, cap1, hv1, hA4, hA5, hA6⟩ := hr1
  rw [nums_length] at hv1 hA4 hA6
  subst hv1
  obtain ⟨g1, o1, rfl, hg1, hcell1⟩ := hA6 hl0
  have HC1 := Lib.hid hcell1
  clear hA3 hf hws hA6 hcell1
  have hs1 : (w.alloc (.cells #[.slice none 0 0, .int .i64 0] 44)).heap.size = H + 1 := by rw [← hH]; simp
  have hb1 : Below H w (w.alloc (.cells #[.slice none 0 0, .int .i64 0] 44)) := (Below.refl _ _).alloc (by omega) _
  rw [hH] at hst0
  go_enter Tryd.func10, Tryd.ntmps10
  go_wp2_with (go_at_call 16; refine (codes_any _ ls B _ hr1' (by rw [hs1]; omega) hl0 hl HF.out).mono ?_; rintro e w2 ⟨cs, rfl, hT, hcrow, hb2⟩)
  rw [hs1] at hcrow hb2
  have hbx : Below H w w2 := hb1.trans (hb2.mono (by omega))
  have hst2 : St w2 H 44 H [.slice none 0 0, .int .i64 0] := hst0.turn (Turn.of_below hb2) (by omega)
  obtain ⟨M, hM⟩ : ∃ M, M = w2.heap.size := ⟨_, rfl⟩
  have hM1 : H + 1 < M := by have := hcrow.lt; omega
  have hwr2 : Wr (fun k => k = H ∨ M ≤ k) w2 H H [] 0 := ⟨.slice none 0 0, hst2, by simpa [nums] using World.ownsRow_nil w2 H 5 1, by simp [Value.ownBlock], .inl rfl, by simp [Value.ownBlock], Bits.nil⟩
  have hc2 : ∀ s, s < ls.length → w2.cell? ⟨H + 1, s, none⟩ = some (.int .i64 ((cs.getD s 0 : Nat) : Int)) := fun s hs => by
    have hcl := hT.len
    have := World.ownsRow.cellAt hcrow s (by omega)
    rw [this, nums_get (by omega)]
  have HC2 := Lib.hid hc2
  have HT := Lib.hid hT
  have HM := Lib.hid hM
  have HH := Lib.hid hH
  have hgB : g1 < H := by omega
  have hBH : B ≤ H := by omega
  clear hc2 hT hst0 hr1' hs1 hb1 hst2 hM hH hcrow hb2
  go_wp2
  go_loopw [15] (fun vi wr => ∃ (j : Nat) (out : List Nat), vi = .int .i64 (j : Int) ∧ j ≤ want.length ∧ Hid (Wr (fun k => k = H ∨ M ≤ k) wr H H out (posOf ls want j)) ∧ Hid (Texts ls want j out) ∧ Turn (fun k => k = H ∨ M ≤ k) w2 wr)
    (fun vi _ => want.length - (intOf vi).toNat)
  case atStart => exact ⟨0, [], rfl, by omega, hwr2, Texts.start ls want [], Turn.refl _ _⟩
  case round =>
    obtain ⟨j, out, rfl, hj, HW, HX, ht⟩ := hrel
    by_cases hlt : j < want.length
    · obtain ⟨g0, o0, rfl, hg0, hcell0⟩ := HA.out (by omega)
      obtain ⟨hs, hsp⟩ := HWS.out j hlt
      have hlo : ∀ b o, b < H → wr.cell? ⟨b, o, none⟩ = w.cell? ⟨b, o, none⟩ := fun b o hb => by
        rw [ht.cell (p := ⟨b, o, none⟩) (by show b < w2.heap.size; have := HM.out; omega) (by show ¬ (b = H ∨ M ≤ b); omega)]
        exact hbx.cell hb
      have cw := (hlo g0 (o0 + j) (by omega)).trans (hcell0 j _ (nums_get hlt))
      obtain ⟨s, hsdef⟩ : ∃ s, s = want.getD j 0 := ⟨_, rfl⟩
      rw [← hsdef] at cw hs hsp
      have cl := (hlo g1 (o1 + s) hgB).trans (HC1.out s _ (nums_get hs))
      have cc := (ht.cell (p := ⟨H + 1, s, none⟩) (by show H + 1 < w2.heap.size; have := HM.out; omega) (by show ¬ (H + 1 = H ∨ M ≤ H + 1); omega)).trans (HC2.out s hs)
      obtain ⟨c, hcd⟩ : ∃ c, c = cs.getD s 0 := ⟨_, rfl⟩
      obtain ⟨l, hld⟩ : ∃ l, l = ls.getD s 0 := ⟨_, rfl⟩
      rw [← hcd] at cc
      rw [← hld] at cl hsp
      have hcode : c = code ls s := by
        rw [hcd]
        exact HT.out.told s hs (by omega) (.inl (by have := HF.out.most s; omega))
      have hl14 : l ≤ 14 := by rw [hld]; exact HF.out.most s
      have hclt : c < 2 ^ l := by rw [hcode, hld]; exact code_lt HF.out hs (by omega)
      have HS := Lib.hid hsdef
      have HCo := Lib.hid hcode
      have HL := Lib.hid hld
      have HP : posOf ls want j ≤ 30000 := by have := posOf_le want HF.out j; omega
      clear hsdef hcode hld hcd hlo hcell0
      go_wp2
      go_still_tail 9, (by kernel_rfl)
      change wpList _ _ _ _ _ wr.drew
      go_wp2_with (go_at_call 17; refine (word_any (fun k => k = H ∨ M ≤ k) H H c l (posOf ls want j) out wr.drew HW.out (fun k hk => .inr (by have := ht.size; have := HM.out; have hk : wr.heap.size ≤ k := hk; omega)) (by omega) hclt HP).mono ?_; rintro e w3 ⟨out3, rfl, hwr3, hold3, hwin3, ht3⟩)
      have e1 : posOf ls want (j + 1) = posOf ls want j + l := by
        show posOf ls want j + ls.getD (want.getD j 0) 0 = _
        rw [← HS.out, ← HL.out]
      have hx3 : Texts ls want (j + 1) out3 := HX.out.step hold3 (by rw [← HS.out, ← HL.out, hwin3, HCo.out])
      rw [← e1] at hwr3
      exact ⟨⟨j + 1, out3, by go_num, by omega, hwr3, hx3, ht.drew.trans ht3⟩, by simp [intOf]; omega⟩
    · obtain rfl : j = want.length := by omega
      obtain ⟨vs, hst, hown, hvg, _, _, hbits⟩ := HW.out
      have c0 := hst.cell (j := 0) rfl
      go_wp2
      go_ret
      have hbel : Below H w wr := hbx.trans (ht.below (by have := HM.out; omega) (fun k hk => by rcases hk with hk | hk <;> omega))
      obtain rfl := HH.out
      exact ⟨out, vs, rfl, hown, hbits, HX.out, hbel⟩
end Go.Proofs.YtoicojdnaahimaaDoor.Cod
