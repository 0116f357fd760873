/- The walk of the reference's codes. -/
import Derived.Test.YtoicojdnaahimaaDoorCodePlain
import Derived.Test.YtoicojdnaahimaaDoorMake
namespace Go.Proofs.YtoicojdnaahimaaDoor.Cod
open Go Go.RowKit Go.Proofs.YtoicojdnaahimaaDoor.Aid Go.Proofs.YtoicojdnaahimaaDoor.Base Go.Proofs.YtoicojdnaahimaaDoor.Len

/-- The codes of lengths below i are written, and of length i those ahead of place k. -/
structure Told (ls : List Nat) (i k : Nat) (o : List Nat) : Prop where
  len : o.length = ls.length
  told : ∀ s, s < ls.length → 0 < ls.getD s 0 → (ls.getD s 0 < i ∨ (ls.getD s 0 = i ∧ s < k)) → o.getD s 0 = code ls s
theorem Told.start (ls : List Nat) : Told ls 1 0 (List.replicate ls.length 0) := ⟨by simp, fun s _ h0 h => by omega⟩
theorem Told.next {ls o : List Nat} {i : Nat} (h : Told ls i ls.length o) : Told ls (i + 1) 0 o := ⟨h.len, fun s hs h0 h1 => h.told s hs h0 (by omega)⟩
theorem Told.skip {ls o : List Nat} {i k : Nat} (h : Told ls i k o) (hk : ls.getD k 0 ≠ i) : Told ls i (k + 1) o :=
  ⟨h.len, fun s hs h0 h1 => h.told s hs h0 (by
    rcases h1 with h1 | ⟨h1, h2⟩
    · exact .inl h1
    · by_cases e : s = k
      · subst e; exact absurd h1 hk
      · exact .inr ⟨h1, by omega⟩)⟩
theorem Told.put {ls o : List Nat} {i k v : Nat} (h : Told ls i k o) (hk : ls.getD k 0 = i) (_ : k < ls.length) (hv : v = first ls i + (ls.take k).count i) : Told ls i (k + 1) (o.set k v) := by
  refine ⟨by rw [List.length_set]; exact h.len, fun s hs h0 h1 => ?_⟩
  by_cases e : k = s
  · subst e
    rw [getD_set_same _ _ _ _ (by rw [h.len]; exact hs), hv]
    unfold code rank
    rw [hk]
  · rw [getD_set_other _ _ _ _ _ e]
    exact h.told s hs h0 (by omega)

set_option maxRecDepth 100000 in
set_option maxHeartbeats 1000000 in
theorem codes_any (v : Value) (ls : List Nat) (B : Nat) (w : World) (hr : Rd w B v (nums .i64 ls)) (hB : B ≤ w.heap.size) (hl0 : 0 < ls.length) (hl : ls.length ≤ 430) (hf : Full ls) :
    Calls Tryd.prog 16 #[v] w fun e w' => ∃ o : List Nat, e = .returned (.slice (some ⟨w.heap.size, 0, none⟩) ls.length ls.length) ∧ Told ls 16 0 o ∧ Row .i64 w' w.heap.size 3 w.heap.size ls.length o ∧ Below w.heap.size w w' := by
  obtain ⟨i0, hi, hz0, hz1, hz2⟩ := info_parts infoI
  obtain ⟨A, cap, hv, hA1, hA2, hA3⟩ := hr
  rw [nums_length] at hv hA1 hA3
  subst hv
  obtain ⟨g, o, rfl, hg, hcell0⟩ := hA3 hl0
  have hcell : ∀ j, j < ls.length → w.cell? ⟨g, o + j, none⟩ = some (.int .i64 ((ls.getD j 0 : Nat) : Int)) := fun j hj => hcell0 j _ (nums_get hj)
  have HC := Lib.hid hcell
  have HF := Lib.hid hf
  clear hcell0 hcell hA3 hf
  have hmk := run_zeros (P := Tryd.prog) 24 3 i0 (.int .i64 0) 8 Tryd.underlying24 hi hz0 hz1 hz2 (by omega) rfl ls.length (by omega)
  have hm0 := row_zeros .i64 w 3 ls.length (by omega)
  have hgH : g < w.heap.size := by omega
  have HT0 : Hid (Told ls 1 0 (List.replicate ls.length 0)) := Told.start ls
  have HF1 : Hid (first ls 1 = 0) := rfl
  go_enter Tryd.func16, Tryd.ntmps16
  go_wp2
  go_loopw [4, 5] (fun vc vi wr => ∃ (i c : Nat) (o : List Nat), vc = .int .i64 (c : Int) ∧ vi = .int .i64 (i : Int) ∧ 1 ≤ i ∧ i ≤ 16 ∧ Hid (c = first ls i) ∧ Hid (Told ls i 0 o) ∧ Row .i64 wr w.heap.size 3 w.heap.size ls.length o ∧ Below w.heap.size w wr)
    (fun _ vi _ => 16 - (intOf vi).toNat)
  case atStart => exact ⟨1, 0, List.replicate ls.length 0, rfl, rfl, by omega, by omega, HF1.out.symm, HT0, hm0, (Below.refl _ _).alloc (Nat.le_refl _) _⟩
  case round =>
    obtain ⟨i, c, o1, rfl, rfl, hi1, hi2, HCi, HT, hrow, hb⟩ := hrel
    have hc16 : c ≤ 65536 := by have := HF.out.first_le i hi2; have := HCi.out; omega
    by_cases hlt : i < 16
    · have HC0 : Hid (c = first ls i + (ls.take 0).count i) := by
        have h := HCi.out
        show c = first ls i + (ls.take 0).count i
        simpa using h
      go_wp2
      go_loopw [4, 17] (fun vc vk wr => ∃ (k c : Nat) (o : List Nat), vc = .int .i64 (c : Int) ∧ vk = .int .i64 (k : Int) ∧ k ≤ ls.length ∧ Hid (c = first ls i + (ls.take k).count i) ∧ Hid (Told ls i k o) ∧ Row .i64 wr w.heap.size 3 w.heap.size ls.length o ∧ Below w.heap.size w wr)
        (fun _ vk _ => ls.length - (intOf vk).toNat)
      case atStart => exact ⟨0, c, o1, rfl, rfl, by omega, HC0, HT, hrow, hb⟩
      case round =>
        obtain ⟨k, c, o2, rfl, rfl, hk, HCk, HT, hrow, hb⟩ := hrel
        have hc17 : c ≤ 66000 := by
          have h1 := HF.out.first_le i hi2
          have h2 := HCk.out
          have h3 : (ls.take k).count i ≤ (ls.take k).length := List.count_le_length
          rw [List.length_take] at h3
          omega
        by_cases hlt2 : k < ls.length
        · have hc := (hb.cell (p := ⟨g, o + k, none⟩) hgH).trans (HC.out k hlt2)
          obtain ⟨x, hx⟩ : ∃ x, x = ls.getD k 0 := ⟨_, rfl⟩
          rw [← hx] at hc
          have hx14 := HF.out.most k
          rw [← hx] at hx14
          have HX := Lib.hid hx
          clear hx
          have hcnt := take_count_succ ls k i hlt2
          rw [← HX.out] at hcnt
          have HCN := Lib.hid hcnt
          clear hcnt
          by_cases hxi : x = i
          · have hfr := hrow.frozen k
            have hl2 := HT.out.len
            have hcy := hrow.cell (j := k) (by omega)
            subst hxi
            go_wp2
            have h1 := HCk.out
            have h2 := HCN.out
            rw [if_pos rfl] at h2
            have hT := HT.out.put HX.out.symm hlt2 h1
            refine ⟨⟨k + 1, c + 1, _, by go_num, by go_num, by omega, (by omega : c + 1 = first ls x + (ls.take (k + 1)).count x), hT, hrow.set k c rfl, hb.setCell (Nat.le_refl _) _⟩, by simp [intOf]; omega⟩
          · go_wp2
            have h1 := HCk.out
            have h2 := HCN.out
            rw [if_neg hxi] at h2
            have hT := HT.out.skip (k := k) (by rw [← HX.out]; exact hxi)
            refine ⟨⟨k + 1, c, _, rfl, by go_num, by omega, (by omega : c = first ls i + (ls.take (k + 1)).count i), hT, hrow, hb⟩, by simp [intOf]; omega⟩
        · have hkl : k = ls.length := by omega
          have HT2 : Hid (Told ls (i + 1) 0 o2) := by
            have := HT.out
            rw [hkl] at this
            exact this.next
          have HC2 : Hid (2 * c = first ls (i + 1)) := by
            have h1 := HCk.out
            rw [hkl, List.take_length] at h1
            show 2 * c = 2 * (first ls i + cn ls i)
            unfold cn
            rw [if_neg (by omega)]
            omega
          clear hkl
          go_wp2
          refine ⟨⟨i + 1, 2 * c, o2, by go_num, by go_num, by omega, by omega, HC2, HT2, hrow, hb⟩, by simp [intOf]; omega⟩
    · go_wp2
      go_ret
      have hT := HT.out
      rw [show i = 16 by omega] at hT
      exact ⟨o1, rfl, hT, hrow, hb⟩
end Go.Proofs.YtoicojdnaahimaaDoor.Cod
