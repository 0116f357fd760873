/- A row that is being filled: what stands at the places that have been filled. No program. -/
import Derived.Test.YtmplkbnajohheaaDoorDeltaSpec
namespace Go.Proofs.YtmplkbnajohheaaDoor.Delta
open Go Go.RowKit Go.Proofs.YtmplkbnajohheaaDoor.Aid

theorem seen_step {n j k : Nat} (hn : 0 < n) (hk : k % n = j) (p : Nat) : seen n j (k + n) p = (seen n j k p || p == k) := by
  unfold seen
  by_cases h1 : p % n < j
  · simp [h1]
  · by_cases h2 : p % n = j
    · have e : decide (p < k + n) = (decide (p < k) || p == k) := by
        rw [Bool.eq_iff_iff]
        simp only [decide_eq_true_eq, Bool.or_eq_true, beq_iff_eq]
        have d1 := Nat.div_add_mod p n
        have d2 := Nat.div_add_mod k n
        constructor
        · intro hlt
          rcases Nat.lt_trichotomy p k with h | h | h
          · exact .inl h
          · exact .inr h
          · exfalso
            have hd : k / n < p / n := by
              apply Nat.lt_of_mul_lt_mul_left (a := n)
              omega
            have : n * (k / n + 1) ≤ n * (p / n) := Nat.mul_le_mul_left _ hd
            rw [Nat.mul_add] at this
            omega
        · intro h
          omega
      simp [h2, e]
    · have e : (p == k) = false := by
        simp only [beq_eq_false_iff_ne, ne_eq]
        intro e
        subst e
        exact h2 hk
      simp [h1, h2, e]
theorem seen_end {n len j k p : Nat} (hl : len ≤ k) (hp : p < len) : seen n j k p = seen n (j + 1) (j + 1) p := by
  have hle := Nat.mod_le p n
  rw [Bool.eq_iff_iff]
  simp only [seen, Bool.or_eq_true, decide_eq_true_eq, Bool.and_eq_true]
  omega

/-- A row of bytes in the making. -/
def Part (w : World) (h o n j k : Nat) (out : List UInt8) : Prop :=
  ∀ p, p < out.length → (∃ v, w.cell? ⟨h, o + p, none⟩ = some v) ∧ w.frozen? ⟨h, o + p, none⟩ = false ∧ (seen n j k p = true → w.cell? ⟨h, o + p, none⟩ = some (.int .u8 ((out.getD p 0).toNat : Int)))
theorem Part.put {w : World} {h o n j k : Nat} {out : List UInt8} (hc : Part w h o n j k out) (hn : 0 < n) (hk : k % n = j) (x : UInt8) : Part (w.setCell ⟨h, o + k, none⟩ (.int .u8 (x.toNat : Int))) h o n j (k + n) (out.set k x) := by
  intro p hp
  rw [List.length_set] at hp
  obtain ⟨⟨v, h1⟩, h2, h3⟩ := hc p hp
  rw [World.frozen?_setCell]
  by_cases e : k = p
  · subst e
    have hs := World.cell?_setCell_same (u := v) w ⟨h, o + k, none⟩ (.int .u8 (x.toNat : Int)) h1
    refine ⟨⟨_, hs⟩, h2, fun _ => ?_⟩
    rw [hs, List.getD_eq_getElem?_getD, List.getElem?_set_self hp]
    rfl
  · have hs := World.cell?_setCell_other w ⟨h, o + k, none⟩ ⟨h, o + p, none⟩ (.int .u8 (x.toNat : Int)) (by intro e'; injection e' with _ e2; omega)
    refine ⟨⟨v, hs.trans h1⟩, h2, fun hseen => ?_⟩
    rw [seen_step hn hk] at hseen
    have e2 : (p == k) = false := by simp only [beq_eq_false_iff_ne, ne_eq]; omega
    rw [e2, Bool.or_false] at hseen
    rw [hs, h3 hseen, List.getD_eq_getElem?_getD, List.getD_eq_getElem?_getD, List.getElem?_set_ne e]
theorem Part.next {w : World} {h o n j k : Nat} {out : List UInt8} (hc : Part w h o n j k out) (hl : out.length ≤ k) : Part w h o n (j + 1) (j + 1) out := by
  intro p hp
  obtain ⟨h1, h2, h3⟩ := hc p hp
  exact ⟨h1, h2, fun hs => h3 (by rw [seen_end hl hp]; exact hs)⟩
theorem Part.all {w : World} {h o n j k : Nat} {out : List UInt8} (hc : Part w h o n j k out) (hn : 0 < n) (hj : n ≤ j) : Cells w h o out := by
  intro p hp
  obtain ⟨_, h2, h3⟩ := hc p hp
  refine ⟨h3 ?_, h2⟩
  have := Nat.mod_lt p hn
  simp [seen, show p % n < j from by omega]
theorem Part.start {w : World} {h o n : Nat} {out : List UInt8} (hc : ∀ p, p < out.length → (∃ v, w.cell? ⟨h, o + p, none⟩ = some v) ∧ w.frozen? ⟨h, o + p, none⟩ = false) : Part w h o n 0 0 out := by
  intro p hp
  refine ⟨(hc p hp).1, (hc p hp).2, fun hs => ?_⟩
  simp [seen] at hs
theorem Cells.start {w : World} {h o n : Nat} {out : List UInt8} (hc : Cells w h o out) : Part w h o n 0 0 out :=
  Part.start fun p hp => ⟨⟨_, (hc p hp).1⟩, (hc p hp).2⟩
/-- The cells of a row behind its length. -/
theorem own_spare {w : World} {base e g cap : Nat} {l : List UInt8} (h : Own w base e g cap l) (j : Nat) (hj : j < cap) : ∃ v, w.cell? ⟨g, j, none⟩ = some v := by
  rcases h.2 with ⟨h', _⟩ | ⟨g', cap', cur, h', _, hg, _, _, hs, _⟩
  · cases h'
  · injection h' with h1 h2 h3
    injection h1 with h1
    injection h1 with h1
    subst h1
    subst h3
    exact ⟨cur[j]'(by omega), by rw [cell_of_row w g j cur e (0, 0) hg]; exact Array.getElem?_eq_getElem _⟩
end Go.Proofs.YtmplkbnajohheaaDoor.Delta
