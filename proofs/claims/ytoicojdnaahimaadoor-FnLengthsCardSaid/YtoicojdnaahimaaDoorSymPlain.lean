/- What a decoder of codes tells at a window of bits: the plain facts. Of no program. -/
import Derived.Test.YtoicojdnaahimaaDoorDec
namespace Go.Proofs.YtoicojdnaahimaaDoor.Dec
open Go Go.RowKit Go.Proofs.YtoicojdnaahimaaDoor.Aid Go.Proofs.YtoicojdnaahimaaDoor.Len Go.Proofs.YtoicojdnaahimaaDoor.Cod

/-- The window v of fifteen bits begins with the code of symbol s, which has l bits and is the r-th of them. -/
structure Hit (ls : List Nat) (v s l r : Nat) : Prop where
  l0 : 0 < l
  l14 : l ≤ 14
  low : lim ls (l - 1) + r * 2 ^ (15 - l) ≤ v
  high : v < lim ls (l - 1) + (r + 1) * 2 ^ (15 - l)
  top : lim ls (l - 1) + (r + 1) * 2 ^ (15 - l) ≤ lim ls l
  mul : 2 ^ (15 - l) ∣ lim ls (l - 1) + r * 2 ^ (15 - l)
  len : ls.getD s 0 = l
  rank : rank ls s = r
  lt : s < ls.length

theorem Hit.of {ls d : List Nat} {s p : Nat} (hf : Full ls) (hs : s < ls.length) (h0 : 0 < ls.getD s 0) (hw : win d p (ls.getD s 0) = code ls s) : Hit ls (win d p 15) s (ls.getD s 0) (Cod.rank ls s) := by
  obtain ⟨h1, h2, h3⟩ := win_code hf hs h0 hw
  have hm := hf.most s
  refine ⟨h0, hm, h1, h2, h3, ?_, rfl, rfl, hs⟩
  rw [← first_lim ls _ h0 (by omega), ← Nat.add_mul]
  exact Nat.dvd_mul_left _ _
theorem Hit.lim_lt {ls : List Nat} {v s l r i : Nat} (h : Hit ls v s l r) (hi : l ≤ i) : v < lim ls i := by
  have := lim_mono ls hi
  have := h.high
  have := h.top
  omega
theorem Hit.lim_le {ls : List Nat} {v s l r i : Nat} (h : Hit ls v s l r) (hi : i < l) : lim ls i ≤ v := by
  have := lim_mono ls (show i ≤ l - 1 by omega)
  have := h.low
  omega
theorem Hit.dist {ls : List Nat} {v s l r u : Nat} (h : Hit ls v s l r) (h1 : lim ls (l - 1) + r * 2 ^ (15 - l) ≤ u) (h2 : u ≤ v) : (u - lim ls (l - 1)) / 2 ^ (15 - l) = r := by
  have h3 := h.high
  rw [Nat.div_eq_of_lt_le]
  · omega
  · omega
theorem Hit.place {ls sy cs : List Nat} {v s l r : Nat} (h : Hit ls v s l r) (hs : Syms ls ls.length cs sy) : sy.getD (ps ls l + r) 0 = s := by
  have := hs.put s h.lt h.lt (by rw [h.len]; exact h.l0)
  rw [h.len, h.rank] at this
  exact this
theorem Hit.place_lt {ls : List Nat} {v s l r : Nat} (h : Hit ls v s l r) : ps ls l + r < ls.length := by
  have := Cod.place_lt ls s h.lt (by rw [h.len]; exact h.l0)
  rw [h.len, h.rank] at this
  exact this
/-- What a table tells of such a window. -/
theorem Hit.quick {ls sy cs : List Nat} {v s l r E j b t : Nat} (h : Hit ls v s l r) (hs : Syms ls ls.length cs sy) (hq : Quick ls sy E j b t) (hj : j = v / 2 ^ E) (hE : l + E ≤ 15) : b = l ∧ t = s := by
  obtain ⟨hb1, hb2, hb3, hb4, hb5⟩ := hq
  have h1 : lim ls (l - 1) + r * 2 ^ (15 - l) ≤ j * 2 ^ E := by
    obtain ⟨c, hc⟩ := h.mul
    have e : 2 ^ (15 - l) = 2 ^ (15 - l - E) * 2 ^ E := by rw [← Nat.pow_add]; congr 1; omega
    rw [hc, e, Nat.mul_comm (2 ^ (15 - l - E)), Nat.mul_assoc, Nat.mul_comm]
    refine Nat.mul_le_mul_right _ ?_
    rw [hj, Nat.le_div_iff_mul_le (Nat.two_pow_pos _)]
    have h2 := h.low
    rw [hc, e] at h2
    have e2 : 2 ^ (15 - l - E) * c * 2 ^ E = 2 ^ (15 - l - E) * 2 ^ E * c := by ac_rfl
    omega
  have h2 : j * 2 ^ E ≤ v := by rw [hj]; exact Nat.div_mul_le_self _ _
  have hbl : b = l := by
    rcases Nat.lt_trichotomy b l with h3 | h3 | h3
    · have := lim_mono ls (show b ≤ l - 1 by omega); omega
    · exact h3
    · have := lim_mono ls (show l ≤ b - 1 by omega)
      have := h.high
      have := h.top
      omega
  subst hbl
  refine ⟨rfl, ?_⟩
  rw [hb5, h.dist h1 h2]
  exact h.place hs
/-- The tables for ten or for seven bits. -/
def Tabs (ls sy : List Nat) (qb : Nat) (ql qs : Nat → Nat) : Prop := (qb = 10 ∧ Quicks ls sy 5 1024 ql qs) ∨ (qb = 7 ∧ Quicks ls sy 8 128 ql qs)
/-- A decoder that is made for these lengths: at block g, its row of symbols below hi. -/
def Ready (w : World) (base hi g : Nat) (ls : List Nat) : Prop :=
  ∃ (lim pos : Nat → Nat) (cs sy : List Nat) (G mn qb : Nat) (ql qs : Nat → Nat), Dec w base g lim pos (.slice (some ⟨G, 0, none⟩) ls.length ls.length) mn qb ql qs ∧
    Row .u16 w G 23 G ls.length sy ∧ g < G ∧ G < hi ∧ Lims ls 16 lim pos mn ∧ Syms ls ls.length cs sy ∧ Tabs ls sy qb ql qs
theorem Ready.turn {S : Nat → Prop} {w w' : World} {base hi g : Nat} {ls : List Nat} (h : Ready w base hi g ls) (ht : Turn S w w') (hs : ∀ k, g ≤ k → k < hi → ¬ S k) : Ready w' base hi g ls := by
  obtain ⟨lim, pos, cs, sy, G, mn, qb, ql, qs, h1, h2, h3, h4, h5⟩ := h
  exact ⟨lim, pos, cs, sy, G, mn, qb, ql, qs, h1.turn ht (hs g (Nat.le_refl _) (by omega)), h2.turn ht (hs G (by omega) h4), h3, h4, h5⟩
end Go.Proofs.YtoicojdnaahimaaDoor.Dec
