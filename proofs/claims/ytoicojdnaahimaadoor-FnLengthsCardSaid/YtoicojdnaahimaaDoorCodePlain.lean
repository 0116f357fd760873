/- Codes by lengths, shorter ones first and of one length by their places: where each begins; windows of bits. Of no program. -/
import Derived.Test.YtoicojdnaahimaaDoorLenPlain
namespace Go.Proofs.YtoicojdnaahimaaDoor.Cod
open Go.Proofs.YtoicojdnaahimaaDoor.Len

/-- How many codes of a length there are. -/
def cn (ls : List Nat) (i : Nat) : Nat := if i = 0 then 0 else ls.count i
/-- The first code of a length. -/
def first (ls : List Nat) : Nat → Nat
  | 0 => 0
  | i + 1 => 2 * (first ls i + cn ls i)
/-- Where, of 2^15, the codes of a length end. -/
def lim (ls : List Nat) : Nat → Nat
  | 0 => 0
  | i + 1 => lim ls i + cn ls (i + 1) * 2 ^ (15 - (i + 1))
/-- How many codes are shorter. -/
def ps (ls : List Nat) : Nat → Nat
  | 0 => 0
  | i + 1 => ps ls i + cn ls i
/-- How many of a symbol's length stand ahead of it. -/
def rank (ls : List Nat) (s : Nat) : Nat := (ls.take s).count (ls.getD s 0)
def code (ls : List Nat) (s : Nat) : Nat := first ls (ls.getD s 0) + rank ls s

theorem first_lim2 (ls : List Nat) : ∀ i, i ≤ 15 → first ls (i + 1) * 2 ^ (15 - i) = 2 * lim ls i
  | 0, _ => by simp [first, lim, cn]
  | i + 1, h => by
    have ih := first_lim2 ls i (by omega)
    have e : 2 ^ (15 - i) = 2 * 2 ^ (15 - (i + 1)) := by rw [show 15 - i = (15 - (i + 1)) + 1 by omega, Nat.pow_succ]; omega
    show 2 * (first ls (i + 1) + cn ls (i + 1)) * 2 ^ (15 - (i + 1)) = 2 * (lim ls i + cn ls (i + 1) * 2 ^ (15 - (i + 1)))
    rw [e] at ih
    generalize 2 ^ (15 - (i + 1)) = P at ih ⊢
    have e1 : first ls (i + 1) * (2 * P) = 2 * (first ls (i + 1) * P) := by ac_rfl
    rw [Nat.mul_assoc, Nat.add_mul]
    omega
theorem first_lim (ls : List Nat) (l : Nat) (h0 : 0 < l) (h : l ≤ 15) : first ls l * 2 ^ (15 - l) = lim ls (l - 1) := by
  have h1 := first_lim2 ls (l - 1) (by omega)
  rw [show l - 1 + 1 = l by omega, show 15 - (l - 1) = (15 - l) + 1 by omega, Nat.pow_succ] at h1
  have e1 : first ls l * (2 ^ (15 - l) * 2) = 2 * (first ls l * 2 ^ (15 - l)) := by ac_rfl
  omega
theorem lim_mono (ls : List Nat) {i j : Nat} (h : i ≤ j) : lim ls i ≤ lim ls j := by
  induction j with
  | zero => rw [show i = 0 by omega]; exact Nat.le_refl _
  | succ j ih =>
    by_cases e : i = j + 1
    · rw [e]; exact Nat.le_refl _
    · have := ih (by omega); show _ ≤ lim ls j + _; omega
theorem cn_cons (x : Nat) (r : List Nat) (i : Nat) : cn (x :: r) i = cn r i + (if x = i ∧ 0 < i then 1 else 0) := by
  unfold cn
  by_cases h : i = 0
  · simp [h]
  · rw [if_neg h, if_neg h, List.count_cons]
    by_cases e : x = i
    · simp [e]; omega
    · simp [e]
theorem lim_cons (x : Nat) (r : List Nat) : ∀ i, lim (x :: r) i = lim r i + (if 0 < x ∧ x ≤ i then 2 ^ (15 - x) else 0)
  | 0 => by simp [lim]; omega
  | i + 1 => by
    show lim (x :: r) i + cn (x :: r) (i + 1) * _ = lim r i + cn r (i + 1) * _ + _
    rw [lim_cons x r i, cn_cons, Nat.add_mul]
    by_cases e : x = i + 1
    · subst e; rw [if_neg (by omega), if_pos (by omega), if_pos (by omega)]; omega
    · rw [if_neg (show ¬ (x = i + 1 ∧ 0 < i + 1) by omega)]
      by_cases e2 : 0 < x ∧ x ≤ i
      · rw [if_pos e2, if_pos (by omega)]; omega
      · rw [if_neg e2, if_neg (by omega)]; omega
theorem lim_nil : ∀ i, lim [] i = 0
  | 0 => rfl
  | i + 1 => by show lim [] i + cn [] (i + 1) * _ = 0; rw [lim_nil i]; simp [cn]
theorem lim_K : ∀ (ls : List Nat), (∀ x ∈ ls, x ≤ 15) → lim ls 15 = K ls
  | [], _ => by rw [lim_nil]; rfl
  | x :: r, h => by
    rw [lim_cons, lim_K r (fun y hy => h y (by simp [hy]))]
    have hx := h x (by simp)
    show K r + _ = wt x + K r
    unfold wt
    by_cases e : x = 0
    · rw [if_neg (by omega), if_pos e]; omega
    · rw [if_pos (by omega), if_neg e]; omega
theorem ps_cons (x : Nat) (r : List Nat) : ∀ i, ps (x :: r) i = ps r i + (if 0 < x ∧ x < i then 1 else 0)
  | 0 => by simp [ps]
  | i + 1 => by
    show ps (x :: r) i + cn (x :: r) i = ps r i + cn r i + _
    rw [ps_cons x r i, cn_cons]
    by_cases e : x = i ∧ 0 < i
    · rw [if_pos e, if_neg (by omega), if_pos (by omega)]; omega
    · rw [if_neg e]
      by_cases e2 : 0 < x ∧ x < i
      · rw [if_pos e2, if_pos (by omega)]; omega
      · rw [if_neg e2, if_neg (by omega)]; omega
theorem ps_nil : ∀ i, ps [] i = 0
  | 0 => rfl
  | i + 1 => by show ps [] i + cn [] i = 0; rw [ps_nil i]; simp [cn]
theorem ps_le : ∀ (ls : List Nat) (i : Nat), ps ls i ≤ ls.length
  | [], i => by rw [ps_nil]; simp
  | x :: r, i => by
    rw [ps_cons]
    have := ps_le r i
    split <;> simp <;> omega
theorem ps_mono (ls : List Nat) {i j : Nat} (h : i ≤ j) : ps ls i ≤ ps ls j := by
  induction j with
  | zero => rw [show i = 0 by omega]; exact Nat.le_refl _
  | succ j ih =>
    by_cases e : i = j + 1
    · rw [e]; exact Nat.le_refl _
    · have := ih (by omega); show _ ≤ ps ls j + _; omega
theorem take_count_succ (ls : List Nat) (s l : Nat) (hs : s < ls.length) : (ls.take (s + 1)).count l = (ls.take s).count l + (if ls.getD s 0 = l then 1 else 0) := by
  have e1 : ls.getD s 0 = ls[s] := by simp [List.getD_eq_getElem?_getD, hs]
  rw [List.take_add_one, List.getElem?_eq_getElem hs, List.count_append, e1]
  by_cases h : ls[s] = l
  · simp [h]
  · simp [h]
theorem take_count_le (ls : List Nat) (s l : Nat) : (ls.take s).count l ≤ ls.count l := List.Sublist.count_le _ (List.take_sublist _ _)
theorem rank_lt (ls : List Nat) (s : Nat) (hs : s < ls.length) (h0 : 0 < ls.getD s 0) : rank ls s < cn ls (ls.getD s 0) := by
  have h1 := take_count_succ ls s (ls.getD s 0) hs
  rw [if_pos rfl] at h1
  have h2 := take_count_le ls (s + 1) (ls.getD s 0)
  unfold rank cn
  rw [if_neg (by omega)]
  omega
theorem rank_inj (ls : List Nat) (s t : Nat) (ht : t < ls.length) (hst : s < t) (he : ls.getD s 0 = ls.getD t 0) : rank ls s < rank ls t := by
  have h1 := take_count_succ ls s (ls.getD s 0) (by omega)
  rw [if_pos rfl] at h1
  unfold rank
  rw [← he]
  have h2 : (ls.take (s + 1)).count (ls.getD s 0) ≤ (ls.take t).count (ls.getD s 0) := by
    have : ls.take (s + 1) = (ls.take t).take (s + 1) := by rw [List.take_take, Nat.min_eq_left (by omega)]
    rw [this]
    exact take_count_le _ _ _
  omega
/-- Where a symbol stands among those in the order of their codes. -/
theorem place_lt (ls : List Nat) (s : Nat) (hs : s < ls.length) (h0 : 0 < ls.getD s 0) : ps ls (ls.getD s 0) + rank ls s < ls.length := by
  have h1 := rank_lt ls s hs h0
  have h2 := ps_le ls (ls.getD s 0 + 1)
  have h3 : ps ls (ls.getD s 0 + 1) = ps ls (ls.getD s 0) + cn ls (ls.getD s 0) := rfl
  omega
theorem place_ne (ls : List Nat) (s t : Nat) (ht : t < ls.length) (hst : s < t) (h0 : 0 < ls.getD s 0) (h1 : 0 < ls.getD t 0) : ps ls (ls.getD s 0) + rank ls s ≠ ps ls (ls.getD t 0) + rank ls t := by
  have r1 := rank_lt ls s (by omega) h0
  have r2 := rank_lt ls t ht h1
  rcases Nat.lt_trichotomy (ls.getD s 0) (ls.getD t 0) with h | h | h
  · have h2 : ps ls (ls.getD s 0 + 1) ≤ ps ls (ls.getD t 0) := ps_mono ls h
    have h3 : ps ls (ls.getD s 0 + 1) = ps ls (ls.getD s 0) + cn ls (ls.getD s 0) := rfl
    omega
  · have := rank_inj ls s t ht hst h
    rw [h]
    omega
  · have h2 : ps ls (ls.getD t 0 + 1) ≤ ps ls (ls.getD s 0) := ps_mono ls h
    have h3 : ps ls (ls.getD t 0 + 1) = ps ls (ls.getD t 0) + cn ls (ls.getD t 0) := rfl
    omega

/-- Lengths whose codes are every text of bits. -/
structure Full (ls : List Nat) : Prop where
  most : ∀ i, ls.getD i 0 ≤ 14
  worth : K ls = 2 ^ 15
theorem Full.lim15 {ls : List Nat} (h : Full ls) : lim ls 15 = 32768 := by
  rw [lim_K ls (fun x hx => ?_), h.worth]
  obtain ⟨j, hj, e⟩ := List.getElem_of_mem hx
  have := h.most j
  rw [List.getD_eq_getElem?_getD, List.getElem?_eq_getElem hj, Option.getD_some, e] at this
  omega
theorem Full.lim_le {ls : List Nat} (h : Full ls) (i : Nat) (hi : i ≤ 15) : lim ls i ≤ 32768 := by
  have := lim_mono ls hi
  have := h.lim15
  omega
theorem Full.lim14 {ls : List Nat} (h : Full ls) : lim ls 14 = 32768 := by
  have h1 := h.lim15
  have h2 : lim ls 15 = lim ls 14 + cn ls 15 * 2 ^ (15 - 15) := rfl
  have h3 : cn ls 15 = 0 := by
    unfold cn
    rw [if_neg (by omega), List.count_eq_zero]
    intro hx
    obtain ⟨j, hj, e⟩ := List.getElem_of_mem hx
    have := h.most j
    rw [List.getD_eq_getElem?_getD, List.getElem?_eq_getElem hj, Option.getD_some, e] at this
    omega
  rw [h3] at h2
  omega
theorem Full.first_le {ls : List Nat} (h : Full ls) (i : Nat) (hi : i ≤ 16) : first ls i ≤ 65536 := by
  rcases i with _ | i
  · simp [first]
  · have h1 := first_lim2 ls i (by omega)
    have h2 := h.lim_le i (by omega)
    have h3 : 0 < 2 ^ (15 - i) := Nat.pow_pos (by omega)
    have h4 : first ls (i + 1) ≤ first ls (i + 1) * 2 ^ (15 - i) := Nat.le_mul_of_pos_right _ h3
    omega
theorem cn_le (ls : List Nat) (i : Nat) : cn ls i ≤ ls.length := by unfold cn; split; omega; exact List.count_le_length

/-- Bit p of bytes, the highest of each first; the value of k bits from p on. -/
def bitAt (d : List Nat) (p : Nat) : Nat := (d.getD (p / 8) 0 / 2 ^ (7 - p % 8)) % 2
def win (d : List Nat) (p : Nat) : Nat → Nat
  | 0 => 0
  | k + 1 => 2 * win d p k + bitAt d (p + k)
theorem bitAt_lt (d : List Nat) (p : Nat) : bitAt d p < 2 := Nat.mod_lt _ (by omega)
theorem win_lt (d : List Nat) (p : Nat) : ∀ k, win d p k < 2 ^ k
  | 0 => by simp [win]
  | k + 1 => by
    have h1 := win_lt d p k
    have h2 := bitAt_lt d (p + k)
    rw [Nat.pow_succ]
    show 2 * win d p k + bitAt d (p + k) < _
    omega
theorem win_add (d : List Nat) (p a : Nat) : ∀ b, win d p (a + b) = win d p a * 2 ^ b + win d (p + a) b
  | 0 => by simp [win]
  | b + 1 => by
    show 2 * win d p (a + b) + bitAt d (p + (a + b)) = _ * 2 ^ (b + 1) + (2 * win d (p + a) b + bitAt d (p + a + b))
    rw [win_add d p a b, Nat.pow_succ, Nat.add_assoc p a b, Nat.mul_add]
    have : win d p a * (2 ^ b * 2) = 2 * (win d p a * 2 ^ b) := by ac_rfl
    omega
theorem win_congr {d e : List Nat} {p q : Nat} : ∀ k, (∀ i, i < k → bitAt d (p + i) = bitAt e (q + i)) → win d p k = win e q k
  | 0, _ => rfl
  | k + 1, h => by
    show 2 * win d p k + bitAt d (p + k) = 2 * win e q k + bitAt e (q + k)
    rw [win_congr k (fun i hi => h i (by omega)), h k (by omega)]
theorem win_byte (d : List Nat) (i : Nat) (hb : d.getD i 0 < 256) : win d (8 * i) 8 = d.getD i 0 := by
  have e : ∀ k, k < 8 → bitAt d (8 * i + k) = (d.getD i 0 / 2 ^ (7 - k)) % 2 := by
    intro k hk
    unfold bitAt
    rw [show (8 * i + k) / 8 = i by omega, show (8 * i + k) % 8 = k by omega]
  simp only [win]
  rw [e 0 (by omega), e 1 (by omega), e 2 (by omega), e 3 (by omega), e 4 (by omega), e 5 (by omega), e 6 (by omega), e 7 (by omega)]
  generalize d.getD i 0 = x at hb
  simp only [Nat.reduceSub, Nat.reducePow]
  omega
/-- The window at a symbol's code. -/
theorem win_code {ls d : List Nat} {s p : Nat} (hf : Full ls) (hs : s < ls.length) (h0 : 0 < ls.getD s 0) (hw : win d p (ls.getD s 0) = code ls s) :
    lim ls (ls.getD s 0 - 1) + rank ls s * 2 ^ (15 - ls.getD s 0) ≤ win d p 15 ∧ win d p 15 < lim ls (ls.getD s 0 - 1) + (rank ls s + 1) * 2 ^ (15 - ls.getD s 0) ∧
    lim ls (ls.getD s 0 - 1) + (rank ls s + 1) * 2 ^ (15 - ls.getD s 0) ≤ lim ls (ls.getD s 0) := by
  have hm := hf.most s
  have h1 := rank_lt ls s hs h0
  have h2 := first_lim ls (ls.getD s 0) h0 (by omega)
  have h3 := win_add d p (ls.getD s 0) (15 - ls.getD s 0)
  rw [show ls.getD s 0 + (15 - ls.getD s 0) = 15 by omega, hw] at h3
  have h4 := win_lt d (p + ls.getD s 0) (15 - ls.getD s 0)
  have h5 : lim ls (ls.getD s 0) = lim ls (ls.getD s 0 - 1) + cn ls (ls.getD s 0) * 2 ^ (15 - ls.getD s 0) := by
    conv => lhs; rw [show ls.getD s 0 = (ls.getD s 0 - 1) + 1 by omega]
    show lim ls (ls.getD s 0 - 1) + cn ls (ls.getD s 0 - 1 + 1) * 2 ^ (15 - (ls.getD s 0 - 1 + 1)) = _
    rw [show ls.getD s 0 - 1 + 1 = ls.getD s 0 by omega]
  unfold code at h3
  rw [Nat.add_mul, h2] at h3
  have h6 : (rank ls s + 1) * 2 ^ (15 - ls.getD s 0) ≤ cn ls (ls.getD s 0) * 2 ^ (15 - ls.getD s 0) := Nat.mul_le_mul_right _ h1
  have h7 : (rank ls s + 1) * 2 ^ (15 - ls.getD s 0) = rank ls s * 2 ^ (15 - ls.getD s 0) + 2 ^ (15 - ls.getD s 0) := by rw [Nat.add_mul, Nat.one_mul]
  refine ⟨by omega, by omega, by omega⟩
/-- A code is below 2 to its length. -/
theorem code_lt {ls : List Nat} {s : Nat} (hf : Full ls) (hs : s < ls.length) (h0 : 0 < ls.getD s 0) : code ls s < 2 ^ (ls.getD s 0) := by
  have hm := hf.most s
  have h1 := rank_lt ls s hs h0
  have h2 := first_lim ls (ls.getD s 0) h0 (by omega)
  have h5 : lim ls (ls.getD s 0) = lim ls (ls.getD s 0 - 1) + cn ls (ls.getD s 0) * 2 ^ (15 - ls.getD s 0) := by
    conv => lhs; rw [show ls.getD s 0 = (ls.getD s 0 - 1) + 1 by omega]
    show lim ls (ls.getD s 0 - 1) + cn ls (ls.getD s 0 - 1 + 1) * 2 ^ (15 - (ls.getD s 0 - 1 + 1)) = _
    rw [show ls.getD s 0 - 1 + 1 = ls.getD s 0 by omega]
  have h6 := hf.lim_le (ls.getD s 0) (by omega)
  have h7 : (code ls s + 1) * 2 ^ (15 - ls.getD s 0) ≤ 2 ^ ls.getD s 0 * 2 ^ (15 - ls.getD s 0) := by
    rw [← Nat.pow_add, show ls.getD s 0 + (15 - ls.getD s 0) = 15 by omega]
    have h8 : (rank ls s + 1) * 2 ^ (15 - ls.getD s 0) ≤ cn ls (ls.getD s 0) * 2 ^ (15 - ls.getD s 0) := Nat.mul_le_mul_right _ h1
    have h9 : (code ls s + 1) * 2 ^ (15 - ls.getD s 0) = first ls (ls.getD s 0) * 2 ^ (15 - ls.getD s 0) + (rank ls s + 1) * 2 ^ (15 - ls.getD s 0) := by
      rw [← Nat.add_mul]; rfl
    omega
  have := Nat.le_of_mul_le_mul_right h7 (Nat.pow_pos (by omega))
  omega
end Go.Proofs.YtoicojdnaahimaaDoor.Cod
