/- Lengths of codes that are every text of bits: the plain facts of how they are made. -/
import Derived.Test.YtoicojdnaahimaaDoorMem
namespace Go.Proofs.YtoicojdnaahimaaDoor.Len

/-- What a length is worth, of 2^15. -/
def wt (l : Nat) : Nat := if l = 0 then 0 else 2 ^ (15 - l)
def K (o : List Nat) : Nat := (o.map wt).sum

theorem K_set : ∀ (o : List Nat) (i v : Nat), i < o.length → K (o.set i v) + wt (o.getD i 0) = K o + wt v
  | [], i, v, h => by simp at h
  | x :: r, 0, v, _ => by simp [K]; omega
  | x :: r, i + 1, v, h => by
    have := K_set r i v (by simpa using h)
    simp only [K, List.set_cons_succ, List.map_cons, List.sum_cons, List.getD_cons_succ] at this ⊢
    omega
theorem K_zeros (n : Nat) : K (List.replicate n 0) = 0 := by
  induction n with
  | zero => rfl
  | succ n ih => simp only [K, List.replicate_succ, List.map_cons, List.sum_cons] at ih ⊢; rw [ih]; rfl

theorem getD_set_other {α} (o : List α) (i j : Nat) (v d : α) (h : i ≠ j) : (o.set i v).getD j d = o.getD j d := by
  simp [List.getD_eq_getElem?_getD, h]
theorem getD_set_same {α} (o : List α) (i : Nat) (v d : α) (h : i < o.length) : (o.set i v).getD i d = v := by
  simp [List.getD_eq_getElem?_getD, h]

/-- The marked ones of the first k. -/
structure L1 (us : List Bool) (k : Nat) (li : List Nat) : Prop where
  nodup : li.Nodup
  lt : ∀ x ∈ li, x < k
  used : ∀ i, i < k → us.getD i false = true → i ∈ li
  len : li.length ≤ k
  marked : ∀ x ∈ li, us.getD x false = true
theorem L1.nil (us : List Bool) : L1 us 0 [] := ⟨List.nodup_nil, by simp, by omega, by simp, by simp⟩
theorem L1.skip {us : List Bool} {k : Nat} {li : List Nat} (h : L1 us k li) (hk : us.getD k false = false) : L1 us (k + 1) li :=
  ⟨h.nodup, fun x hx => by have := h.lt x hx; omega, fun i hi hu => by
    by_cases e : i = k
    · subst e; rw [hk] at hu; cases hu
    · exact h.used i (by omega) hu, by have := h.len; omega, h.marked⟩
theorem L1.add {us : List Bool} {k : Nat} {li : List Nat} (h : L1 us k li) (hk : us.getD k false = true) : L1 us (k + 1) (li ++ [k]) := by
  refine ⟨?_, ?_, ?_, by have := h.len; simp; omega, ?_⟩
  · rw [List.nodup_append]
    refine ⟨h.nodup, by simp, ?_⟩
    intro a ha b hb e
    simp at hb
    have := h.lt a ha
    omega
  · intro x hx
    rcases List.mem_append.1 hx with hx | hx
    · have := h.lt x hx; omega
    · simp at hx; omega
  · intro i hi hu
    by_cases e : i = k
    · simp [e]
    · exact List.mem_append.2 (.inl (h.used i (by omega) hu))
  · intro x hx
    rcases List.mem_append.1 hx with hx | hx
    · exact h.marked x hx
    · simp at hx; rw [hx]; exact hk

/-- .. and others, until there are two. -/
structure L2 (us : List Bool) (n k : Nat) (li : List Nat) : Prop where
  nodup : li.Nodup
  lt : ∀ x ∈ li, x < n
  used : ∀ i, i < n → us.getD i false = true → i ∈ li
  low : ∀ i, i < k → i ∈ li
  marked : ∀ x ∈ li, us.getD x false = true ∨ x < k
  len : li.length ≤ n ∨ li.length ≤ 2
theorem L2.start {us : List Bool} {n : Nat} {li : List Nat} (h : L1 us n li) : L2 us n 0 li := ⟨h.nodup, h.lt, h.used, by omega, fun x hx => .inl (h.marked x hx), .inl h.len⟩
theorem L2.low_lt {us : List Bool} {n k : Nat} {li : List Nat} (h : L2 us n k li) (hl : li.length < 2) : k ≤ 1 := by
  refine Decidable.byContradiction fun hk => ?_
  have h0 := h.low 0 (by omega)
  have h1 := h.low 1 (by omega)
  match li, hl with
  | [], _ => simp at h0
  | [x], _ => simp at h0 h1; omega
theorem L2.skip {us : List Bool} {n k : Nat} {li : List Nat} (h : L2 us n k li) (hk : us.getD k false = true) (hn : k < n) : L2 us n (k + 1) li :=
  ⟨h.nodup, h.lt, h.used, fun i hi => by
    by_cases e : i = k
    · subst e; exact h.used i hn hk
    · exact h.low i (by omega), fun x hx => by rcases h.marked x hx with h | h; exact .inl h; exact .inr (by omega), h.len⟩
theorem L2.add {us : List Bool} {n k : Nat} {li : List Nat} (h : L2 us n k li) (hk : us.getD k false = false) (hn : k < n) (hl : li.length < 2) : L2 us n (k + 1) (li ++ [k]) := by
  refine ⟨?_, ?_, ?_, ?_, ?_, .inr (by simp; omega)⟩
  · rw [List.nodup_append]
    refine ⟨h.nodup, by simp, ?_⟩
    intro a ha b hb e
    simp at hb
    rcases h.marked a ha with hm | hm
    · subst e; rw [hb, hk] at hm; cases hm
    · omega
  · intro x hx
    rcases List.mem_append.1 hx with hx | hx
    · exact h.lt x hx
    · simp at hx; omega
  · intro i hi hu
    exact List.mem_append.2 (.inl (h.used i hi hu))
  · intro i hi
    by_cases e : i = k
    · simp [e]
    · exact List.mem_append.2 (.inl (h.low i (by omega)))
  · intro x hx
    rcases List.mem_append.1 hx with hx | hx
    · rcases h.marked x hx with h | h
      · exact .inl h
      · exact .inr (by omega)
    · simp at hx; exact .inr (by omega)

/-- Symbols in a list, each once, below n: how far they are written. -/
structure Ls (n : Nat) (li : List Nat) : Prop where
  nodup : li.Nodup
  lt : ∀ j, j < li.length → li.getD j 0 < n
theorem Ls.of {us : List Bool} {n k : Nat} {li : List Nat} (h : L2 us n k li) : Ls n li :=
  ⟨h.nodup, fun j hj => by rw [List.getD_eq_getElem?_getD, List.getElem?_eq_getElem hj]; exact h.lt _ (List.getElem_mem hj)⟩
theorem Ls.ne {n : Nat} {li : List Nat} (h : Ls n li) {i j : Nat} (hj : j < li.length) (hi : i < j) : li.getD i 0 ≠ li.getD j 0 := by
  intro e
  rw [List.getD_eq_getElem?_getD, List.getD_eq_getElem?_getD, List.getElem?_eq_getElem hj, List.getElem?_eq_getElem (by omega : i < li.length)] at e
  have hp := List.pairwise_iff_getElem.1 h.nodup i j (by omega) hj hi
  exact hp (by simpa using e)

/-- The first t of the list have their lengths: above none, at most b; the others have none; the worth of all is W. -/
structure Out (n : Nat) (li : List Nat) (t b W : Nat) (o : List Nat) : Prop where
  len : o.length = n
  done : ∀ j, j < t → 0 < o.getD (li.getD j 0) 0
  todo : ∀ j, t ≤ j → j < li.length → o.getD (li.getD j 0) 0 = 0
  most : ∀ i, o.getD i 0 ≤ b
  worth : K o = W
theorem Out.zero (n : Nat) (li : List Nat) : Out n li 0 0 0 (List.replicate n 0) :=
  ⟨by simp, by omega, fun j _ _ => by simp [List.getD_eq_getElem?_getD, List.getElem?_replicate]; split <;> rfl, fun i => by simp [List.getD_eq_getElem?_getD, List.getElem?_replicate]; split <;> simp, K_zeros n⟩
theorem Out.step {n : Nat} {li : List Nat} {t b W : Nat} {o : List Nat} (h : Out n li t b W o) (hli : Ls n li) (ht : t < li.length) (v b' : Nat) (hv : 0 < v) (hvb : v ≤ b') (hb : b ≤ b') :
    Out n li (t + 1) b' (W + wt v) (o.set (li.getD t 0) v) := by
  have hlt := hli.lt t ht
  refine ⟨by rw [List.length_set]; exact h.len, ?_, ?_, ?_, ?_⟩
  · intro j hj
    by_cases e : j = t
    · subst e; rw [getD_set_same _ _ _ _ (by rw [h.len]; exact hlt)]; exact hv
    · rw [getD_set_other _ _ _ _ _ (fun e2 => hli.ne ht (by omega : j < t) e2.symm)]
      exact h.done j (by omega)
  · intro j hj hjl
    rw [getD_set_other _ _ _ _ _ (hli.ne hjl (by omega : t < j))]
    exact h.todo j (by omega) hjl
  · intro i
    by_cases e : li.getD t 0 = i
    · rw [e, getD_set_same _ _ _ _ (by rw [h.len, ← e]; exact hlt)]; exact hvb
    · rw [getD_set_other _ _ _ _ _ e]; have := h.most i; omega
  · have h1 := K_set o (li.getD t 0) v (by rw [h.len]; exact hlt)
    rw [h.todo t (Nat.le_refl _) ht] at h1
    have h2 := h.worth
    have h3 : wt 0 = 0 := rfl
    omega
theorem Out.mono {n : Nat} {li : List Nat} {t b W b' W' : Nat} {o : List Nat} (h : Out n li t b W o) (hb : b ≤ b') (hW : W = W') : Out n li t b' W' o :=
  ⟨h.len, h.done, h.todo, fun i => Nat.le_trans (h.most i) hb, h.worth.trans hW⟩

theorem wt_pos {l : Nat} (h : 0 < l) : wt l = 2 ^ (15 - l) := by unfold wt; rw [if_neg (by omega)]
/-- What is written in the first loop leaves as much as the last one is worth. -/
theorem worth_first (d : Nat) (hd : d < 15) : (2 ^ 15 - 2 ^ (15 - d)) + wt (d + 1) = 2 ^ 15 - 2 ^ (15 - (d + 1)) := by
  rw [wt_pos (by omega)]
  have e : 15 - d = (15 - (d + 1)) + 1 := by omega
  have h1 : 2 ^ (15 - d) = 2 * 2 ^ (15 - (d + 1)) := by rw [e, Nat.pow_succ]; omega
  have h2 : 2 ^ (15 - d) ≤ 2 ^ 15 := Nat.pow_le_pow_right (by omega) (by omega)
  omega
/-- The worth behind k of the last ones: the short ones first. -/
def after (d m short k : Nat) : Nat := (2 ^ 15 - 2 ^ (15 - d)) + (min k short) * 2 ^ (15 - (d + m)) + (k - short) * 2 ^ (15 - (d + m + 1))
theorem after_zero (d m short : Nat) : after d m short 0 = 2 ^ 15 - 2 ^ (15 - d) := by simp [after]
theorem after_short (d m short k : Nat) (h : k < short) (hd : 0 < d + m) : after d m short k + wt (d + m) = after d m short (k + 1) := by
  unfold after
  rw [wt_pos hd, Nat.min_eq_left (by omega), Nat.min_eq_left (by omega), show k - short = 0 by omega, show k + 1 - short = 0 by omega, Nat.add_mul]
  omega
theorem after_long (d m short k : Nat) (h : ¬ k < short) : after d m short k + wt (d + m + 1) = after d m short (k + 1) := by
  unfold after
  rw [wt_pos (by omega), Nat.min_eq_right (by omega), Nat.min_eq_right (by omega), show k + 1 - short = (k - short) + 1 by omega, Nat.add_mul]
  omega
theorem after_all (d m L : Nat) (h1 : 2 ^ m ≤ L) (h2 : L < 2 * 2 ^ m) (hd : d + m < 15) : after d m (2 * 2 ^ m - L) L = 2 ^ 15 := by
  unfold after
  have e1 : 2 ^ (15 - (d + m)) = 2 * 2 ^ (15 - (d + m + 1)) := by
    rw [show 15 - (d + m) = (15 - (d + m + 1)) + 1 by omega, Nat.pow_succ]; omega
  have e2 : 2 ^ (15 - d) = (2 * 2 ^ m) * 2 ^ (15 - (d + m + 1)) := by
    rw [show (2 * 2 ^ m) = 2 ^ (m + 1) by rw [Nat.pow_succ]; omega, ← Nat.pow_add]
    congr 1
    omega
  have h3 : 2 ^ (15 - d) ≤ 2 ^ 15 := Nat.pow_le_pow_right (by omega) (by omega)
  rw [e1, Nat.min_eq_right (by omega)]
  have e3 : (2 * 2 ^ m - L) * (2 * 2 ^ (15 - (d + m + 1))) + (L - (2 * 2 ^ m - L)) * 2 ^ (15 - (d + m + 1)) = (2 * 2 ^ m) * 2 ^ (15 - (d + m + 1)) := by
    rw [← Nat.mul_assoc, ← Nat.add_mul]
    congr 1
    omega
  rw [Nat.add_assoc, e3, ← e2]
  omega

/-- What the reference's lengths are. -/
structure Good (us : List Bool) (n b : Nat) (o : List Nat) : Prop where
  len : o.length = n
  used : ∀ i, i < n → us.getD i false = true → 0 < o.getD i 0
  most : ∀ i, o.getD i 0 ≤ b
  worth : K o = 2 ^ 15
theorem Good.of {us : List Bool} {n k b W : Nat} {li o : List Nat} (h2 : L2 us n k li) (h : Out n li li.length b W o) (hW : W = 2 ^ 15) : Good us n b o := by
  refine ⟨h.len, fun i hi hu => ?_, h.most, h.worth.trans hW⟩
  have hm := h2.used i hi hu
  obtain ⟨j, hj, e⟩ := List.getElem_of_mem hm
  have := h.done j hj
  rw [List.getD_eq_getElem?_getD (l := li), List.getElem?_eq_getElem hj, Option.getD_some, e] at this
  exact this
end Go.Proofs.YtoicojdnaahimaaDoor.Len
