/- A table of lengths as it is written and read: steps from place to place. Of no program. -/
import Derived.Test.YtoicojdnaahimaaDoorLawPlain
namespace Go.Proofs.YtoicojdnaahimaaDoor.Tab
open Go Go.RowKit Go.Proofs.YtoicojdnaahimaaDoor.Aid Go.Proofs.YtoicojdnaahimaaDoor.Len Go.Proofs.YtoicojdnaahimaaDoor.Cod Go.Proofs.YtoicojdnaahimaaDoor.Law

/-- Steps: so far in the list, so far in the bits. -/
inductive Path (S : Nat → Nat → Nat → Nat → Prop) : Nat → Nat → Nat → Nat → Prop where
  | nil (k p : Nat) : Path S k p k p
  | cons {k p k1 p1 k2 p2 : Nat} : S k p k1 p1 → Path S k1 p1 k2 p2 → Path S k p k2 p2

section
variable {S T : Nat → Nat → Nat → Nat → Prop} {k p k1 p1 k2 p2 : Nat}
theorem Path.snoc (h : Path S k p k1 p1) (s : S k1 p1 k2 p2) : Path S k p k2 p2 := by
  induction h with
  | nil => exact .cons s (.nil _ _)
  | cons a _ ih => exact .cons a (ih s)
theorem Path.le (h : Path S k p k2 p2) (hs : ∀ k p k1 p1, S k p k1 p1 → k < k1 ∧ p ≤ p1) : k ≤ k2 ∧ p ≤ p2 := by
  induction h with
  | nil => exact ⟨Nat.le_refl _, Nat.le_refl _⟩
  | cons a _ ih => have := hs _ _ _ _ a; omega
theorem Path.map {A : Nat} (h : Path S k p k2 p2) (hs : ∀ k p k1 p1, S k p k1 p1 → k < k1 ∧ p ≤ p1) (hT : ∀ k p k1 p1, S k p k1 p1 → p1 ≤ A → T k p k1 p1) (hA : p2 ≤ A) : Path T k p k2 p2 := by
  induction h with
  | nil => exact .nil _ _
  | cons a b ih =>
    have := b.le hs
    exact .cons (hT _ _ _ _ a (by omega)) (ih hA)
theorem Path.front (h : Path S k p k2 p2) (hk : k < k2) : ∃ k1 p1, S k p k1 p1 ∧ Path S k1 p1 k2 p2 := by
  cases h with
  | nil => omega
  | cons a b => exact ⟨_, _, a, b⟩
theorem Path.last (h : Path S k p k2 p2) (hk : k = k2) (hs : ∀ k p k1 p1, S k p k1 p1 → k < k1 ∧ p ≤ p1) : p = p2 := by
  cases h with
  | nil => rfl
  | cons a b =>
    have h1 := hs _ _ _ _ a
    have h2 := b.le hs
    omega
end

/-- How many lengths a sign tells; how many bits more it has; what it tells. -/
def cnt (s m : Nat) : Nat := if s < 16 then 1 else if s = 16 ∨ s = 18 then m + 3 else m + 11
def bts (s : Nat) : Nat := if s < 16 then 0 else if s = 16 ∨ s = 18 then 3 else 7
def told (ls : List Nat) (k s : Nat) : Nat := if s < 16 then s else if s < 18 then ls.getD (k - 1) 0 else 0
theorem cnt_pos (s m : Nat) : 0 < cnt s m := by unfold cnt; split; omega; split <;> omega
theorem bts_le (s : Nat) : bts s ≤ 7 := by unfold bts; split; omega; split <;> omega

/-- A sign that is right for the lengths from k on. -/
structure Sgn (ls : List Nat) (k s m : Nat) : Prop where
  s20 : s < 20
  more : m < 2 ^ bts s
  le : k + cnt s m ≤ ls.length
  back : s = 16 ∨ s = 17 → 0 < k
  val : ∀ j, k ≤ j → j < k + cnt s m → ls.getD j 0 = told ls k s

theorem Sgn.one {ls : List Nat} {k : Nat} (hk : k < ls.length) (hs : ls.getD k 0 < 16) : Sgn ls k (ls.getD k 0) 0 := by
  have h1 : cnt (ls.getD k 0) 0 = 1 := by unfold cnt; rw [if_pos hs]
  refine ⟨by omega, Nat.two_pow_pos _, by omega, by omega, fun j h2 h3 => ?_⟩
  rw [h1] at h3
  obtain rfl : j = k := by omega
  unfold told
  rw [if_pos hs]
theorem Sgn.run {ls : List Nat} {k n s m : Nat} (hs : (s = 16 ∧ n = m + 3 ∧ m < 8) ∨ (s = 17 ∧ n = m + 11 ∧ m < 128) ∨ (s = 18 ∧ n = m + 3 ∧ m < 8) ∨ (s = 19 ∧ n = m + 11 ∧ m < 128)) (hn : k + n ≤ ls.length)
    (heq : ∀ j, k ≤ j → j < k + n → ls.getD j 0 = ls.getD k 0) (h0 : s = 18 ∨ s = 19 → ls.getD k 0 = 0) (hb : s = 16 ∨ s = 17 → 0 < k ∧ ls.getD (k - 1) 0 = ls.getD k 0) : cnt s m = n ∧ Sgn ls k s m := by
  have h1 : cnt s m = n := by
    unfold cnt
    rcases hs with ⟨rfl, h, _⟩ | ⟨rfl, h, _⟩ | ⟨rfl, h, _⟩ | ⟨rfl, h, _⟩ <;> simp [h]
  refine ⟨h1, by omega, ?_, by omega, fun h => (hb h).1, fun j h2 h3 => ?_⟩
  · rcases hs with ⟨rfl, _, h⟩ | ⟨rfl, _, h⟩ | ⟨rfl, _, h⟩ | ⟨rfl, _, h⟩ <;> simpa [bts] using h
  · rw [h1] at h3
    rw [heq j h2 h3]
    unfold told
    rw [if_neg (by omega)]
    by_cases h4 : s < 18
    · rw [if_pos h4]; exact (hb (by omega)).2.symm
    · rw [if_neg h4]; exact h0 (by omega)

/-- A list of signs: how many lengths they tell together. -/
def kof (L : List (Nat × Nat)) : Nat := (L.map fun x => cnt x.1 x.2).sum
def gs (L : List (Nat × Nat)) (i : Nat) : Nat := (L.getD i (0, 0)).1
def gm (L : List (Nat × Nat)) (i : Nat) : Nat := (L.getD i (0, 0)).2
theorem kof_add (L : List (Nat × Nat)) (s m : Nat) : kof (L ++ [(s, m)]) = kof L + cnt s m := by simp [kof]
theorem kof_le (L : List (Nat × Nat)) : L.length ≤ kof L := by
  induction L with
  | nil => simp [kof]
  | cons x r ih =>
    have := cnt_pos x.1 x.2
    simp only [kof, List.map_cons, List.sum_cons, List.length_cons] at ih ⊢
    omega
theorem take_succ_sgn (L : List (Nat × Nat)) {i : Nat} (hi : i < L.length) : L.take (i + 1) = L.take i ++ [(gs L i, gm L i)] := by
  rw [List.take_add_one, List.getElem?_eq_getElem hi]
  unfold gs gm
  rw [List.getD_eq_getElem?_getD, List.getElem?_eq_getElem hi]
  rfl
theorem kof_take (L : List (Nat × Nat)) {i : Nat} (hi : i < L.length) : kof (L.take (i + 1)) = kof (L.take i) + cnt (gs L i) (gm L i) := by
  rw [take_succ_sgn L hi, kof_add]
structure Signs (ls : List Nat) (L : List (Nat × Nat)) (k : Nat) : Prop where
  sum : kof L = k
  all : ∀ i, i < L.length → Sgn ls (kof (L.take i)) (gs L i) (gm L i)
theorem Signs.nil (ls : List Nat) : Signs ls [] 0 := ⟨rfl, fun i h => by simp at h⟩
theorem getD_app_left {α : Type} {l m : List α} {j : Nat} {d : α} (h : j < l.length) : (l ++ m).getD j d = l.getD j d := by
  rw [List.getD_eq_getElem?_getD, List.getElem?_append_left h, List.getD_eq_getElem?_getD]
theorem getD_app_at {α : Type} (l : List α) (x d : α) : (l ++ [x]).getD l.length d = x := by
  rw [List.getD_eq_getElem?_getD, List.getElem?_append_right (Nat.le_refl _)]
  simp
theorem Signs.add {ls : List Nat} {L : List (Nat × Nat)} {k s m : Nat} (h : Signs ls L k) (hs : Sgn ls k s m) : Signs ls (L ++ [(s, m)]) (k + cnt s m) := by
  refine ⟨by rw [kof_add, h.sum], fun i hi => ?_⟩
  rw [List.length_append, List.length_singleton] at hi
  by_cases e : i < L.length
  · have h1 := h.all i e
    unfold gs gm at h1 ⊢
    rw [List.take_append_of_le_length (by omega), getD_app_left e]
    exact h1
  · obtain rfl : i = L.length := by omega
    unfold gs gm
    rw [List.take_append_of_le_length (Nat.le_refl _), List.take_length, getD_app_at, h.sum]
    exact hs
theorem Signs.len {ls : List Nat} {L : List (Nat × Nat)} {k : Nat} (h : Signs ls L k) : L.length ≤ k := by
  have := kof_le L
  have := h.sum
  omega

/-- Their cells. -/
def sc (L : List (Nat × Nat)) : List Value := L.flatMap fun x => [.int .i64 (x.1 : Nat), .int .i64 (x.2 : Nat), .int .i64 (bts x.1 : Nat)]
theorem sc_nil : sc [] = [] := rfl
theorem sc_len (L : List (Nat × Nat)) : (sc L).length = L.length * 3 := by
  induction L with
  | nil => rfl
  | cons x r ih =>
    simp only [sc, List.flatMap_cons, List.length_append, List.length_cons, List.length_nil] at ih ⊢
    omega
theorem sc_add (L : List (Nat × Nat)) (s m : Nat) : sc (L ++ [(s, m)]) = sc L ++ [.int .i64 (s : Nat), .int .i64 (m : Nat), .int .i64 (bts s : Nat)] := by
  unfold sc
  rw [List.flatMap_append]
  rfl
theorem sc_get : ∀ (L : List (Nat × Nat)) (i : Nat), i < L.length → (sc L)[i * 3]? = some (.int .i64 (gs L i : Nat)) ∧ (sc L)[i * 3 + 1]? = some (.int .i64 (gm L i : Nat)) ∧ (sc L)[i * 3 + 2]? = some (.int .i64 (bts (gs L i) : Nat))
  | [], i, h => by simp at h
  | x :: r, 0, _ => ⟨rfl, rfl, rfl⟩
  | x :: r, i + 1, h => by
    obtain ⟨h1, h2, h3⟩ := sc_get r i (by simpa using h)
    have e : sc (x :: r) = [.int .i64 (x.1 : Nat), .int .i64 (x.2 : Nat), .int .i64 (bts x.1 : Nat)] ++ sc r := rfl
    have g1 : gs (x :: r) (i + 1) = gs r i := rfl
    have g2 : gm (x :: r) (i + 1) = gm r i := rfl
    rw [e, g1, g2]
    refine ⟨?_, ?_, ?_⟩
    · rw [List.getElem?_append_right (by simp; omega), ← h1]
      congr 1
      simp; omega
    · rw [List.getElem?_append_right (by simp; omega), ← h2]
      congr 1
      simp; omega
    · rw [List.getElem?_append_right (by simp; omega), ← h3]
      congr 1
      simp; omega
theorem sc_one (L : List (Nat × Nat)) : ∀ u ∈ sc L, u.oneCell' = true := by
  intro u hu
  simp only [sc, List.mem_flatMap] at hu
  obtain ⟨x, _, h⟩ := hu
  simp at h
  rcases h with rfl | rfl | rfl <;> rfl

/-- A step of the twenty lengths: one of them, or a run of noughts. -/
def HS (sh d : List Nat) (k p k' p' : Nat) : Prop :=
  (k < 20 ∧ k' = k + 1 ∧ p' = p + 4 ∧ win d p 4 = sh.getD k 0 ∧ sh.getD k 0 ≤ 5) ∨
  (∃ n, 3 ≤ n ∧ n ≤ 17 ∧ k' = k + n ∧ k' ≤ 20 ∧ p' = p + 8 ∧ win d p 4 = 15 ∧ win d (p + 4) 4 = n - 2 ∧ ∀ j, k ≤ j → j < k + n → sh.getD j 0 = 0)
/-- A step of the lengths: a sign by its code, and its bits more. -/
def BS (ls sh d : List Nat) (k p k' p' : Nat) : Prop :=
  ∃ s m, Sgn ls k s m ∧ 0 < sh.getD s 0 ∧ k' = k + cnt s m ∧ win d p (sh.getD s 0) = code sh s ∧ win d (p + sh.getD s 0) (bts s) = m ∧ p' = p + sh.getD s 0 + bts s
theorem HS.up {sh d : List Nat} (k p k1 p1 : Nat) (h : HS sh d k p k1 p1) : k < k1 ∧ p ≤ p1 := by
  rcases h with h | ⟨n, h⟩ <;> omega
theorem BS.up {ls sh d : List Nat} (k p k1 p1 : Nat) (h : BS ls sh d k p k1 p1) : k < k1 ∧ p ≤ p1 := by
  obtain ⟨s, m, _, _, h1, _, _, h2⟩ := h
  have := cnt_pos s m
  omega
theorem win_keep {d d' : List Nat} {A : Nat} (hd : ∀ p, p < A → bitAt d' p = bitAt d p) {p n : Nat} (h : p + n ≤ A) : win d' p n = win d p n := win_congr _ fun i hi => hd _ (by omega)
theorem HS.keep {sh d d' : List Nat} {A : Nat} (hd : ∀ p, p < A → bitAt d' p = bitAt d p) (k p k1 p1 : Nat) (h : HS sh d k p k1 p1) (hA : p1 ≤ A) : HS sh d' k p k1 p1 := by
  rcases h with ⟨h1, h2, h3, h4, h5⟩ | ⟨n, h1, h2, h3, h4, h5, h6, h7, h8⟩
  · exact .inl ⟨h1, h2, h3, by rw [win_keep hd (by omega)]; exact h4, h5⟩
  · exact .inr ⟨n, h1, h2, h3, h4, h5, by rw [win_keep hd (by omega)]; exact h6, by rw [win_keep hd (by omega)]; exact h7, h8⟩
theorem BS.keep {ls sh d d' : List Nat} {A : Nat} (hd : ∀ p, p < A → bitAt d' p = bitAt d p) (k p k1 p1 : Nat) (h : BS ls sh d k p k1 p1) (hA : p1 ≤ A) : BS ls sh d' k p k1 p1 := by
  obtain ⟨s, m, h1, h2, h3, h4, h5, h6⟩ := h
  exact ⟨s, m, h1, h2, h3, by rw [win_keep hd (by omega)]; exact h4, by rw [win_keep hd (by omega)]; exact h5, h6⟩
theorem head_keep {sh d d' : List Nat} {k p k1 p1 A : Nat} (h : Path (HS sh d) k p k1 p1) (hd : ∀ p, p < A → bitAt d' p = bitAt d p) (hA : p1 ≤ A) : Path (HS sh d') k p k1 p1 :=
  h.map HS.up (fun _ _ _ _ a b => HS.keep hd _ _ _ _ a b) hA
theorem body_keep {ls sh d d' : List Nat} {k p k1 p1 A : Nat} (h : Path (BS ls sh d) k p k1 p1) (hd : ∀ p, p < A → bitAt d' p = bitAt d p) (hA : p1 ≤ A) : Path (BS ls sh d') k p k1 p1 :=
  h.map BS.up (fun _ _ _ _ a b => BS.keep hd _ _ _ _ a b) hA

/-- The table of lengths ls as it stands in d: twenty lengths up to bit q, the lengths up to bit e. -/
structure Table (ls sh d : List Nat) (q e : Nat) : Prop where
  len : sh.length = 20
  full : Full sh
  low : ∀ i, sh.getD i 0 ≤ 5
  front : Path (HS sh d) 0 0 20 q
  body : Path (BS ls sh d) 0 q ls.length e
theorem Table.more {ls sh d : List Nat} {q e : Nat} (h : Table ls sh d q e) (hb : Bits d e) : Table ls sh (d ++ [0, 0, 0, 0]) q e := by
  have hq := h.body.le BS.up
  have hd : ∀ p, p < e → bitAt (d ++ [0, 0, 0, 0]) p = bitAt d p := fun p hp => bitAt_append (by have := hb.len; omega)
  exact ⟨h.len, h.full, h.low, head_keep h.front hd hq.2, body_keep h.body hd (Nat.le_refl _)⟩
end Go.Proofs.YtoicojdnaahimaaDoor.Tab
