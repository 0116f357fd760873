/- Channels of differences, plainly; how many bytes have been taken at each place; cells of bytes in a block. No program. -/
import Derived.Test.YtmplkbnajohheaaDoorOwn
import Derived.WalkSmall
namespace Go.Proofs.YtmplkbnajohheaaDoor.Delta
open Go Go.RowKit Go.Proofs.YtmplkbnajohheaaDoor.Aid

/-- The next byte of a channel. -/
def next (last b : UInt8) : UInt8 := low ((last.toNat : Int) - b.toNat)
/-- A channel from place k on: what has been taken, and what was put together. -/
def inner (n len : Nat) (b : List UInt8) : Nat → Nat → Nat → UInt8 → List UInt8 → Nat × List UInt8
  | 0, _, i, _, out => (i, out)
  | f + 1, k, i, last, out => if k < len then inner n len b f (k + n) (i + 1) (next last (b.getD i 0)) (out.set k (next last (b.getD i 0))) else (i, out)
/-- The channels from number j on. -/
def outer (n len : Nat) (b : List UInt8) : Nat → Nat → Nat → List UInt8 → List UInt8
  | 0, _, _, out => out
  | f + 1, j, i, out => if j < n then outer n len b f (j + 1) (inner n len b len j i 0 out).1 (inner n len b len j i 0 out).2 else out

theorem inner_go {n len f k i : Nat} {b : List UInt8} {last : UInt8} {out : List UInt8} (h : k < len) : inner n len b (f + 1) k i last out = inner n len b f (k + n) (i + 1) (next last (b.getD i 0)) (out.set k (next last (b.getD i 0))) := by
  rw [inner, if_pos h]
theorem inner_end {n len f k i : Nat} {b : List UInt8} {last : UInt8} {out : List UInt8} (h : len ≤ k) : inner n len b f k i last out = (i, out) := by
  cases f with
  | zero => rfl
  | succ f => rw [inner, if_neg (by omega)]
theorem inner_length (n len : Nat) (b : List UInt8) : ∀ (f k i : Nat) (last : UInt8) (out : List UInt8), (inner n len b f k i last out).2.length = out.length
  | 0, _, _, _, _ => rfl
  | f + 1, k, i, last, out => by
    rw [inner]
    split
    · rw [inner_length n len b f, List.length_set]
    · rfl
theorem outer_go {n len f j i : Nat} {b out : List UInt8} (h : j < n) : outer n len b (f + 1) j i out = outer n len b f (j + 1) (inner n len b len j i 0 out).1 (inner n len b len j i 0 out).2 := by
  rw [outer, if_pos h]
theorem outer_end {n len f j i : Nat} {b out : List UInt8} (h : n ≤ j) : outer n len b f j i out = out := by
  cases f with
  | zero => rfl
  | succ f => rw [outer, if_neg (by omega)]
theorem outer_length (n len : Nat) (b : List UInt8) : ∀ (f j i : Nat) (out : List UInt8), (outer n len b f j i out).length = out.length
  | 0, _, _, _ => rfl
  | f + 1, j, i, out => by
    rw [outer]
    split
    · rw [outer_length n len b f, inner_length]
    · rfl

/-- The places that have been filled ahead of place k of channel j. -/
def seen (n j k p : Nat) : Bool := decide (p % n < j) || (decide (p % n = j) && decide (p < k))
def cnt (n len j k : Nat) : Nat := (List.range len).countP (seen n j k)
theorem count_more (P Q : Nat → Bool) (k : Nat) (hk : P k = false) (hQ : ∀ p, Q p = (P p || p == k)) : ∀ len, (List.range len).countP Q = (List.range len).countP P + if k < len then 1 else 0
  | 0 => by simp
  | len + 1 => by
    have ih := count_more P Q k hk hQ len
    rw [List.range_succ, List.countP_append, List.countP_append, ih]
    by_cases e : len = k
    · subst e
      simp [hQ, hk]
    · have e' : (len == k) = false := by simp [e]
      simp only [List.countP_cons, List.countP_nil, hQ, e', Bool.or_false]
      by_cases h1 : k < len
      · rw [if_pos h1, if_pos (show k < len + 1 by omega)]; omega
      · rw [if_neg h1, if_neg (show ¬ k < len + 1 by omega)]; omega
theorem cnt_step {n len j k : Nat} (hn : 0 < n) (hk : k % n = j) (hl : k < len) : cnt n len j (k + n) = cnt n len j k + 1 := by
  have h := count_more (seen n j k) (seen n j (k + n)) k (by simp [seen, hk]) (fun p => by
    unfold seen
    by_cases h1 : p % n < j
    · simp [h1]
    · by_cases h2 : p % n = j
      · have e : decide (p < k + n) = (decide (p < k) || p == k) := by
          rw [Bool.eq_iff_iff]
          simp only [decide_eq_true_eq, Bool.or_eq_true, beq_iff_eq]
          have d1 := Nat.div_add_mod p n
          have d2 := Nat.div_add_mod k n
          constructor
          · intro hlt
            rcases Nat.lt_trichotomy p k with h | h | h
            · exact .inl h
            · exact .inr h
            · exfalso
              have hd : k / n < p / n := by
                apply Nat.lt_of_mul_lt_mul_left (a := n)
                omega
              have : n * (k / n + 1) ≤ n * (p / n) := Nat.mul_le_mul_left _ hd
              rw [Nat.mul_add] at this
              omega
          · intro h
            omega
        simp [h2, e]
      · have e : (p == k) = false := by
          simp only [beq_eq_false_iff_ne, ne_eq]
          intro e
          subst e
          exact h2 hk
        simp [h1, h2, e]) len
  rw [if_pos hl] at h
  exact h
theorem cnt_lt {n len j k : Nat} (hn : 0 < n) (hk : k % n = j) (hl : k < len) : cnt n len j k < len := by
  have h := cnt_step hn hk hl
  have h2 : cnt n len j (k + n) ≤ len := by
    have := List.countP_le_length (p := seen n j (k + n)) (l := List.range len)
    rw [List.length_range] at this
    exact this
  omega
theorem cnt_end {n len j k : Nat} (hl : len ≤ k) : cnt n len j k = cnt n len (j + 1) (j + 1) := by
  unfold cnt
  apply List.countP_congr
  intro p hp
  have hp' := List.mem_range.1 hp
  have hle := Nat.mod_le p n
  simp only [seen, Bool.or_eq_true, decide_eq_true_eq, Bool.and_eq_true]
  omega
theorem cnt_zero (n len : Nat) : cnt n len 0 0 = 0 := by
  unfold cnt
  rw [List.countP_eq_zero]
  intro p _
  simp [seen]

/-- Bytes that lie in a block from a place on, and may be written. -/
def Cells (w : World) (h o : Nat) (l : List UInt8) : Prop := ∀ j, j < l.length → w.cell? ⟨h, o + j, none⟩ = some (.int .u8 ((l.getD j 0).toNat : Int)) ∧ w.frozen? ⟨h, o + j, none⟩ = false
theorem Cells.put {w : World} {h o : Nat} {l : List UInt8} (hc : Cells w h o l) (k : Nat) (x : UInt8) : Cells (w.setCell ⟨h, o + k, none⟩ (.int .u8 (x.toNat : Int))) h o (l.set k x) := by
  intro j hj
  rw [List.length_set] at hj
  obtain ⟨h1, h2⟩ := hc j hj
  refine ⟨?_, by rw [World.frozen?_setCell]; exact h2⟩
  by_cases e : k = j
  · subst e
    rw [World.cell?_setCell_same (u := .int .u8 ((l.getD k 0).toNat : Int)) _ _ _ h1, List.getD_eq_getElem?_getD, List.getElem?_set_self hj]
    rfl
  · rw [World.cell?_setCell_other _ _ _ _ (by intro e'; injection e' with _ e2; omega), h1, List.getD_eq_getElem?_getD, List.getD_eq_getElem?_getD, List.getElem?_set_ne e]
theorem Cells.far {w : World} {h o : Nat} {l : List UInt8} (hc : Cells w h o l) {h' o' : Nat} (hne : h ≠ h' ∨ o + l.length ≤ o') (v : Value) : Cells (w.setCell ⟨h', o', none⟩ v) h o l := by
  intro j hj
  obtain ⟨h1, h2⟩ := hc j hj
  refine ⟨?_, by rw [World.frozen?_setCell]; exact h2⟩
  rw [World.cell?_setCell_other _ _ _ _ (by intro e'; injection e' with e1 e2; omega), h1]
theorem Cells.own {w : World} {base e g cap : Nat} {l : List UInt8} (h : Own w base e g cap l) : Cells w g 0 l := fun j hj => by
  rw [Nat.zero_add]; exact ⟨h.cell hj, h.frozen j⟩
theorem Cells.rd {w : World} {h o c : Nat} {l : List UInt8} (hc : Cells w h o l) (hb : h < w.heap.size) (h1 : l.length ≤ c) (h2 : c ≤ 9223372036854775807) : Rd w w.heap.size (.slice (some ⟨h, o, none⟩) l.length c) (Lib.byteCells l) := by
  refine ⟨_, c, by rw [Lib.byteCells_length], by rw [Lib.byteCells_length]; exact h1, h2, fun _ => ⟨h, o, rfl, hb, fun j u hu => ?_⟩⟩
  have hj : j < l.length := by
    have := (List.getElem?_eq_some_iff.1 hu).1
    rwa [Lib.byteCells_length] at this
  rw [(hc j hj).1, ← hu]
  unfold Lib.byteCells
  rw [List.getElem?_map, List.getElem?_eq_getElem hj, List.getD_eq_getElem?_getD, List.getElem?_eq_getElem hj]
  rfl
end Go.Proofs.YtmplkbnajohheaaDoor.Delta
