/- Bits written one behind the other. Of no program. -/
import Derived.Test.YtoicojdnaahimaaDoorCodePlain
namespace Go.Proofs.YtoicojdnaahimaaDoor.Cod
open Go.Proofs.YtoicojdnaahimaaDoor.Len

/-- Bytes that hold so many bits: none beyond. -/
structure Bits (out : List Nat) (at_ : Nat) : Prop where
  len : out.length = (at_ + 7) / 8
  byte : ∀ j, out.getD j 0 < 256
  zero : ∀ p, at_ ≤ p → bitAt out p = 0
theorem Bits.nil : Bits [] 0 := ⟨rfl, fun j => by simp, fun p _ => by simp [bitAt]⟩
/-- The byte that the next bit goes to: a new one where none is open. -/
def room (out : List Nat) (at_ : Nat) : List Nat := if at_ % 8 = 0 then out ++ [0] else out
theorem room_getD (out : List Nat) (at_ j : Nat) : (room out at_).getD j 0 = out.getD j 0 := by
  unfold room
  split
  · by_cases h : j < out.length
    · simp [List.getD_eq_getElem?_getD, List.getElem?_append_left h]
    · rw [List.getD_eq_getElem?_getD, List.getD_eq_getElem?_getD, List.getElem?_append_right (by omega), List.getElem?_eq_none (l := out) (by omega)]
      rcases Nat.lt_or_ge (j - out.length) 1 with h1 | h1
      · rw [show j - out.length = 0 by omega]; rfl
      · rw [List.getElem?_eq_none (by simpa using h1)]
  · rfl
theorem room_length (out : List Nat) (at_ : Nat) (h : Bits out at_) : (room out at_).length = at_ / 8 + 1 := by
  have := h.len
  unfold room
  split
  · simp; omega
  · omega
/-- The place's byte has no bit from there on. -/
theorem Bits.low {out : List Nat} {at_ : Nat} (h : Bits out at_) : out.getD (at_ / 8) 0 % 2 ^ (8 - at_ % 8) = 0 := by
  have hb := h.byte (at_ / 8)
  have hz : ∀ i, at_ % 8 ≤ i → i < 8 → (out.getD (at_ / 8) 0 / 2 ^ (7 - i)) % 2 = 0 := by
    intro i h1 h2
    have := h.zero (8 * (at_ / 8) + i) (by omega)
    unfold bitAt at this
    rwa [show (8 * (at_ / 8) + i) / 8 = at_ / 8 by omega, show (8 * (at_ / 8) + i) % 8 = i by omega] at this
  generalize out.getD (at_ / 8) 0 = x at hb hz ⊢
  have hr : at_ % 8 < 8 := Nat.mod_lt _ (by omega)
  generalize at_ % 8 = r at hz hr ⊢
  have z7 := hz 7
  have z6 := hz 6
  have z5 := hz 5
  have z4 := hz 4
  have z3 := hz 3
  have z2 := hz 2
  have z1 := hz 1
  have z0 := hz 0
  clear hz
  simp only [Nat.reduceSub, Nat.reducePow] at z0 z1 z2 z3 z4 z5 z6 z7
  obtain rfl | rfl | rfl | rfl | rfl | rfl | rfl | rfl : r = 0 ∨ r = 1 ∨ r = 2 ∨ r = 3 ∨ r = 4 ∨ r = 5 ∨ r = 6 ∨ r = 7 := by omega
  all_goals simp only [Nat.reduceSub, Nat.reducePow]
  all_goals omega
/-- One byte's bits with one more. -/
theorem byte_bit (x r b i : Nat) (hb : b < 2) (hr : r < 8) (hi : i < 8) (hx : x < 256) (hl : x % 2 ^ (8 - r) = 0) :
    x + b * 2 ^ (7 - r) < 256 ∧ ((x + b * 2 ^ (7 - r)) / 2 ^ (7 - i)) % 2 = if i = r then b else (x / 2 ^ (7 - i)) % 2 := by
  obtain rfl | rfl | rfl | rfl | rfl | rfl | rfl | rfl : r = 0 ∨ r = 1 ∨ r = 2 ∨ r = 3 ∨ r = 4 ∨ r = 5 ∨ r = 6 ∨ r = 7 := by omega
  all_goals (obtain rfl | rfl | rfl | rfl | rfl | rfl | rfl | rfl : i = 0 ∨ i = 1 ∨ i = 2 ∨ i = 3 ∨ i = 4 ∨ i = 5 ∨ i = 6 ∨ i = 7 := by omega)
  all_goals simp only [Nat.reduceSub, Nat.reducePow] at hl ⊢
  all_goals simp
  all_goals omega
def put (out : List Nat) (at_ b : Nat) : List Nat := (room out at_).set (at_ / 8) (out.getD (at_ / 8) 0 + b * 2 ^ (7 - at_ % 8))
theorem put_byte {out : List Nat} {at_ b : Nat} (h : Bits out at_) (hb : b < 2) : out.getD (at_ / 8) 0 + b * 2 ^ (7 - at_ % 8) < 256 :=
  (byte_bit _ _ b 0 hb (Nat.mod_lt _ (by omega)) (by omega) (h.byte _) h.low).1
theorem put_bit {out : List Nat} {at_ b : Nat} (h : Bits out at_) (hb : b < 2) (p : Nat) : bitAt (put out at_ b) p = if p = at_ then b else bitAt out p := by
  have hl := room_length out at_ h
  unfold bitAt put
  by_cases e : at_ / 8 = p / 8
  · rw [← e, getD_set_same _ _ _ _ (by omega), (byte_bit _ (at_ % 8) b (p % 8) hb (Nat.mod_lt _ (by omega)) (Nat.mod_lt _ (by omega)) (h.byte _) h.low).2]
    by_cases e2 : p % 8 = at_ % 8
    · rw [if_pos e2, if_pos (by omega)]
    · rw [if_neg e2, if_neg (by omega)]
  · rw [getD_set_other _ _ _ _ _ e, room_getD, if_neg (fun e2 => e (by rw [e2]))]
theorem put_bits {out : List Nat} {at_ b : Nat} (h : Bits out at_) (hb : b < 2) : Bits (put out at_ b) (at_ + 1) := by
  refine ⟨?_, ?_, ?_⟩
  · unfold put
    rw [List.length_set, room_length out at_ h]
    omega
  · intro j
    unfold put
    by_cases e : at_ / 8 = j
    · subst e
      rw [getD_set_same _ _ _ _ (by rw [room_length out at_ h]; omega)]
      exact put_byte h hb
    · rw [getD_set_other _ _ _ _ _ e, room_getD]
      exact h.byte j
  · intro p hp
    rw [put_bit h hb, if_neg (by omega)]
    exact h.zero p (by omega)
/-- Behind some bits of a number, the highest first: what was there stays, and the window is its head. -/
structure Wrote (out : List Nat) (a0 v n j : Nat) (out0 : List Nat) : Prop where
  bits : Bits out (a0 + j)
  old : ∀ p, p < a0 → bitAt out p = bitAt out0 p
  win : win out a0 j = v / 2 ^ (n - j)
theorem Wrote.start {out : List Nat} {a0 : Nat} (h : Bits out a0) (v n : Nat) (hv : v < 2 ^ n) : Wrote out a0 v n 0 out :=
  ⟨h, fun _ _ => rfl, by show 0 = v / 2 ^ (n - 0); rw [Nat.sub_zero, Nat.div_eq_of_lt hv]⟩
theorem Wrote.step {out out0 : List Nat} {a0 v n j : Nat} (h : Wrote out a0 v n j out0) (hj : j < n) : Wrote (put out (a0 + j) ((v / 2 ^ (n - 1 - j)) % 2)) a0 v n (j + 1) out0 := by
  have hb : (v / 2 ^ (n - 1 - j)) % 2 < 2 := Nat.mod_lt _ (by omega)
  refine ⟨put_bits h.bits hb, fun p hp => ?_, ?_⟩
  · rw [put_bit h.bits hb, if_neg (by omega)]
    exact h.old p hp
  · show 2 * Cod.win _ a0 j + bitAt _ (a0 + j) = _
    rw [put_bit h.bits hb, if_pos rfl]
    have e : Cod.win (put out (a0 + j) ((v / 2 ^ (n - 1 - j)) % 2)) a0 j = Cod.win out a0 j := win_congr j fun i hi => by
      rw [put_bit h.bits hb, if_neg (by omega)]
    rw [e, h.win, show n - j = (n - 1 - j) + 1 by omega, show n - (j + 1) = n - 1 - j by omega, Nat.pow_succ, ← Nat.div_div_eq_div_mul]
    omega
theorem Wrote.done {out out0 : List Nat} {a0 v n : Nat} (h : Wrote out a0 v n n out0) : Cod.win out a0 n = v := by
  rw [h.win]; simp
end Go.Proofs.YtoicojdnaahimaaDoor.Cod
