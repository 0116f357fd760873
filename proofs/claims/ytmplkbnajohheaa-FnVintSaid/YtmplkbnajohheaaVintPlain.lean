/- Plain law of variable numbers: bytes of seven bits, the lowest first, read back by the decoder's function; whatever stands behind. No program. -/
import Derived.Lib.VarintDec
import Derived.Lib.VarintMem
namespace Go.Proofs.Ytmplkbnajohheaa.Vi
open Go

/-- What bytes of seven bits spell, the lowest first. -/
def val : List UInt8 → Nat
  | [] => 0
  | b :: r => b.toNat % 128 + 128 * val r

theorem val_snoc (c : UInt8) : ∀ pre : List UInt8, val (pre ++ [c]) = val pre + 2 ^ (7 * pre.length) * (c.toNat % 128)
  | [] => by simp [val]
  | b :: r => by
    have h := val_snoc c r
    have e : 2 ^ (7 * (b :: r).length) = 128 * 2 ^ (7 * r.length) := by
      rw [List.length_cons, Nat.mul_add, Nat.pow_add]; omega
    rw [e, List.cons_append]
    simp only [val]
    rw [h, Nat.mul_add, Nat.mul_assoc]
    omega

/-- l is a variable number of v: each byte but the last has the highest bit; at most nine bytes. -/
def Enc (l : List UInt8) (v : Nat) : Prop := ∃ (pre : List UInt8) (b : UInt8), l = pre ++ [b] ∧ pre.length ≤ 8 ∧ (∀ x ∈ pre, 128 ≤ x.toNat) ∧ b.toNat < 128 ∧ val l = v

theorem dec_run (b : UInt8) (hb : b.toNat < 128) (tail : List UInt8) : ∀ (pre : List UInt8) (i acc : Nat), i + pre.length ≤ 8 → (∀ x ∈ pre, 128 ≤ x.toNat) →
    Lib.uvarintFrom i acc (pre ++ b :: tail) = (acc + 2 ^ (7 * i) * val (pre ++ [b]), ((i + pre.length + 1 : Nat) : Int))
  | [], i, acc, hi, _ => by
    have hi' : i ≤ 8 := by simpa using hi
    simp only [List.nil_append, Lib.uvarintFrom]
    rw [if_neg (by omega), if_pos hb, if_neg (by omega)]
    simp only [val, List.length_nil, Nat.add_zero]
    rw [Nat.mod_eq_of_lt hb, Nat.mul_comm]
    simp
  | c :: r, i, acc, hi, hx => by
    have hc : 128 ≤ c.toNat := hx c (by simp)
    have hl : i + (r.length + 1) ≤ 8 := by simpa using hi
    have ih := dec_run b hb tail r (i + 1) (acc + c.toNat % 128 * 2 ^ (7 * i)) (by omega) (fun x h => hx x (by simp [h]))
    simp only [List.cons_append, Lib.uvarintFrom]
    rw [if_neg (by omega), if_neg (by omega), ih]
    have e : 2 ^ (7 * (i + 1)) = 2 ^ (7 * i) * 128 := by rw [Nat.mul_add, Nat.pow_add]
    congr 1
    · rw [e]
      simp only [val]
      rw [Nat.mul_add, Nat.mul_assoc, Nat.mul_comm (c.toNat % 128)]
      omega
    · simp only [List.length_cons]; congr 1; omega

/-- A variable number is read back, whatever stands behind. -/
theorem dec_enc {l : List UInt8} {v : Nat} (h : Enc l v) (tail : List UInt8) : Lib.uvarintDec (l ++ tail) = (v, (l.length : Int)) := by
  obtain ⟨pre, b, rfl, hp, hx, hb, hv⟩ := h
  have := dec_run b hb tail pre 0 0 (by omega) hx
  unfold Lib.uvarintDec
  simp only [List.append_assoc, List.singleton_append]
  rw [this, hv]
  simp
theorem Enc.len {l : List UInt8} {v : Nat} (h : Enc l v) : 1 ≤ l.length ∧ l.length ≤ 9 := by
  obtain ⟨pre, b, rfl, hp, _⟩ := h
  simp; omega
end Go.Proofs.Ytmplkbnajohheaa.Vi
