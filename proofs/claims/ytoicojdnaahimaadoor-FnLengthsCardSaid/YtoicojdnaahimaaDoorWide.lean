/- Bits of numbers that may have wrapped. Of no program. -/
import Derived.Laws.BitsLemmas
import Derived.RowKit
namespace Go.Proofs.YtoicojdnaahimaaDoor.Rdr
open Go Go.RowKit

theorem ofInt_nat (Z : Int) : (((BitVec.ofInt 64 Z).toNat : Nat) : Int) = Z % 18446744073709551616 := by
  rw [BitVec.toNat_ofInt]
  omega

theorem or_low (X x : Int) (h0 : -9223372036854775808 ≤ X) (h1 : X ≤ 9223372036854775807) (hX : X % 256 = 0) (hx0 : 0 ≤ x) (hx : x < 256) : bits .or .i64 X x = X + x := by
  obtain ⟨b, rfl⟩ := Int.eq_ofNat_of_zero_le hx0
  obtain ⟨a, ha⟩ : ∃ a, a = (BitVec.ofInt 64 X).toNat := ⟨_, rfl⟩
  have hai : (a : Int) = X % 18446744073709551616 := by rw [ha]; exact ofInt_nat X
  have hb : (BitVec.ofInt 64 (b : Int)).toNat = b := by
    have := ofInt_nat (b : Int)
    omega
  have hor : a ||| b = a + b := by
    have h3 := Nat.two_pow_add_eq_or_of_lt (i := 8) (b := b) (by omega) (a / 2 ^ 8)
    have h4 : 2 ^ 8 * (a / 2 ^ 8) = a := by
      have : a % 256 = 0 := by omega
      omega
    rw [h4] at h3
    exact h3.symm
  have e : bits .or .i64 X (b : Int) = IntKind.i64.wrap ((a ||| b : Nat) : Int) := by
    show IntKind.i64.wrap (((BitVec.ofInt 64 X ||| BitVec.ofInt 64 (b : Int)).toNat : Nat) : Int) = _
    rw [BitVec.toNat_or, hb, ← ha]
  rw [e, hor, IntKind.wrap_i64]
  omega

theorem and_mask (Z : Int) (k : Nat) (hk : k ≤ 15) : bits .and .i64 Z (2 ^ k - 1) = Z % 2 ^ k := by
  obtain ⟨a, ha⟩ : ∃ a, a = (BitVec.ofInt 64 Z).toNat := ⟨_, rfl⟩
  have hai : (a : Int) = Z % 18446744073709551616 := by rw [ha]; exact ofInt_nat Z
  have hp : 0 < 2 ^ k := Nat.two_pow_pos k
  have hp2 : 2 ^ k ≤ 2 ^ 15 := Nat.pow_le_pow_right (by omega) hk
  have hc : ((2 : Int) ^ k - 1) = ((2 ^ k - 1 : Nat) : Int) := by
    rw [Int.natCast_sub hp]; simp
  have hb : (BitVec.ofInt 64 ((2 ^ k - 1 : Nat) : Int)).toNat = 2 ^ k - 1 := by
    have := ofInt_nat ((2 ^ k - 1 : Nat) : Int)
    omega
  have e : bits .and .i64 Z ((2 ^ k - 1 : Nat) : Int) = IntKind.i64.wrap ((a % 2 ^ k : Nat) : Int) := by
    show IntKind.i64.wrap (((BitVec.ofInt 64 Z &&& BitVec.ofInt 64 ((2 ^ k - 1 : Nat) : Int)).toNat : Nat) : Int) = _
    rw [BitVec.toNat_and, hb, ← ha, Nat.and_two_pow_sub_one_eq_mod]
  rw [hc, e, IntKind.wrap_i64]
  have hm : a % 2 ^ k < 2 ^ k := Nat.mod_lt _ hp
  have h5 : ((a % 2 ^ k : Nat) : Int) = Z % 2 ^ k := by
    push_cast
    rw [hai]
    have hd : (2 ^ k : Int) ∣ 18446744073709551616 := ⟨2 ^ (64 - k), by rw [← Int.pow_add, show k + (64 - k) = 64 by omega]; decide⟩
    exact Int.emod_emod_of_dvd Z hd
  rw [← h5]
  omega
/-- Bits out of a number of which the lowest thirty-two are known. -/
theorem pick (v W : Int) (n k : Nat) (h : v % 4294967296 = W % 4294967296) (hnk : n + k ≤ 32) : (v / 2 ^ n) % 2 ^ k = (W / 2 ^ n) % 2 ^ k := by
  have key : ∀ Z : Int, (Z / 2 ^ n) % 2 ^ k = ((Z % 4294967296) / 2 ^ n) % 2 ^ k := by
    intro Z
    have h1 : Z = 2 ^ n * (2 ^ k * (2 ^ (32 - n - k) * (Z / 4294967296))) + Z % 4294967296 := by
      have e : (2 : Int) ^ n * (2 ^ k * (2 ^ (32 - n - k) * (Z / 4294967296))) = 4294967296 * (Z / 4294967296) := by
        rw [← Int.mul_assoc, ← Int.mul_assoc, ← Int.pow_add, ← Int.pow_add, show n + k + (32 - n - k) = 32 by omega]
        rfl
      omega
    have hn0 : (2 : Int) ^ n ≠ 0 := Int.ne_of_gt (Int.pow_pos (by omega))
    conv => lhs; rw [h1]
    rw [Int.mul_add_ediv_left _ _ hn0, Int.mul_add_emod_self_left]
  rw [key v, key W, h]
end Go.Proofs.YtoicojdnaahimaaDoor.Rdr
