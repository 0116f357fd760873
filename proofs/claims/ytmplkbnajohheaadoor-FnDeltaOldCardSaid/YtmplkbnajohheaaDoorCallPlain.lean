/- Calls of x86, plainly: what stands behind a call, what is told instead, and the way through the bytes. No program. -/
import Derived.Test.YtmplkbnajohheaaDoorOwn
namespace Go.Proofs.YtmplkbnajohheaaDoor.Call
open Go Go.Proofs.YtmplkbnajohheaaDoor.Aid

/-- Four bytes, the lowest first. -/
def word (k : Nat) (l : List UInt8) : Int := ((l.getD (k + 1) 0).toNat : Int) + ((l.getD (k + 2) 0).toNat : Int) * 256 + ((l.getD (k + 3) 0).toNat : Int) * 65536 + ((l.getD (k + 4) 0).toNat : Int) * 16777216
/-- The same with a sign. -/
def sword (k : Nat) (l : List UInt8) : Int := (word k l + 2147483648) % 4294967296 - 2147483648
/-- What is told instead. -/
def newv (at_ v : Int) : Int := if v < 0 then (if 0 ≤ v + at_ then v + 16777216 else v) else if v < 16777216 then v - at_ else v
def put4 (k : Nat) (v : Int) (l : List UInt8) : List UInt8 := (((l.set (k + 1) (low v)).set (k + 2) (low (v / 256))).set (k + 3) (low (v / 65536))).set (k + 4) (low (v / 16777216))
def hit (jumps : Bool) (b : UInt8) : Bool := b == 232 || (jumps && b == 233)
/-- So many steps from place k on. -/
def run (off : Nat) (jumps : Bool) : Nat → Nat → List UInt8 → List UInt8
  | 0, _, l => l
  | f + 1, k, l => if k + 5 ≤ l.length then (if hit jumps (l.getD k 0) then run off jumps f (k + 5) (put4 k (newv (k + 1 + off) (sword k l)) l) else run off jumps f (k + 1) l) else l
theorem put4_length (k : Nat) (v : Int) (l : List UInt8) : (put4 k v l).length = l.length := by simp [put4]
theorem run_length (off : Nat) (jumps : Bool) : ∀ (f k : Nat) (l : List UInt8), (run off jumps f k l).length = l.length
  | 0, _, _ => rfl
  | f + 1, k, l => by
    unfold run
    split
    · split
      · rw [run_length off jumps f, put4_length]
      · rw [run_length off jumps f]
    · rfl
theorem run_hit {off f k : Nat} {jumps : Bool} {l : List UInt8} (h5 : k + 5 ≤ l.length) (hh : hit jumps (l.getD k 0) = true) : run off jumps (f + 1) k l = run off jumps f (k + 5) (put4 k (newv (k + 1 + off) (sword k l)) l) := by
  rw [run, if_pos h5, if_pos hh]
theorem run_miss {off f k : Nat} {jumps : Bool} {l : List UInt8} (h5 : k + 5 ≤ l.length) (hh : hit jumps (l.getD k 0) = false) : run off jumps (f + 1) k l = run off jumps f (k + 1) l := by
  rw [run, if_pos h5, if_neg (by rw [hh]; decide)]
theorem run_end {off f k : Nat} {jumps : Bool} {l : List UInt8} (h5 : l.length < k + 5) : run off jumps f k l = l := by
  cases f with
  | zero => rfl
  | succ f => rw [run, if_neg (by omega)]
theorem set_same {l : List UInt8} {j : Nat} {x : UInt8} (h : l.getD j 0 = x) (hj : j < l.length) : l.set j x = l := by
  apply List.ext_getElem?
  intro i
  rw [List.getElem?_set]
  by_cases e : j = i
  · subst e
    rw [if_pos rfl, if_pos hj, ← h, List.getD_eq_getElem?_getD, List.getElem?_eq_getElem hj]
    rfl
  · rw [if_neg e]
theorem low_of {x : Int} {b : UInt8} (h : x % 256 = (b.toNat : Int)) : low x = b := by
  apply UInt8.toNat_inj.1
  have := low_nat x
  omega
theorem put4_same {k : Nat} {l : List UInt8} (h5 : k + 5 ≤ l.length) : put4 k (sword k l) l = l := by
  have b1 := (l.getD (k + 1) 0).toNat_lt
  have b2 := (l.getD (k + 2) 0).toNat_lt
  have b3 := (l.getD (k + 3) 0).toNat_lt
  have b4 := (l.getD (k + 4) 0).toNat_lt
  have e1 : l.set (k + 1) (low (sword k l)) = l := set_same (low_of (by unfold sword word; omega)).symm (by omega)
  have e2 : l.set (k + 2) (low (sword k l / 256)) = l := set_same (low_of (by unfold sword word; omega)).symm (by omega)
  have e3 : l.set (k + 3) (low (sword k l / 65536)) = l := set_same (low_of (by unfold sword word; omega)).symm (by omega)
  have e4 : l.set (k + 4) (low (sword k l / 16777216)) = l := set_same (low_of (by unfold sword word; omega)).symm (by omega)
  unfold put4
  rw [e1, e2, e3, e4]
theorem sword_bd (k : Nat) (l : List UInt8) : -2147483648 ≤ sword k l ∧ sword k l ≤ 2147483647 := by unfold sword; omega
theorem word_bd (k : Nat) (l : List UInt8) : 0 ≤ word k l ∧ word k l ≤ 4294967295 := by
  have b1 := (l.getD (k + 1) 0).toNat_lt
  have b2 := (l.getD (k + 2) 0).toNat_lt
  have b3 := (l.getD (k + 3) 0).toNat_lt
  have b4 := (l.getD (k + 4) 0).toNat_lt
  unfold word; omega
theorem hit_yes (jumps : Bool) {b : UInt8} (h : b.toNat = 232) : hit jumps b = true := by
  have : b = 232 := UInt8.toNat_inj.1 h
  simp [hit, this]
theorem hit_yes9 {b : UInt8} (h : b.toNat = 233) : hit true b = true := by
  have : b = 233 := UInt8.toNat_inj.1 h
  simp [hit, this]
theorem hit_no {jumps : Bool} {b : UInt8} (h : b.toNat ≠ 232) (h' : jumps = true → b.toNat ≠ 233) : hit jumps b = false := by
  have e1 : b ≠ 232 := fun e => h (by rw [e]; rfl)
  cases jumps
  · simp [hit, e1]
  · have e2 : b ≠ 233 := fun e => h' rfl (by rw [e]; rfl)
    simp [hit, e1, e2]
end Go.Proofs.YtmplkbnajohheaaDoor.Call
