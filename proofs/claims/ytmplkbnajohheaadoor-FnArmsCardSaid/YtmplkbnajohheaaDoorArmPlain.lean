/- Calls of ARM, plainly: one step at a place, and so many steps from the beginning. No program. -/
import Derived.Test.YtmplkbnajohheaaDoorOwn
namespace Go.Proofs.YtmplkbnajohheaaDoor.Arm
open Go Go.Proofs.YtmplkbnajohheaaDoor.Aid

/-- The number that stands at a place: three bytes, the lowest first, less the place of the step, in fours. -/
def num (off k : Nat) (l : List UInt8) : Int := ((l.getD k 0).toNat : Int) + ((l.getD (k + 1) 0).toNat : Int) * 256 + ((l.getD (k + 2) 0).toNat : Int) * 65536 - ((off + k : Nat) : Int) / 4
/-- One step at place k. -/
def step (off k : Nat) (l : List UInt8) : List UInt8 :=
  if l.getD (k + 3) 0 = 235 then ((l.set k (low (num off k l))).set (k + 1) (low (num off k l / 256))).set (k + 2) (low (num off k l / 65536)) else l
/-- The first m steps. -/
def upto (off : Nat) (l : List UInt8) : Nat → List UInt8
  | 0 => l
  | m + 1 => step off (4 * m) (upto off l m)
theorem step_length (off k : Nat) (l : List UInt8) : (step off k l).length = l.length := by
  unfold step; split <;> simp
theorem upto_length (off : Nat) (l : List UInt8) : ∀ m, (upto off l m).length = l.length
  | 0 => rfl
  | m + 1 => by rw [upto, step_length, upto_length off l m]
theorem step_hit {off k : Nat} {l : List UInt8} (h : ((l.getD (k + 3) 0).toNat : Int) = 235) :
    step off k l = ((l.set k (low (num off k l))).set (k + 1) (low (num off k l / 256))).set (k + 2) (low (num off k l / 65536)) := by
  unfold step
  rw [if_pos (UInt8.toNat_inj.1 (by show _ = 235; omega))]
theorem step_miss {off k : Nat} {l : List UInt8} (h : ¬ ((l.getD (k + 3) 0).toNat : Int) = 235) : step off k l = l := by
  unfold step
  rw [if_neg]
  intro e
  rw [e] at h
  exact h rfl
end Go.Proofs.YtmplkbnajohheaaDoor.Arm
