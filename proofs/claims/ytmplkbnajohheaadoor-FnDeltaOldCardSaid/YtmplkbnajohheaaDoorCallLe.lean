/- The walks of the package's two functions on four bytes, the lowest first: read, and written. -/
import Derived.Test.YtmplkbnajohheaaDoorCallPlain
import Derived.Test.YtmplkbnajohheaaDoorClone
import Derived.BigQuiet
import Derived.Lib.EndianBits
import Derived.Deep.QuietTactic
namespace Go.Proofs.YtmplkbnajohheaaDoor.Call
open Go.RowKit Go.Proofs.YtmplkbnajohheaaDoor.Aid Go.Proofs.YtmplkbnajohheaaDoor.Base

theorem or_u32' (i : Nat) (y x : Int) (hy0 : 0 ≤ y) (hy : y < 2 ^ i) (hx0 : 0 ≤ x) (hx : x % 2 ^ i = 0) (hy1 : y < 4294967296) (hx1 : x < 4294967296) : bits .or .u32 y x = y + x :=
  bits_join_low .u32 32 (by decide) (fun n a b => by rw [IntKind.wrap_u32]; omega) i y x hy0 hy (by omega) hx0 hx (by omega)

set_option maxRecDepth 100000 in
set_option maxHeartbeats 1000000 in
theorem le_any (g o n c : Nat) (x1 x2 x3 x4 : UInt8) (w : World) (hn : 4 ≤ n) (_hnc : n ≤ c) (_hc : c ≤ 9223372036854775807)
    (c1 : w.cell? ⟨g, o, none⟩ = some (.int .u8 (x1.toNat : Int))) (c2 : w.cell? ⟨g, o + 1, none⟩ = some (.int .u8 (x2.toNat : Int)))
    (c3 : w.cell? ⟨g, o + 2, none⟩ = some (.int .u8 (x3.toNat : Int))) (c4 : w.cell? ⟨g, o + 3, none⟩ = some (.int .u8 (x4.toNat : Int))) :
    Calls Tryd.prog 21 #[.slice (some ⟨g, o, none⟩) n c] w fun e w' => e = .returned (.int .u32 ((x1.toNat : Int) + (x2.toNat : Int) * 256 + (x3.toNat : Int) * 65536 + (x4.toNat : Int) * 16777216)) ∧ ∃ q, w' = w.drewN q := by
  have y1 := x1.toNat_lt
  have y2 := x2.toNat_lt
  have y3 := x3.toNat_lt
  have y4 := x4.toNat_lt
  have o1 : bits .or .u32 (x1.toNat : Int) ((x2.toNat : Int) * 256) = (x1.toNat : Int) + (x2.toNat : Int) * 256 := or_u32' 8 _ _ (by omega) (by omega) (by omega) (by omega) (by omega) (by omega)
  have o2 : bits .or .u32 ((x1.toNat : Int) + (x2.toNat : Int) * 256) ((x3.toNat : Int) * 65536) = (x1.toNat : Int) + (x2.toNat : Int) * 256 + (x3.toNat : Int) * 65536 := or_u32' 16 _ _ (by omega) (by omega) (by omega) (by omega) (by omega) (by omega)
  have o3 : bits .or .u32 ((x1.toNat : Int) + (x2.toNat : Int) * 256 + (x3.toNat : Int) * 65536) ((x4.toNat : Int) * 16777216) = (x1.toNat : Int) + (x2.toNat : Int) * 256 + (x3.toNat : Int) * 65536 + (x4.toNat : Int) * 16777216 := or_u32' 24 _ _ (by omega) (by omega) (by omega) (by omega) (by omega) (by omega)
  have i0 : (0 : Int) < n := by omega
  have i1 : (1 : Int) < n := by omega
  have i2 : (2 : Int) < n := by omega
  have i3 : (3 : Int) < n := by omega
  go_enter Tryd.func21, Tryd.ntmps21
  go_wp2_with fail
  go_quiet (fail)
  go_wp2
  go_ret
  exact ⟨rfl, _, rfl⟩

set_option maxRecDepth 100000 in
set_option maxHeartbeats 1000000 in
theorem put_any (g o n c : Nat) (v : Int) (hv0 : 0 ≤ v) (hv1 : v < 4294967296) (y1 y2 y3 y4 : Value) (w : World) (hn : 4 ≤ n)
    (c1 : w.cell? ⟨g, o, none⟩ = some y1) (c2 : w.cell? ⟨g, o + 1, none⟩ = some y2) (c3 : w.cell? ⟨g, o + 2, none⟩ = some y3) (c4 : w.cell? ⟨g, o + 3, none⟩ = some y4) (hf : ∀ j, w.frozen? ⟨g, j, none⟩ = false) :
    Calls Tryd.prog 22 #[.slice (some ⟨g, o, none⟩) n c, .int .u32 v] w fun e w' => e = .returned (.tuple #[]) ∧
      w' = (((w.setCell ⟨g, o, none⟩ (.int .u8 (v % 256))).setCell ⟨g, o + 1, none⟩ (.int .u8 (v / 256 % 256))).setCell ⟨g, o + 2, none⟩ (.int .u8 (v / 65536 % 256))).setCell ⟨g, o + 3, none⟩ (.int .u8 (v / 16777216))  := by
  go_enter Tryd.func22, Tryd.ntmps22
  go_wp2
  go_end0
  exact ⟨rfl, rfl⟩

/-- Four bytes written into a row of the call's own. -/
theorem put_own (g k n c base cap : Nat) (t : List UInt8) (V v : Int) (hv : v = V % 4294967296) (w : World) (hown : Own w base 5 g cap t) (h5 : k + 5 ≤ t.length) (hn : 4 ≤ n) :
    Calls Tryd.prog 22 #[.slice (some ⟨g, k + 1, none⟩) n c, .int .u32 v] w fun e w' => e = .returned (.tuple #[]) ∧ Own w' base 5 g cap (put4 k V t) ∧ Below base w w' := by
  refine (put_any g (k + 1) n c v (by omega) (by omega) _ _ _ _ w hn (hown.cell (j := k + 1) (by omega)) (hown.cell (j := k + 2) (by omega)) (hown.cell (j := k + 3) (by omega)) (hown.cell (j := k + 4) (by omega)) hown.frozen).mono ?_
  rintro e w' ⟨rfl, rfl⟩
  refine ⟨rfl, ?_, ((((Below.refl _ _).setCell hown.base_le _).setCell hown.base_le _).setCell hown.base_le _).setCell hown.base_le _⟩
  exact (((hown.set (k + 1) V _ (by omega)).set (k + 1 + 1) (V / 256) _ (by omega)).set (k + 1 + 2) (V / 65536) _ (by omega)).set (k + 1 + 3) (V / 16777216) _ (by omega)
end Go.Proofs.YtmplkbnajohheaaDoor.Call
