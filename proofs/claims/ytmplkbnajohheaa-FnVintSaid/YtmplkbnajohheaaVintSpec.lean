/- The walk of the reference's function of variable numbers: what it hands back owns the bytes of such a number. -/
import Derived.Test.YtmplkbnajohheaaRows
import Derived.Test.YtmplkbnajohheaaAid
import Derived.Test.YtmplkbnajohheaaVintPlain
import Derived.WalkKit
import Derived.WalkSpells
import Derived.BigQuiet
import Derived.Lib.VarintMem
namespace Go.Proofs.Ytmplkbnajohheaa.Vi
open Go.RowKit Go.Proofs.Ytmplkbnajohheaa.Aid

theorem info5 : (Try.prog.info? 5).map (fun i => (i.zero, i.size, i.bytes)) = some (some (.int .u8 0), 1, 1) := by kernel_rfl

theorem enc_snoc {pre : List UInt8} {v y : Nat} (hl : pre.length ≤ 8) (h8 : ∀ x ∈ pre, 128 ≤ x.toNat) (hv : val pre + 2 ^ (7 * pre.length) * y = v) (hy : y < 128) : Enc (pre ++ [y.toUInt8]) v := by
  have e : (y.toUInt8).toNat = y := Lib.toUInt8_toNat (by omega)
  exact ⟨pre, y.toUInt8, rfl, hl, h8, by rw [e]; exact hy, by rw [val_snoc, e, Nat.mod_eq_of_lt hy]; exact hv⟩
theorem step_val {pre : List UInt8} {v y : Nat} (hv : val pre + 2 ^ (7 * pre.length) * y = v) : val (pre ++ [(y % 128 + 128).toUInt8]) + 2 ^ (7 * (pre ++ [(y % 128 + 128).toUInt8]).length) * (y / 128) = v := by
  rw [val_snoc, Lib.toUInt8_toNat (by omega), List.length_append, List.length_singleton, Nat.mul_add, Nat.pow_add, ← hv]
  rw [show (y % 128 + 128) % 128 = y % 128 from by omega, show 2 ^ (7 * 1) = 128 from rfl, Nat.mul_assoc, Nat.add_assoc, ← Nat.mul_add]
  rw [show y % 128 + 128 * (y / 128) = y from by omega]
theorem few {pre : List UInt8} {v y : Nat} (hv : val pre + 2 ^ (7 * pre.length) * y = v) (h63 : v < 9223372036854775808) (hl : pre.length ≤ 8) (hy : 128 ≤ y) : pre.length < 8 := by
  rcases Nat.lt_or_ge pre.length 8 with h | h
  · exact h
  · exfalso
    have e : pre.length = 8 := by omega
    rw [e] at hv
    omega

/-- How many elements a slice value has. -/
def cnt : Value → Nat | .slice _ n _ => n | _ => 0
set_option maxRecDepth 100000 in
set_option maxHeartbeats 1000000 in
/-- What the reference makes: bytes of a variable number of v, at most nine, owned by the call. -/
theorem spec_any (v least : Nat) (hv0 : v < 9223372036854775808) (hleast : least ≤ 9) (w : World) :
    Calls Try.prog 5 #[.int .u64 (v : Int), .int .i64 (least : Int)] w fun e w' => ∃ v' l, e = .returned v' ∧ w'.ownsRow w.heap.size 5 1 v' l.length (Lib.byteCells l) ∧ Enc l v ∧ Below w.heap.size w w' := by
  obtain ⟨i0, hi, hz0, hz1, hz2⟩ := info_parts info5
  have HB := Lib.hid hv0
  clear hv0
  go_enter Try.func5, Try.ntmps5
  go_wp2
  go_loopw [0, 5] (fun vy vo wr => ∃ (y : Nat) (pre : List UInt8), vy = .int .u64 y ∧ pre.length ≤ 8 ∧ (∀ x ∈ pre, 128 ≤ x.toNat) ∧ Hid (val pre + 2 ^ (7 * pre.length) * y = v) ∧ wr.ownsRow w.heap.size 5 1 vo pre.length (Lib.byteCells pre) ∧ Below w.heap.size w wr)
    (fun _ vo _ => 9 - cnt vo)
  case atStart => exact ⟨v, [], rfl, by simp, by simp, by show Hid _; unfold Hid; simp [val], by simpa [Lib.byteCells] using World.ownsRow_lit (base := w.heap.size) (e := 5) (size := 1) w #[] 0 (Nat.le_refl _) (by decide) (by simp), (Below.refl _ _).alloc (Nat.le_refl _) _⟩
  case round =>
    obtain ⟨y, pre, rfl, hpl, h8, HV, hown, hnx⟩ := hrel
    obtain ⟨A, c, rfl⟩ := own_form hown
    by_cases hgo : 128 ≤ y ∨ pre.length + 1 < least
    · have hlt : pre.length < 8 := by
        rcases hgo with h | h
        · exact few HV.out HB.out hpl h
        · omega
      have hor : bits .or .u8 ((y : Int) % 256) 128 = ((y % 128 + 128 : Nat) : Int) := by
        rw [Lib.u8_or128_any _ (by omega) (by omega)]
        omega
      have hor2 : y < 256 → bits .or .u8 (y : Int) 128 = ((y % 128 + 128 : Nat) : Int) := by
        intro h
        rw [Lib.u8_or128_any _ (by omega) (by omega)]
        omega
      have HR : Hid (val (pre ++ [(y % 128 + 128).toUInt8]) + 2 ^ (7 * (pre ++ [(y % 128 + 128).toUInt8]).length) * (y / 128) = v) := step_val HV.out
      have h8' : ∀ x ∈ pre ++ [(y % 128 + 128).toUInt8], 128 ≤ x.toNat := by
        intro x hx
        rcases List.mem_append.1 hx with h | h
        · exact h8 x h
        · rw [List.mem_singleton.1 h, Lib.toUInt8_toNat (by omega)]; omega
      have hs := hnx.size
      have HS : Hid (Lib.byteCells (pre ++ [(y % 128 + 128).toUInt8]) = Lib.byteCells pre ++ [Value.int .u8 ((y % 128 + 128 : Nat) : Int)]) := Lib.byteCells_snoc pre (by omega)
      by_cases h1 : 128 ≤ y
      all_goals
        try have hor3 := hor2 (by omega)
        clear hor2
        go_wp2_with (at_builtin; refine wpList_append_rd _ rfl _ _ 23 rfl w.heap.size 5 i0 (.int .u8 0) 1 Try.underlying23 hi hz0 hz1 hz2 rfl _ pre.length (Lib.byteCells pre) rfl (hown.alloc _) _ _ [Value.int .u8 ((y % 128 + 128 : Nat) : Int)] rfl (rd_one _ _ _) (by intro u hu; simp at hu; subst hu; rfl) (by simp; omega) (by simp; omega) (by simp; omega) ?_)
        intro v' w1 hown1 hgrow hat
        have hnx1 : Below w.heap.size w w1 := (hnx.alloc hs _).grown hgrow (by simp; omega) (own_ge hown)
        go_wp2
        go_roundw
        case rel => exact ⟨y / 128, _, by go_num, by simp; omega, h8', HR, by rw [HS.out, List.length_append, List.length_singleton]; exact hown1, hnx1⟩
        case measure =>
          obtain ⟨A', c', rfl⟩ := own_form hown1
          simp [cnt]; omega
    · have h1 : y < 128 := by omega
      have h2 : ¬ pre.length + 1 < least := by omega
      have HE : Hid (Enc (pre ++ [y.toUInt8]) v) := enc_snoc hpl h8 HV.out h1
      have hs := hnx.size
      have HS : Hid (Lib.byteCells (pre ++ [y.toUInt8]) = Lib.byteCells pre ++ [Value.int .u8 (y : Int)]) := Lib.byteCells_snoc pre (by omega)
      go_wp2_with (at_builtin; refine wpList_append_rd _ rfl _ _ 23 rfl w.heap.size 5 i0 (.int .u8 0) 1 Try.underlying23 hi hz0 hz1 hz2 rfl _ pre.length (Lib.byteCells pre) rfl (hown.alloc _) _ _ [Value.int .u8 (y : Int)] rfl (rd_one _ _ _) (by intro u hu; simp at hu; subst hu; rfl) (by simp; omega) (by simp; omega) (by simp; omega) ?_)
      intro v' w1 hown1 hgrow hat
      have hnx1 : Below w.heap.size w w1 := (hnx.alloc hs _).grown hgrow (by simp; omega) (own_ge hown)
      go_wp2
      go_ret
      exact ⟨v', pre ++ [y.toUInt8], rfl, by rw [HS.out, List.length_append, List.length_singleton]; exact hown1, HE.out, hnx1⟩
end Go.Proofs.Ytmplkbnajohheaa.Vi
