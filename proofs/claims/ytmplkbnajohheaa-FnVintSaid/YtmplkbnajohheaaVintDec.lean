/- The walk of the decoder's function of variable numbers, at bytes that begin with such a number. -/
import Derived.Test.YtmplkbnajohheaaVintSpec
import Derived.Lib.VarintBits
namespace Go.Proofs.Ytmplkbnajohheaa.Vi
open Go.RowKit Go.Proofs.Ytmplkbnajohheaa.Aid

theorem or_low (acc y k : Nat) (hk : k ≤ 8) (hacc : acc < 2 ^ (7 * k)) (hy : y < 128) :
    bits .or .u64 (acc : Int) (IntKind.u64.wrap ((y : Int) * 2 ^ (7 * k))) = ((acc + 2 ^ (7 * k) * y : Nat) : Int) := by
  have hP : 2 ^ (7 * k) ≤ 2 ^ 56 := Nat.pow_le_pow_right (by omega) (by omega)
  have hm : y * 2 ^ (7 * k) ≤ 127 * 2 ^ (7 * k) := Nat.mul_le_mul_right _ (by omega)
  have hmod : (y * 2 ^ (7 * k)) % 2 ^ (7 * k) = 0 := Nat.mul_mod_left _ _
  have hcast : ((y : Int) * 2 ^ (7 * k)) = ((y * 2 ^ (7 * k) : Nat) : Int) := by simp
  rw [hcast, wraps_u64 _ (by omega) (by omega), bits_join_low .u64 64 (by decide) wraps_u64 (7 * k) _ _ (by omega) (by exact_mod_cast hacc) (by omega) (by omega) (by exact_mod_cast hmod) (by omega), Nat.mul_comm]
  simp
theorem val_take {pre : List UInt8} {k : Nat} (hk : k < pre.length) : val (pre.take (k + 1)) = val (pre.take k) + 2 ^ (7 * k) * ((pre[k]).toNat % 128) := by
  rw [List.take_succ_eq_append_getElem hk, val_snoc, List.length_take, Nat.min_eq_left (by omega)]
theorem val_lt : ∀ l : List UInt8, val l < 2 ^ (7 * l.length)
  | [] => by simp [val]
  | b :: r => by
    have h := val_lt r
    have e : 2 ^ (7 * (b :: r).length) = 128 * 2 ^ (7 * r.length) := by
      rw [List.length_cons, Nat.mul_add, Nat.pow_add]; omega
    rw [e]
    simp only [val]
    omega
theorem val_take_lt (pre : List UInt8) {k : Nat} (hk : k ≤ pre.length) : val (pre.take k) < 2 ^ (7 * k) := by
  have h := val_lt (pre.take k)
  rwa [List.length_take, Nat.min_eq_left hk] at h

set_option maxRecDepth 100000 in
set_option maxHeartbeats 1000000 in
theorem uvarint_any (pre tail : List UInt8) (b : UInt8) (hp : pre.length ≤ 8) (h8 : ∀ x ∈ pre, 128 ≤ x.toNat) (hb : b.toNat < 128) (g o n c : Nat) (w : World) (hn : n ≤ 200)
    (hl : pre.length + 1 + tail.length = n) (hcell : ∀ j u, (Lib.byteCells (pre ++ b :: tail))[j]? = some u → w.cell? ⟨g, o + j, none⟩ = some u) :
    Calls Try.prog 16 #[.slice (some ⟨g, o, none⟩) n c] w fun e w' => e = .returned (.tuple #[.int .u64 (val (pre ++ [b])), .int .i64 (pre.length + 1)]) ∧ w = w' := by
  have HL := Lib.hid hl
  have hn1 : pre.length + 1 ≤ n := by omega
  clear hl
  go_enter Try.func16, Try.ntmps16
  go_wp2
  go_loop [4, 5, 10] (fun vx vs vi => ∃ k : Nat, vi = .int .i64 k ∧ vs = .int .u64 ((7 * k : Nat) : Int) ∧ vx = .int .u64 (val (pre.take k)) ∧ k ≤ pre.length)
    (fun _ _ vi => n - (intOf vi).toNat)
  case atStart => exact ⟨0, rfl, rfl, rfl, by omega⟩
  case round =>
    obtain ⟨k, rfl, rfl, rfl, hk⟩ := hrel
    by_cases hlt : k < pre.length
    · have hx : (pre ++ b :: tail)[k]? = some pre[k] := by rw [List.getElem?_append_left hlt]; exact List.getElem?_eq_getElem hlt
      have hc := hcell k (.int .u8 (pre[k]).toNat) (by unfold Lib.byteCells; rw [List.getElem?_map, hx]; rfl)
      have hge := h8 pre[k] (List.getElem_mem hlt)
      have hlt256 := (pre[k]).toNat_lt
      have HV : Hid (val (pre.take (k + 1)) = val (pre.take k) + 2 ^ (7 * k) * ((pre[k]).toNat % 128)) := val_take hlt
      have HA : Hid (val (pre.take k) < 2 ^ (7 * k)) := val_take_lt pre hk
      generalize pre[k] = x at hc hge hlt256 HV
      clear hcell hx h8
      generalize val (pre.take k) = acc at HV HA
      go_wp2
      go_round
      case rel =>
        refine ⟨k + 1, by go_num, by go_num, ?_, by omega⟩
        rw [HV.out, u8_and127 _ (by omega) (by omega), show (x.toNat : Int) % 128 = ((x.toNat % 128 : Nat) : Int) from by omega, wraps_u64 ((x.toNat % 128 : Nat) : Int) (by omega) (by omega), or_low acc _ k (by omega) HA.out (by omega)]
      case measure => simp [intOf]; omega
    · have hk2 : k = pre.length := by omega
      subst hk2
      have hx : (pre ++ b :: tail)[pre.length]? = some b := by rw [List.getElem?_append_right (by omega)]; simp
      have hc := hcell pre.length (.int .u8 b.toNat) (by unfold Lib.byteCells; rw [List.getElem?_map, hx]; rfl)
      rw [List.take_length]
      have HV : Hid (val (pre ++ [b]) = val pre + 2 ^ (7 * pre.length) * (b.toNat % 128)) := val_snoc b pre
      have HA : Hid (val pre < 2 ^ (7 * pre.length)) := val_lt pre
      clear hcell hx h8
      generalize val pre = acc at HV HA
      go_wp2
      go_ret2
      rw [HV.out, Nat.mod_eq_of_lt hb, ← or_low acc _ _ hp HA.out hb]
      exact ⟨rfl, rfl⟩
end Go.Proofs.Ytmplkbnajohheaa.Vi
