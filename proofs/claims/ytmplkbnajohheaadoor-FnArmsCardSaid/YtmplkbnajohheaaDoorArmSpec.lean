/- The walk of the reference's calls of ARM. -/
import Derived.Test.YtmplkbnajohheaaDoorArmPlain
import Derived.Test.YtmplkbnajohheaaDoorClone
import Derived.BigQuiet
import Derived.Lib.EndianBits
import Derived.Deep.QuietTactic
import Derived.WalkSmall
namespace Go.Proofs.YtmplkbnajohheaaDoor.Arm
open Go.RowKit Go.Proofs.YtmplkbnajohheaaDoor.Aid Go.Proofs.YtmplkbnajohheaaDoor.Base

theorem or_i64 (i : Nat) (y x : Int) (hy0 : 0 ≤ y) (hy : y < 2 ^ i) (hx0 : 0 ≤ x) (hx : x % 2 ^ i = 0) (hy1 : y < 4294967296) (hx1 : x < 4294967296) : bits .or .i64 y x = y + x :=
  bits_join_low .i64 62 (by decide) (fun n a b => by rw [IntKind.wrap_i64]; omega) i y x hy0 hy (by omega) hx0 hx (by omega)

set_option maxRecDepth 100000 in
set_option maxHeartbeats 2000000 in
theorem spec_any (v : Value) (l : List UInt8) (B off : Nat) (w : World) (hr : Rd w B v (Lib.byteCells l)) (hB : B ≤ w.heap.size) (hl : l.length ≤ 4096) (ho : off ≤ 8388608) :
    Calls Tryd.prog 10 #[v, .int .i64 (off : Int)] w fun e w' => ∃ g cap, e = .returned (.slice (some ⟨g, 0, none⟩) l.length cap) ∧ Own w' w.heap.size 5 g cap (upto off l (l.length / 4)) ∧ Below w.heap.size w w' := by
  obtain ⟨i0, hi, hz0, hz1, hz2⟩ := info_parts infoB
  go_enter Tryd.func10, Tryd.ntmps10
  go_wp2_with (at_builtin; refine wpList_append_bytes _ rfl _ _ 22 rfl w.heap.size 5 i0 (.int .u8 0) Tryd.underlying22 hi hz0 hz1 hz2 rfl w.heap.size 0 [] rfl (own_nil w 5) B _ l rfl (hr.alloc hB _) (by simp; omega) (by simp) ?_)
  intro g cap w1 hown hgrow hat
  have hb1 : Below w.heap.size w w1 := ((Below.refl _ _).alloc (Nat.le_refl _) _).grown hgrow (by simp) (by intro k hk; simp at hk; omega)
  clear hgrow hat
  go_wp2
  go_loopw [6] (fun vk wr => ∃ (m k : Nat) (t : List UInt8), vk = .int .i64 (k : Int) ∧ Hid (k = 4 * m) ∧ k ≤ l.length ∧ Hid (t = upto off l m) ∧ Hid (t.length = l.length) ∧ Own wr w.heap.size 5 g cap t ∧ Below w.heap.size w wr)
    (fun vk _ => l.length - (intOf vk).toNat)
  case atStart => exact ⟨0, 0, l, rfl, rfl, by omega, rfl, rfl, hown, hb1⟩
  case round =>
    obtain ⟨m, k, t, rfl, HK, hk, HT, HLEN, hownr, hbr⟩ := hrel
    by_cases hlt : k + 4 ≤ l.length
    · have hkt : k + 4 ≤ t.length := by rw [HLEN.out]; exact hlt
      have c0 := hownr.cell (j := k) (by omega)
      have c1 := hownr.cell (j := k + 1) (by omega)
      have c2 := hownr.cell (j := k + 2) (by omega)
      have c3 := hownr.cell (j := k + 3) (by omega)
      have hf := hownr.frozen
      have HS := fun h => step_hit (off := off) (k := k) (l := t) h
      have HS' := fun h => step_miss (off := off) (k := k) (l := t) h
      have y0 := (t.getD k 0).toNat_lt
      have y1 := (t.getD (k + 1) 0).toNat_lt
      have y2 := (t.getD (k + 2) 0).toNat_lt
      have HN : Hid (num off k t = ((t.getD k 0).toNat : Int) + ((t.getD (k + 1) 0).toNat : Int) * 256 + ((t.getD (k + 2) 0).toNat : Int) * 65536 - ((off : Int) + k) / 4) := by
        show num off k t = _
        rw [num]; omega
      generalize num off k t = N at HN HS
      generalize (t.getD (k + 3) 0) = x3 at c3 HS HS'
      generalize t.getD k 0 = x0 at c0 HN y0
      generalize t.getD (k + 1) 0 = x1 at c1 HN y1
      generalize t.getD (k + 2) 0 = x2 at c2 HN y2
      have HLS : Hid ((step off k t).length = l.length) := (step_length off k t).trans HLEN.out
      have HU : Hid (step off k t = upto off l (m + 1)) := by show step off k t = upto off l (m + 1); rw [upto, ← HT.out, ← HK.out]
      have HK4 : Hid (k + 4 = 4 * (m + 1)) := by have := HK.out; show k + 4 = 4 * (m + 1); omega
      clear hkt
      by_cases h3 : (x3.toNat : Int) = 235
      · have HS1 := Lib.hid (HS h3)
        clear HS HS'
        have o1 : bits .or .i64 (x0.toNat : Int) ((x1.toNat : Int) * 256) = (x0.toNat : Int) + (x1.toNat : Int) * 256 := or_i64 8 _ _ (by omega) (by omega) (by omega) (by omega) (by omega) (by omega)
        have o2 : bits .or .i64 ((x0.toNat : Int) + (x1.toNat : Int) * 256) ((x2.toNat : Int) * 65536) = (x0.toNat : Int) + (x1.toNat : Int) * 256 + (x2.toNat : Int) * 65536 := or_i64 16 _ _ (by omega) (by omega) (by omega) (by omega) (by omega) (by omega)
        go_wp2_with fail
        go_quiet (fail)
        go_wp2
        rw [← HN.out]
        go_roundw
        case rel =>
          have hd : wr.drewN nq = wr.drewN nq := rfl
          refine ⟨m + 1, k + 4, step off k t, by go_num, HK4, by omega, HU, HLS, ?_, ?_⟩
          · rw [HS1.out]
            exact (((hownr.drewN nq).set k N _ rfl).set (k + 1) (N / 256) _ rfl).set (k + 2) (N / 65536) _ rfl
          · exact (((below_drewN hbr nq).setCell hownr.base_le _).setCell hownr.base_le _).setCell hownr.base_le _
        case measure => simp [intOf]; omega
      · have HS1 := Lib.hid (HS' h3)
        clear HS HS'
        go_wp2
        go_roundw
        case rel => exact ⟨m + 1, k + 4, step off k t, by go_num, HK4, by omega, HU, HLS, by rw [HS1.out]; exact hownr, hbr⟩
        case measure => simp [intOf]; omega
    · have HM : Hid (upto off l (l.length / 4) = t) := by
        have := HK.out
        show upto off l (l.length / 4) = t
        rw [HT.out, show l.length / 4 = m from by omega]
      go_wp2
      go_ret
      exact ⟨g, cap, rfl, by rw [HM.out]; exact hownr, hbr⟩
end Go.Proofs.YtmplkbnajohheaaDoor.Arm
