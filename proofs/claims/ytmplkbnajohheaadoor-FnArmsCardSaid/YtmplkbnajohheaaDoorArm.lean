/- The walk of the package's filter of ARM over a row of bytes that the caller owns. -/
import Derived.Test.YtmplkbnajohheaaDoorArmSpec
namespace Go.Proofs.YtmplkbnajohheaaDoor.Arm
open Go.RowKit Go.Proofs.YtmplkbnajohheaaDoor.Aid Go.Proofs.YtmplkbnajohheaaDoor.Base

theorem lo0 (N : Int) : IntKind.u64.wrap N % 256 = N % 256 := by rw [IntKind.wrap_u64]; omega
theorem lo1 (N : Int) : IntKind.u64.wrap N / 256 % 256 = N / 256 % 256 := by rw [IntKind.wrap_u64]; omega
theorem lo2 (N : Int) : IntKind.u64.wrap N / 65536 % 256 = N / 65536 % 256 := by rw [IntKind.wrap_u64]; omega

set_option maxRecDepth 100000 in
set_option maxHeartbeats 2000000 in
theorem filter_any (l : List UInt8) (g cap base off : Nat) (w : World) (hown : Own w base 5 g cap l) (hl : l.length ≤ 4096) (ho : off ≤ 8388608) :
    Calls Tryd.prog 19 #[.slice (some ⟨g, 0, none⟩) l.length cap, .int .i64 (off : Int)] w fun e w' => e = .returned (.tuple #[.slice (some ⟨g, 0, none⟩) l.length cap, .nilIface]) ∧ Own w' base 5 g cap (upto off l (l.length / 4)) ∧ Below base w w' := by
  go_enter Tryd.func19, Tryd.ntmps19
  go_wp2
  go_loopw [6] (fun vk wr => ∃ (m k : Nat) (t : List UInt8), vk = .int .i64 (k : Int) ∧ Hid (k = 4 * m) ∧ k ≤ l.length ∧ Hid (t = upto off l m) ∧ Hid (t.length = l.length) ∧ Own wr base 5 g cap t ∧ Below base w wr)
    (fun vk _ => l.length - (intOf vk).toNat)
  case atStart => exact ⟨0, 0, l, rfl, rfl, by omega, rfl, rfl, hown, Below.refl _ _⟩
  case round =>
    obtain ⟨m, k, t, rfl, HK, hk, HT, HLEN, hownr, hbr⟩ := hrel
    by_cases hlt : k + 4 ≤ l.length
    · have hkt : k + 4 ≤ t.length := by rw [HLEN.out]; exact hlt
      have c0 := hownr.cell (j := k) (by omega)
      have c1 := hownr.cell (j := k + 1) (by omega)
      have c2 := hownr.cell (j := k + 2) (by omega)
      have c3 := hownr.cell (j := k + 3) (by omega)
      have hf := hownr.frozen
      have HS := fun h => step_hit (off := off) (k := k) (l := t) h
      have HS' := fun h => step_miss (off := off) (k := k) (l := t) h
      have y0 := (t.getD k 0).toNat_lt
      have y1 := (t.getD (k + 1) 0).toNat_lt
      have y2 := (t.getD (k + 2) 0).toNat_lt
      have HN : Hid (num off k t = ((t.getD k 0).toNat : Int) + ((t.getD (k + 1) 0).toNat : Int) * 256 + ((t.getD (k + 2) 0).toNat : Int) * 65536 - ((off : Int) + k) / 4) := by
        show num off k t = _
        rw [num]; omega
      generalize num off k t = N at HN HS
      generalize (t.getD (k + 3) 0) = x3 at c3 HS HS'
      generalize t.getD k 0 = x0 at c0 HN y0
      generalize t.getD (k + 1) 0 = x1 at c1 HN y1
      generalize t.getD (k + 2) 0 = x2 at c2 HN y2
      have HLS : Hid ((step off k t).length = l.length) := (step_length off k t).trans HLEN.out
      have HU : Hid (step off k t = upto off l (m + 1)) := by show step off k t = upto off l (m + 1); rw [upto, ← HT.out, ← HK.out]
      have HK4 : Hid (k + 4 = 4 * (m + 1)) := by have := HK.out; show k + 4 = 4 * (m + 1); omega
      clear hkt
      by_cases h3 : (x3.toNat : Int) = 235
      · have HS1 := Lib.hid (HS h3)
        clear HS HS'
        go_wp2
        go_roundw
        case rel =>
          refine ⟨m + 1, k + 4, step off k t, by go_num, HK4, by omega, HU, HLS, ?_, ?_⟩
          · rw [← HN.out, HS1.out]
            exact ((hownr.set k N _ (lo0 N)).set (k + 1) (N / 256) _ (lo1 N)).set (k + 2) (N / 65536) _ (lo2 N)
          · exact ((hbr.setCell hownr.base_le _).setCell hownr.base_le _).setCell hownr.base_le _
        case measure => simp [intOf]; omega
      · have HS1 := Lib.hid (HS' h3)
        clear HS HS'
        go_wp2
        go_roundw
        case rel => exact ⟨m + 1, k + 4, step off k t, by go_num, HK4, by omega, HU, HLS, by rw [HS1.out]; exact hownr, hbr⟩
        case measure => simp [intOf]; omega
    · have HM : Hid (upto off l (l.length / 4) = t) := by
        have := HK.out
        show upto off l (l.length / 4) = t
        rw [HT.out, show l.length / 4 = m from by omega]
      go_wp2
      go_ret2
      exact ⟨rfl, by rw [HM.out]; exact hownr, hbr⟩

set_option maxRecDepth 100000 in
set_option maxHeartbeats 2000000 in
theorem zz_any (u : Value) (l : List UInt8) (off : Nat) (w : World) (hr : Rd w w.heap.size u (Lib.byteCells l)) (hl : l.length ≤ 4096) (ho : off ≤ 8388608) :
    Calls Tryd.prog 14 #[.int .i64 3, .int .i64 0, .int .i64 (off : Int), u] w fun e w' => ∃ x, e = .returned (.tuple #[x, .nilIface]) ∧ Rd w' w'.heap.size x (Lib.byteCells (upto off l (l.length / 4))) ∧ Below w.heap.size w w' := by
  obtain ⟨i0, hi, hz0, hz1, hz2⟩ := info_parts infoB
  go_enter Tryd.func14, Tryd.ntmps14
  go_wp2_with (at_builtin; refine wpList_append_bytes _ rfl _ _ 22 rfl w.heap.size 5 i0 (.int .u8 0) Tryd.underlying22 hi hz0 hz1 hz2 rfl w.heap.size 0 [] rfl (own_nil w 5) w.heap.size _ l rfl (hr.alloc (Nat.le_refl _) _) (by simp; omega) (by simp) ?_)
  intro g cap w1 hown hgrow hat
  have hb1 : Below w.heap.size w w1 := ((Below.refl _ _).alloc (Nat.le_refl _) _).grown hgrow (by simp) (by intro k hk; simp at hk; omega)
  clear hgrow hat
  go_wp2_with (go_at_call 19; refine (filter_any l g cap w.heap.size off _ hown hl ho).mono ?_; rintro e w2 ⟨rfl, hown2, hb2⟩)
  go_ret2
  refine ⟨_, rfl, ?_, hb1.trans hb2⟩
  have h := hown2.rd
  rw [upto_length] at h
  exact h
end Go.Proofs.YtmplkbnajohheaaDoor.Arm
