/- The walks of the package's times: a date's seconds, its struct, and what is read of it. -/
import Derived.Test.YtmplkbnajohheaaDosSpec
import Derived.WalkLawsBesides
import Derived.Laws.Pointers
namespace Go.Proofs.Ytmplkbnajohheaa.Dos
open Go.RowKit

set_option maxRecDepth 100000 in
set_option maxHeartbeats 1000000 in
theorem unixTime_any (s : Int) (hs0 : 0 ≤ s) (hs1 : s ≤ 1000000000000) (w : World) :
    Calls Try.prog 23 #[.int .i64 s, .int .i32 0] w fun e w' => e = .returned (.agg #[.int .u64 0, .int .i64 (s + 62135596800)]) ∧ Below w.heap.size w w' := by
  go_enter Try.func23, Try.ntmps23
  go_wp2
  exact bodyPost_ret (v := .agg #[.int .u64 0, .int .i64 (s + 62135596800)]) (by simp [results, Try.results23, go_sem]) rfl ⟨rfl, (Below.refl _ _).alloc (Nat.le_refl _) _⟩

set_option maxRecDepth 100000 in
set_option maxHeartbeats 1000000 in
theorem unix_any (s : Int) (hs0 : 0 ≤ s) (hs1 : s ≤ 1000000000000) (w : World) :
    Calls Try.prog 21 #[.int .i64 s, .int .i64 0] w fun e w' => e = .returned (.agg #[.int .u64 0, .int .i64 (s + 62135596800)]) ∧ Below w.heap.size w w' := by
  go_enter Try.func21, Try.ntmps21
  go_wp2_with fail
  refine (unixTime_any s hs0 hs1 _).mono ?_
  rintro e w1 ⟨rfl, hb1⟩
  have hc0 := hb1.cell (p := ⟨w.heap.size, 0, none⟩) (by simp)
  have hc1 := hb1.cell (p := ⟨w.heap.size, 1, none⟩) (by simp)
  have hf0 := hb1.frozen (p := ⟨w.heap.size, 0, none⟩) (by simp)
  have hf1 := hb1.frozen (p := ⟨w.heap.size, 1, none⟩) (by simp)
  go_wp2
  have hz : w.heap.size < w1.heap.size := by have := hb1.size; simp at this; omega
  exact bodyPost_ret (v := .agg #[.int .u64 0, .int .i64 (s + 62135596800)]) (by simp [results, Try.results21, go_sem, hc0, hc1]) rfl ⟨rfl, (((Below.refl _ _).alloc (Nat.le_refl _) _).trans (hb1.mono (by simp))).setCell (Nat.le_refl _) _ |>.setCell (Nat.le_refl _) _⟩

/-- A time's block read: the seconds from 1970 on. -/
theorem sec_any (t : Int) (p : Nat) (w : World) (hc0 : w.cell? ⟨p, 0, none⟩ = some (.int .u64 0)) (hc1 : w.cell? ⟨p, 1, none⟩ = some (.int .i64 t)) :
    Calls Try.prog 22 #[.pointer (some ⟨p, 0, none⟩)] w fun e w' => e = .returned (.int .i64 t) ∧ w = w' := by
  have hb : bits .and .u64 0 9223372036854775808 = 0 := by decide +kernel
  go_enter Try.func22, Try.ntmps22
  go_wp2
  go_ret
  exact ⟨rfl, rfl⟩

theorem unixSec_any (t : Int) (ht0 : 0 ≤ t) (ht1 : t ≤ 2000000000000) (p : Nat) (w : World) (hc0 : w.cell? ⟨p, 0, none⟩ = some (.int .u64 0)) (hc1 : w.cell? ⟨p, 1, none⟩ = some (.int .i64 t)) :
    Calls Try.prog 19 #[.pointer (some ⟨p, 0, none⟩)] w fun e w' => e = .returned (.int .i64 (t - 62135596800)) ∧ w = w' := by
  go_enter Try.func19, Try.ntmps19
  go_wp2_with (go_at_call 22; refine (sec_any t p _ hc0 hc1).mono ?_; rintro e w' ⟨rfl, rfl⟩)
  go_ret
  exact ⟨by go_num, rfl⟩

theorem timeUnix_any (t : Int) (ht0 : 0 ≤ t) (ht1 : t ≤ 2000000000000) (w : World) :
    Calls Try.prog 15 #[.agg #[.int .u64 0, .int .i64 t]] w fun e w' => e = .returned (.int .i64 (t - 62135596800)) ∧ Below w.heap.size w w' := by
  go_enter Try.func15, Try.ntmps15
  go_wp2_with (go_at_call 19; refine (unixSec_any t ht0 ht1 w.heap.size _ (by simp [go_sem]) (by simp [go_sem])).mono ?_; rintro e w' ⟨rfl, rfl⟩)
  go_ret
  exact ⟨rfl, (Below.refl _ _).alloc (Nat.le_refl _) _⟩

theorem ix0 (w : World) : (Instr.index 47 (.agg #[.int .i64 31, .int .i64 28, .int .i64 31, .int .i64 30, .int .i64 31, .int .i64 30, .int .i64 31, .int .i64 31, .int .i64 30, .int .i64 31, .int .i64 30, .int .i64 31]) (.int .i64 0)).run Try.prog w = .ok (.int .i64 31) w := by kernel_rfl
theorem ix1 (w : World) : (Instr.index 47 (.agg #[.int .i64 31, .int .i64 28, .int .i64 31, .int .i64 30, .int .i64 31, .int .i64 30, .int .i64 31, .int .i64 31, .int .i64 30, .int .i64 31, .int .i64 30, .int .i64 31]) (.int .i64 1)).run Try.prog w = .ok (.int .i64 28) w := by kernel_rfl
theorem ix2 (w : World) : (Instr.index 47 (.agg #[.int .i64 31, .int .i64 28, .int .i64 31, .int .i64 30, .int .i64 31, .int .i64 30, .int .i64 31, .int .i64 31, .int .i64 30, .int .i64 31, .int .i64 30, .int .i64 31]) (.int .i64 2)).run Try.prog w = .ok (.int .i64 31) w := by kernel_rfl
theorem ix3 (w : World) : (Instr.index 47 (.agg #[.int .i64 31, .int .i64 28, .int .i64 31, .int .i64 30, .int .i64 31, .int .i64 30, .int .i64 31, .int .i64 31, .int .i64 30, .int .i64 31, .int .i64 30, .int .i64 31]) (.int .i64 3)).run Try.prog w = .ok (.int .i64 30) w := by kernel_rfl
theorem ix4 (w : World) : (Instr.index 47 (.agg #[.int .i64 31, .int .i64 28, .int .i64 31, .int .i64 30, .int .i64 31, .int .i64 30, .int .i64 31, .int .i64 31, .int .i64 30, .int .i64 31, .int .i64 30, .int .i64 31]) (.int .i64 4)).run Try.prog w = .ok (.int .i64 31) w := by kernel_rfl
theorem ix5 (w : World) : (Instr.index 47 (.agg #[.int .i64 31, .int .i64 28, .int .i64 31, .int .i64 30, .int .i64 31, .int .i64 30, .int .i64 31, .int .i64 31, .int .i64 30, .int .i64 31, .int .i64 30, .int .i64 31]) (.int .i64 5)).run Try.prog w = .ok (.int .i64 30) w := by kernel_rfl
theorem ix6 (w : World) : (Instr.index 47 (.agg #[.int .i64 31, .int .i64 28, .int .i64 31, .int .i64 30, .int .i64 31, .int .i64 30, .int .i64 31, .int .i64 31, .int .i64 30, .int .i64 31, .int .i64 30, .int .i64 31]) (.int .i64 6)).run Try.prog w = .ok (.int .i64 31) w := by kernel_rfl
theorem ix7 (w : World) : (Instr.index 47 (.agg #[.int .i64 31, .int .i64 28, .int .i64 31, .int .i64 30, .int .i64 31, .int .i64 30, .int .i64 31, .int .i64 31, .int .i64 30, .int .i64 31, .int .i64 30, .int .i64 31]) (.int .i64 7)).run Try.prog w = .ok (.int .i64 31) w := by kernel_rfl
theorem ix8 (w : World) : (Instr.index 47 (.agg #[.int .i64 31, .int .i64 28, .int .i64 31, .int .i64 30, .int .i64 31, .int .i64 30, .int .i64 31, .int .i64 31, .int .i64 30, .int .i64 31, .int .i64 30, .int .i64 31]) (.int .i64 8)).run Try.prog w = .ok (.int .i64 30) w := by kernel_rfl
theorem ix9 (w : World) : (Instr.index 47 (.agg #[.int .i64 31, .int .i64 28, .int .i64 31, .int .i64 30, .int .i64 31, .int .i64 30, .int .i64 31, .int .i64 31, .int .i64 30, .int .i64 31, .int .i64 30, .int .i64 31]) (.int .i64 9)).run Try.prog w = .ok (.int .i64 31) w := by kernel_rfl
theorem ix11 (w : World) : (Instr.index 47 (.agg #[.int .i64 31, .int .i64 28, .int .i64 31, .int .i64 30, .int .i64 31, .int .i64 30, .int .i64 31, .int .i64 31, .int .i64 30, .int .i64 31, .int .i64 30, .int .i64 31]) (.int .i64 11)).run Try.prog w = .ok (.int .i64 31) w := by kernel_rfl
theorem ix10 (w : World) : (Instr.index 47 (.agg #[.int .i64 31, .int .i64 28, .int .i64 31, .int .i64 30, .int .i64 31, .int .i64 30, .int .i64 31, .int .i64 31, .int .i64 30, .int .i64 31, .int .i64 30, .int .i64 31]) (.int .i64 10)).run Try.prog w = .ok (.int .i64 30) w := by kernel_rfl

set_option maxRecDepth 100000 in
set_option maxHeartbeats 4000000 in
theorem date_any (y m d h n s : Int) (hy0 : 1970 ≤ y) (hy1 : y ≤ 2107) (hm1 : 1 ≤ m) (hm2 : m ≤ 12) (hd1 : 1 ≤ d) (hd2 : d ≤ 31) (hh0 : 0 ≤ h) (hh1 : h ≤ 100) (hn0 : 0 ≤ n) (hn1 : n ≤ 100) (hs0 : 0 ≤ s) (hs1 : s ≤ 100) (w : World) :
    Calls Try.prog 18 #[.int .i64 y, .int .i64 m, .int .i64 d, .int .i64 h, .int .i64 n, .int .i64 s] w fun e w' => e = .returned (.agg #[.int .u64 0, .int .i64 (secs y m d h n s + 62135596800)]) ∧ Below w.heap.size w w' := by
  have E1 : Hid ((m - 1) / 12 = 0) := by show (m - 1) / 12 = 0; omega
  have E2 : Hid ((m - 1) % 12 = m - 1) := by show (m - 1) % 12 = m - 1; omega
  have E3 : Hid (decide (m - 1 < 0) = false) := decide_eq_false (by omega)
  go_enter Try.func18, Try.ntmps18
  go_wp2
  rw [E1.out, E2.out, E3.out, Int.add_zero]
  go_loop [15, 16] (fun vd vy => ∃ k : Int, 1970 ≤ k ∧ k ≤ y ∧ vy = .int .i64 k ∧ vd = .int .i64 (dby k)) (fun _ vy => (y - intOf vy).toNat)
  case atStart => exact ⟨1970, by omega, by omega, rfl, by rw [dby_1970]⟩
  case round =>
    obtain ⟨k, hk1, hk2, rfl, rfl⟩ := hrel
    have hkb := dby_bd hk1 (by omega)
    by_cases hlt : k < y
    · cases hl : leapB k
      · have HN : Hid (dby (k + 1) = dby k + 365) := dby_no hl
        go_wp2_with (go_at_call 20; refine (leap_any k hk1 (by omega) _).mono ?_; rintro e w' ⟨rfl, rfl⟩)
        go_round
        case rel => exact ⟨k + 1, by omega, by omega, rfl, by rw [HN.out]⟩
        case measure => simp [intOf]; omega
      · have HN : Hid (dby (k + 1) = dby k + 366) := dby_yes hl
        go_wp2_with (go_at_call 20; refine (leap_any k hk1 (by omega) _).mono ?_; rintro e w' ⟨rfl, rfl⟩)
        go_round
        case rel => exact ⟨k + 1, by omega, by omega, rfl, by rw [HN.out]; go_num⟩
        case measure => simp [intOf]; omega
    · have hk : k = y := by omega
      subst hk
      clear hlt hk2
      go_wp2
      go_loop [15, 46] (fun vd vi => ∃ i : Int, 0 ≤ i ∧ i < m ∧ vi = .int .i64 i ∧ vd = .int .i64 (dby k + cum k (i + 1))) (fun _ vi => (m - intOf vi).toNat)
      case atStart => exact ⟨0, by omega, by omega, rfl, by rw [show (0 : Int) + 1 = 1 from rfl, cum_one, Int.add_zero]⟩
      case round =>
        obtain ⟨i, hi0, hi1, rfl, hvd⟩ := hrel
        have hcb := cum_bd k (m := i + 1) (by omega) (by omega)
        have HC : Hid (cum k (i + 1 + 1) = cum k (i + 1) + dim k (i + 1)) := cum_step k (by omega) (by omega)
        obtain ⟨C, HC0⟩ : ∃ C, Hid (cum k (i + 1) = C) := ⟨_, rfl⟩
        rw [HC0.out] at hvd hcb HC
        subst hvd
        by_cases hlt : i < m - 1
        · have hne : (i == m - 1) = false := by simp; omega
          have h11 : i = 0 ∨ i = 1 ∨ i = 2 ∨ i = 3 ∨ i = 4 ∨ i = 5 ∨ i = 6 ∨ i = 7 ∨ i = 8 ∨ i = 9 ∨ i = 10 := by omega
          by_cases h1 : i = 1
          · clear h11
            subst h1
            have hx := ix1
            have hk3 : k ≤ 3000 := by omega
            cases hl : leapB k
            · have HD : Hid (dim k (1 + 1) = 28) := by show dim k (1 + 1) = 28; simp [dim, hl]
              go_wp2_with (go_at_call 20; refine (leap_any k hk1 hk3 _).mono ?_; rintro e w' ⟨rfl, rfl⟩)
              go_round
              case rel => exact ⟨1 + 1, by omega, by omega, rfl, by rw [HC.out, HD.out]; go_num⟩
              case measure => simp [intOf]; omega
            · have HD : Hid (dim k (1 + 1) = 29) := by show dim k (1 + 1) = 29; simp [dim, hl]
              go_wp2_with (go_at_call 20; refine (leap_any k hk1 hk3 _).mono ?_; rintro e w' ⟨rfl, rfl⟩)
              go_round
              case rel => exact ⟨1 + 1, by omega, by omega, rfl, by rw [HC.out, HD.out]; go_num⟩
              case measure => simp [intOf]; omega
          · rcases h11 with rfl | rfl | rfl | rfl | rfl | rfl | rfl | rfl | rfl | rfl | rfl
            · have hx := ix0
              have HD : Hid (dim k (0 + 1) = 31) := by show dim k (0 + 1) = 31; simp [dim]
              go_wp2
              go_round
              case rel => exact ⟨0 + 1, by omega, by omega, rfl, by rw [HC.out, HD.out]; go_num⟩
              case measure => simp [intOf]; omega
            · exact absurd rfl h1
            · have hx := ix2
              have HD : Hid (dim k (2 + 1) = 31) := by show dim k (2 + 1) = 31; simp [dim]
              go_wp2
              go_round
              case rel => exact ⟨2 + 1, by omega, by omega, rfl, by rw [HC.out, HD.out]; go_num⟩
              case measure => simp [intOf]; omega
            · have hx := ix3
              have HD : Hid (dim k (3 + 1) = 30) := by show dim k (3 + 1) = 30; simp [dim]
              go_wp2
              go_round
              case rel => exact ⟨3 + 1, by omega, by omega, rfl, by rw [HC.out, HD.out]; go_num⟩
              case measure => simp [intOf]; omega
            · have hx := ix4
              have HD : Hid (dim k (4 + 1) = 31) := by show dim k (4 + 1) = 31; simp [dim]
              go_wp2
              go_round
              case rel => exact ⟨4 + 1, by omega, by omega, rfl, by rw [HC.out, HD.out]; go_num⟩
              case measure => simp [intOf]; omega
            · have hx := ix5
              have HD : Hid (dim k (5 + 1) = 30) := by show dim k (5 + 1) = 30; simp [dim]
              go_wp2
              go_round
              case rel => exact ⟨5 + 1, by omega, by omega, rfl, by rw [HC.out, HD.out]; go_num⟩
              case measure => simp [intOf]; omega
            · have hx := ix6
              have HD : Hid (dim k (6 + 1) = 31) := by show dim k (6 + 1) = 31; simp [dim]
              go_wp2
              go_round
              case rel => exact ⟨6 + 1, by omega, by omega, rfl, by rw [HC.out, HD.out]; go_num⟩
              case measure => simp [intOf]; omega
            · have hx := ix7
              have HD : Hid (dim k (7 + 1) = 31) := by show dim k (7 + 1) = 31; simp [dim]
              go_wp2
              go_round
              case rel => exact ⟨7 + 1, by omega, by omega, rfl, by rw [HC.out, HD.out]; go_num⟩
              case measure => simp [intOf]; omega
            · have hx := ix8
              have HD : Hid (dim k (8 + 1) = 30) := by show dim k (8 + 1) = 30; simp [dim]
              go_wp2
              go_round
              case rel => exact ⟨8 + 1, by omega, by omega, rfl, by rw [HC.out, HD.out]; go_num⟩
              case measure => simp [intOf]; omega
            · have hx := ix9
              have HD : Hid (dim k (9 + 1) = 31) := by show dim k (9 + 1) = 31; simp [dim]
              go_wp2
              go_round
              case rel => exact ⟨9 + 1, by omega, by omega, rfl, by rw [HC.out, HD.out]; go_num⟩
              case measure => simp [intOf]; omega
            · have hx := ix10
              have HD : Hid (dim k (10 + 1) = 30) := by show dim k (10 + 1) = 30; simp [dim]
              go_wp2
              go_round
              case rel => exact ⟨10 + 1, by omega, by omega, rfl, by rw [HC.out, HD.out]; go_num⟩
              case measure => simp [intOf]; omega
        · have HI : Hid (i = m - 1) := by show i = m - 1; omega
          have hne : (i == m - 1) = true := by simp; omega
          have h11 : i = 0 ∨ i = 1 ∨ i = 2 ∨ i = 3 ∨ i = 4 ∨ i = 5 ∨ i = 6 ∨ i = 7 ∨ i = 8 ∨ i = 9 ∨ i = 10 ∨ i = 11 := by omega
          have hx : ∃ q : Int, ∀ w : World, (Instr.index 47 (.agg #[.int .i64 31, .int .i64 28, .int .i64 31, .int .i64 30, .int .i64 31, .int .i64 30, .int .i64 31, .int .i64 31, .int .i64 30, .int .i64 31, .int .i64 30, .int .i64 31]) (.int .i64 i)).run Try.prog w = .ok (.int .i64 q) w := by
            rcases h11 with rfl | rfl | rfl | rfl | rfl | rfl | rfl | rfl | rfl | rfl | rfl | rfl
            · exact ⟨_, ix0⟩
            · exact ⟨_, ix1⟩
            · exact ⟨_, ix2⟩
            · exact ⟨_, ix3⟩
            · exact ⟨_, ix4⟩
            · exact ⟨_, ix5⟩
            · exact ⟨_, ix6⟩
            · exact ⟨_, ix7⟩
            · exact ⟨_, ix8⟩
            · exact ⟨_, ix9⟩
            · exact ⟨_, ix10⟩
            · exact ⟨_, ix11⟩
          obtain ⟨q, hx⟩ := hx
          have hi12 : i < 12 := by omega
          have HS : Hid (secs k m d h n s = (dby k + C + (d - 1)) * 86400 + h * 3600 + n * 60 + s) := by
            have hc := HC0.out
            rw [HI.out, show m - 1 + 1 = m from by omega] at hc
            show secs k m d h n s = _
            rw [secs, hc]
          clear h11 hlt hi1
          go_wp2_with fail
          refine (unix_any _ (by omega) (by omega) _).mono ?_
          rintro e w1 ⟨rfl, hb1⟩
          have hc0 := hb1.cell (p := ⟨w.heap.size, 0, none⟩) (by simp)
          have hc1 := hb1.cell (p := ⟨w.heap.size, 1, none⟩) (by simp)
          have hf0 := hb1.frozen (p := ⟨w.heap.size, 0, none⟩) (by simp)
          have hf1 := hb1.frozen (p := ⟨w.heap.size, 1, none⟩) (by simp)
          have hz : w.heap.size < w1.heap.size := by have := hb1.size; simp at this; omega
          go_wp2
          exact bodyPost_ret (v := .agg #[.int .u64 0, .int .i64 ((dby k + C + (d - 1)) * 86400 + h * 3600 + n * 60 + s + 62135596800)]) (by simp [results, Try.results18, go_sem, hc0, hc1]) rfl ⟨by rw [HS.out], (((Below.refl _ _).alloc (Nat.le_refl _) _).trans (hb1.mono (by simp))).setCell (Nat.le_refl _) _ |>.setCell (Nat.le_refl _) _⟩
end Go.Proofs.Ytmplkbnajohheaa.Dos
