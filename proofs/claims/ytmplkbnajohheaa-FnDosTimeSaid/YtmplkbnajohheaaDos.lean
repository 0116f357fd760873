/- The walks of a time of DOS, read; the export; the thin package. -/
import Derived.Test.YtmplkbnajohheaaDosDate
import Derived.Laws.BitsAllLaws
namespace Go.Proofs.Ytmplkbnajohheaa.Dos
open Go.RowKit

/-- A time of DOS as a number. -/
def dosT (y m d h n s : Int) : Int := (y - 1980) * 33554432 + m * 2097152 + d * 65536 + h * 2048 + n * 32 + s

theorem mask5 (x : Int) (h0 : 0 ≤ x) (h1 : x < 4294967296) : bits .and .i64 x 31 = x % 32 := bits_mask .i64 62 (by decide) (fun n a b => by rw [IntKind.wrap_i64]; omega) 5 (by decide) x h0 (by omega)
theorem mask6 (x : Int) (h0 : 0 ≤ x) (h1 : x < 4294967296) : bits .and .i64 x 63 = x % 64 := bits_mask .i64 62 (by decide) (fun n a b => by rw [IntKind.wrap_i64]; omega) 6 (by decide) x h0 (by omega)
theorem mask4 (x : Int) (h0 : 0 ≤ x) (h1 : x < 4294967296) : bits .and .i64 x 15 = x % 16 := bits_mask .i64 62 (by decide) (fun n a b => by rw [IntKind.wrap_i64]; omega) 4 (by decide) x h0 (by omega)
theorem mask7 (x : Int) (h0 : 0 ≤ x) (h1 : x < 4294967296) : bits .and .i64 x 127 = x % 128 := bits_mask .i64 62 (by decide) (fun n a b => by rw [IntKind.wrap_i64]; omega) 7 (by decide) x h0 (by omega)

theorem join (i : Nat) (x y : Int) (hx0 : 0 ≤ x) (hx : x % 2 ^ i = 0) (hx1 : x < 4294967296) (hy0 : 0 ≤ y) (hy : y < 2 ^ i) (hy1 : y < 4294967296) : bits .or .u32 x y = x + y :=
  bits_join .u32 32 (by decide) (fun n a b => by rw [IntKind.wrap_u32]; omega) i x y hx0 hx (by omega) hy0 hy (by omega)
theorem or_dos {y m d h n s : Int} (hy0 : 1980 ≤ y) (hy1 : y ≤ 2107) (hm1 : 1 ≤ m) (hm2 : m ≤ 12) (hd1 : 1 ≤ d) (hd2 : d ≤ 31) (hh0 : 0 ≤ h) (hh1 : h < 24) (hn0 : 0 ≤ n) (hn1 : n < 60) (hs0 : 0 ≤ s) (hs1 : s < 30) :
    bits .or .u32 (bits .or .u32 (bits .or .u32 (bits .or .u32 (bits .or .u32 ((y - 1980) * 33554432) (m * 2097152)) (d * 65536)) (h * 2048)) (n * 32)) s = dosT y m d h n s := by
  rw [join 25 ((y - 1980) * 33554432) (m * 2097152) (by omega) (by omega) (by omega) (by omega) (by omega) (by omega), join 21 ((y - 1980) * 33554432 + m * 2097152) (d * 65536) (by omega) (by omega) (by omega) (by omega) (by omega) (by omega),
    join 16 ((y - 1980) * 33554432 + m * 2097152 + d * 65536) (h * 2048) (by omega) (by omega) (by omega) (by omega) (by omega) (by omega), join 11 ((y - 1980) * 33554432 + m * 2097152 + d * 65536 + h * 2048) (n * 32) (by omega) (by omega) (by omega) (by omega) (by omega) (by omega),
    join 5 ((y - 1980) * 33554432 + m * 2097152 + d * 65536 + h * 2048 + n * 32) s (by omega) (by omega) (by omega) (by omega) (by omega) (by omega)]
  rfl

set_option maxRecDepth 100000 in
set_option maxHeartbeats 2000000 in
theorem parse_any (y m d h n s : Int) (hy0 : 1980 ≤ y) (hy1 : y ≤ 2107) (hm1 : 1 ≤ m) (hm2 : m ≤ 12) (hd1 : 1 ≤ d) (hd2 : d ≤ 31) (hh0 : 0 ≤ h) (hh1 : h < 24) (hn0 : 0 ≤ n) (hn1 : n < 60) (hs0 : 0 ≤ s) (hs1 : s < 30) (w : World) :
    Calls Try.prog 14 #[.int .u32 (dosT y m d h n s)] w fun e w' => e = .returned (.agg #[.int .u64 0, .int .i64 (secs y m d h n (s * 2) + 62135596800)]) ∧ Below w.heap.size w w' := by
  obtain ⟨T, hT⟩ : ∃ T, dosT y m d h n s = T := ⟨_, rfl⟩
  rw [hT]
  unfold dosT at hT
  have hT0 : 0 ≤ T := by omega
  have hT1 : T < 4294967296 := by omega
  have b1 : bits .and .i64 T 31 = s := by rw [mask5 _ (by omega) (by omega)]; omega
  have b2 : bits .and .i64 (T / 32) 63 = n := by rw [mask6 _ (by omega) (by omega)]; omega
  have b3 : bits .and .i64 (T / 2048) 31 = h := by rw [mask5 _ (by omega) (by omega)]; omega
  have b4 : bits .and .i64 (T / 65536) 31 = d := by rw [mask5 _ (by omega) (by omega)]; omega
  have b5 : bits .and .i64 (T / 2097152) 15 = m := by rw [mask4 _ (by omega) (by omega)]; omega
  have b6 : bits .and .i64 (T / 33554432) 127 = y - 1980 := by rw [mask7 _ (by omega) (by omega)]; omega
  clear hT
  go_enter Try.func14, Try.ntmps14
  go_wp2_with fail
  refine (date_any y m d h n (s * 2) (by omega) hy1 hm1 hm2 hd1 hd2 hh0 (by omega) hn0 (by omega) (by omega) (by omega) _).mono ?_
  rintro e w1 ⟨rfl, hb1⟩
  have hc0 := hb1.cell (p := ⟨w.heap.size, 0, none⟩) (by simp)
  have hc1 := hb1.cell (p := ⟨w.heap.size, 1, none⟩) (by simp)
  have hf0 := hb1.frozen (p := ⟨w.heap.size, 0, none⟩) (by simp)
  have hf1 := hb1.frozen (p := ⟨w.heap.size, 1, none⟩) (by simp)
  go_wp2
  exact bodyPost_ret (v := .agg #[.int .u64 0, .int .i64 (secs y m d h n (s * 2) + 62135596800)]) (by simp [results, Try.results14, go_sem, hc0, hc1]) rfl ⟨rfl, (((Below.refl _ _).alloc (Nat.le_refl _) _).trans (hb1.mono (by simp))).setCell (Nat.le_refl _) _ |>.setCell (Nat.le_refl _) _⟩

theorem secs_bd {y m d h n s : Int} (hy0 : 1980 ≤ y) (hy1 : y ≤ 2107) (hm1 : 1 ≤ m) (hm2 : m ≤ 12) (hd1 : 1 ≤ d) (hd2 : d ≤ 31) (hh0 : 0 ≤ h) (hh1 : h < 24) (hn0 : 0 ≤ n) (hn1 : n < 60) (hs0 : 0 ≤ s) (hs1 : s < 60) : 0 ≤ secs y m d h n s ∧ secs y m d h n s ≤ 10000000000 := by
  have a := dby_bd (y := y) (by omega) (by omega)
  have b := cum_bd y (m := m) hm1 (by omega)
  unfold secs
  omega

set_option maxRecDepth 100000 in
theorem zzDos_any (y m d h n s : Int) (hy0 : 1980 ≤ y) (hy1 : y ≤ 2107) (hm1 : 1 ≤ m) (hm2 : m ≤ 12) (hd1 : 1 ≤ d) (hd2 : d ≤ 31) (hh0 : 0 ≤ h) (hh1 : h < 24) (hn0 : 0 ≤ n) (hn1 : n < 60) (hs0 : 0 ≤ s) (hs1 : s < 30) (w : World) :
    Calls Try.prog 12 #[.int .u32 (dosT y m d h n s)] w fun e w' => e = .returned (.int .i64 (secs y m d h n (s * 2))) ∧ Below w.heap.size w w' := by
  have hb := secs_bd hy0 hy1 hm1 hm2 hd1 hd2 hh0 hh1 hn0 hn1 (s := s * 2) (by omega) (by omega)
  go_enter Try.func12, Try.ntmps12
  go_wp2_with fail
  refine (parse_any y m d h n s hy0 hy1 hm1 hm2 hd1 hd2 hh0 hh1 hn0 hn1 hs0 hs1 _).mono ?_
  rintro e w1 ⟨rfl, hb1⟩
  go_wp2_with fail
  refine (timeUnix_any _ (by omega) (by omega) _).mono ?_
  rintro e w2 ⟨rfl, hb2⟩
  go_wp2
  go_ret
  exact ⟨by go_num, hb1.trans (hb2.mono hb1.size)⟩

set_option maxRecDepth 100000 in
theorem implDos_any (y m d h n s : Int) (hy0 : 1980 ≤ y) (hy1 : y ≤ 2107) (hm1 : 1 ≤ m) (hm2 : m ≤ 12) (hd1 : 1 ≤ d) (hd2 : d ≤ 31) (hh0 : 0 ≤ h) (hh1 : h < 24) (hn0 : 0 ≤ n) (hn1 : n < 60) (hs0 : 0 ≤ s) (hs1 : s < 30) (w : World) :
    Calls Try.prog 8 #[.int .u32 (dosT y m d h n s)] w fun e w' => e = .returned (.int .i64 (secs y m d h n (s * 2))) ∧ Below w.heap.size w w' := by
  go_enter Try.func8, Try.ntmps8
  go_wp2_with fail
  refine (zzDos_any y m d h n s hy0 hy1 hm1 hm2 hd1 hd2 hh0 hh1 hn0 hn1 hs0 hs1 _).mono ?_
  rintro e w1 ⟨rfl, hb1⟩
  go_wp2
  go_ret
  exact ⟨rfl, hb1⟩
end Go.Proofs.Ytmplkbnajohheaa.Dos
