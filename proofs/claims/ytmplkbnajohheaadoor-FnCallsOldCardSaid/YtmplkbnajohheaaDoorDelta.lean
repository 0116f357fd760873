/- The walk of the package's filter of channels over a row of bytes that the caller owns: in its spare room, or in a new row. -/
import Derived.Test.YtmplkbnajohheaaDoorDeltaPart
namespace Go.Proofs.YtmplkbnajohheaaDoor.Delta
open Go.RowKit Go.Proofs.YtmplkbnajohheaaDoor.Aid Go.Proofs.YtmplkbnajohheaaDoor.Base

set_option maxRecDepth 100000 in
set_option maxHeartbeats 4000000 in
theorem filter_any (l : List UInt8) (g cap base n : Nat) (w : World) (hown : Own w base 5 g cap l) (hbw : base ≤ w.heap.size) (hl : l.length ≤ 4096) (hn0 : 0 < n) (hn1 : n ≤ 32) :
    Calls Tryd.prog 17 #[.int .i64 (n : Int), .slice (some ⟨g, 0, none⟩) l.length cap] w fun e w' => ∃ x, e = .returned (.tuple #[x, .nilIface]) ∧ Rd w' w'.heap.size x (Lib.byteCells (outer n l.length l n 0 0 (List.replicate l.length 0))) ∧ Below base w w' := by
  obtain ⟨i0, hi, hz0, hz1, hz2⟩ := info_parts infoB
  have hcaps := hown.caps
  have hmk : ∀ w, (Instr.makeSlice 22 (.int .i64 (l.length : Int)) (.int .i64 (2 * (l.length : Int)))).run Tryd.prog w = .ok (.slice (some ⟨w.heap.size, 0, none⟩) l.length (2 * l.length)) (w.alloc (.cells (zeros (2 * l.length)) 5)) := fun w => by
    have h := run_zeros (P := Tryd.prog) 22 5 i0 Tryd.underlying22 hi hz0 hz1 hz2 l.length (2 * l.length) (by omega) (by omega) w
    rw [Int.natCast_mul] at h
    exact h
  by_cases hcap : 2 * l.length ≤ cap
  · have hci : 2 * (l.length : Int) ≤ (cap : Int) := by omega
    clear hmk
    have e2 : 2 * l.length - l.length = l.length := by omega
    have E2 := Lib.hid e2
    clear e2
    have hb0 : Below base w w := Below.refl _ _
    have hHs : g < w.heap.size := hown.lt
    have hbuf := Cells.own hown
    have hbH := hown.base_le
    have hpt2 : Part w g l.length n 0 0 (List.replicate l.length 0) := Part.start fun p hp => by
      rw [List.length_replicate] at hp
      exact ⟨own_spare hown _ (by omega), hown.frozen _⟩
    have hpt1 : l.length ≤ 0 → Part w g 0 n 0 0 (List.replicate l.length 0) := fun h0 => Part.start fun p hp => by
      rw [List.length_replicate] at hp
      omega
    go_enter Tryd.func17, Tryd.ntmps17
    go_wp2
    all_goals rw [E2.out]
    · have hl0 : l.length ≤ 0 := by omega
      have hpt := hpt1 hl0
      clear hpt1 hpt2 hcap hci
      obtain ⟨R, HRR⟩ : ∃ R, Hid (outer n l.length l n 0 0 (List.replicate l.length 0) = R) := ⟨_, rfl⟩
      have HR0 : Hid (cnt n l.length 0 0 = 0) := cnt_zero n l.length
      go_loopw [8, 9] (fun vi vj wr => ∃ (f j i : Nat) (out : List UInt8), vi = .int .i64 (i : Int) ∧ vj = .int .i64 (j : Int) ∧ j ≤ n ∧ n ≤ j + f ∧ Hid (i = cnt n l.length j j) ∧ Hid (out.length = l.length) ∧ Hid (outer n l.length l f j i out = R) ∧ Part wr g 0 n j j out ∧ Cells wr g 0 l ∧ g < wr.heap.size ∧ Below base w wr)
        (fun _ vj _ => n - (intOf vj).toNat)
      case atStart => exact ⟨n, 0, 0, List.replicate l.length 0, rfl, rfl, by omega, by omega, HR0.out.symm, List.length_replicate, HRR.out, hpt, hbuf, hHs, hb0⟩
      case round =>
        obtain ⟨f, j, i, out, rfl, rfl, hj, hf, HI, HLO, HO, hcl, hbf, hsz, hbr⟩ := hrel
        obtain ⟨wo, rfl⟩ : ∃ wo : World, wo = wr := ⟨_, rfl⟩
        by_cases hlt : j < n
        · obtain ⟨f, rfl⟩ : ∃ f', f = f' + 1 := ⟨f - 1, by omega⟩
          have HO2 := HO.out
          rw [outer_go hlt] at HO2
          have HO3 := Lib.hid HO2
          clear HO2 HO
          have HM : Hid (j % n = j) := Nat.mod_eq_of_lt hlt
          go_wp2
          go_loopw [8, 10, 11] (fun vi vl vk wr => ∃ (f2 k i2 : Nat) (last : UInt8) (o2 : List UInt8), vi = .int .i64 (i2 : Int) ∧ vl = .int .u8 (last.toNat : Int) ∧ vk = .int .i64 (k : Int) ∧ Hid (k % n = j) ∧ k < l.length + n ∧ l.length ≤ k + f2 ∧ Hid (inner n l.length l f2 k i2 last o2 = inner n l.length l l.length j i 0 out) ∧ Hid (i2 = cnt n l.length j k) ∧ Hid (o2.length = l.length) ∧ Part wr g 0 n j k o2 ∧ Cells wr g 0 l ∧ g < wr.heap.size ∧ Below base w wr)
            (fun _ _ vk _ => l.length + n - (intOf vk).toNat)
          case atStart => exact ⟨l.length, j, i, 0, out, rfl, rfl, rfl, HM, by omega, by omega, rfl, HI, HLO, hcl, hbf, hsz, hbr⟩
          case round =>
            obtain ⟨f2, k, i2, last, o2, rfl, rfl, rfl, HKM, hk1, hk2, HIN, HI2, HL2, hcl2, hbf2, hsz2, hbr2⟩ := hrel
            by_cases hkl : k < l.length
            · exact absurd hkl (by omega)
            · have HE : Hid (inner n l.length l l.length j i 0 out = (i2, o2)) := by
                have h := HIN.out
                show _ = _
                rw [← h]
                exact inner_end (by omega)
              have HO4 : Hid (outer n l.length l f (j + 1) i2 o2 = R) := by
                have h := HO3.out
                rw [HE.out] at h
                exact h
              have HC2 : Hid (i2 = cnt n l.length (j + 1) (j + 1)) := HI2.out.trans (cnt_end (by omega))
              have hnx := hcl2.next (by rw [HL2.out]; omega)
              go_wp2
              go_roundw
              case rel => exact ⟨f, j + 1, i2, o2, by go_num, by go_num, by omega, by omega, HC2, HL2, HO4, hnx, hbf2, hsz2, hbr2⟩
              case measure => simp [intOf]; omega
        · have HF : Hid (R = out) := by
            have h := HO.out
            show R = out
            rw [← h]
            exact outer_end (by omega)
          have hrd := (hcl.all hn0 (by omega)).rd hsz (c := 0) (by rw [HLO.out]; omega) (by omega)
          rw [HLO.out] at hrd
          go_wp2
          go_ret2
          exact ⟨_, rfl, by rw [HRR.out, HF.out]; exact hrd, hbr⟩
    · have hpt := hpt2
      clear hpt1 hpt2
      obtain ⟨R, HRR⟩ : ∃ R, Hid (outer n l.length l n 0 0 (List.replicate l.length 0) = R) := ⟨_, rfl⟩
      have HR0 : Hid (cnt n l.length 0 0 = 0) := cnt_zero n l.length
      go_loopw [8, 9] (fun vi vj wr => ∃ (f j i : Nat) (out : List UInt8), vi = .int .i64 (i : Int) ∧ vj = .int .i64 (j : Int) ∧ j ≤ n ∧ n ≤ j + f ∧ Hid (i = cnt n l.length j j) ∧ Hid (out.length = l.length) ∧ Hid (outer n l.length l f j i out = R) ∧ Part wr g l.length n j j out ∧ Cells wr g 0 l ∧ g < wr.heap.size ∧ Below base w wr)
        (fun _ vj _ => n - (intOf vj).toNat)
      case atStart => exact ⟨n, 0, 0, List.replicate l.length 0, rfl, rfl, by omega, by omega, HR0.out.symm, List.length_replicate, HRR.out, hpt, hbuf, hHs, hb0⟩
      case round =>
        obtain ⟨f, j, i, out, rfl, rfl, hj, hf, HI, HLO, HO, hcl, hbf, hsz, hbr⟩ := hrel
        obtain ⟨wo, rfl⟩ : ∃ wo : World, wo = wr := ⟨_, rfl⟩
        by_cases hlt : j < n
        · obtain ⟨f, rfl⟩ : ∃ f', f = f' + 1 := ⟨f - 1, by omega⟩
          have HO2 := HO.out
          rw [outer_go hlt] at HO2
          have HO3 := Lib.hid HO2
          clear HO2 HO
          have HM : Hid (j % n = j) := Nat.mod_eq_of_lt hlt
          go_wp2
          go_loopw [8, 10, 11] (fun vi vl vk wr => ∃ (f2 k i2 : Nat) (last : UInt8) (o2 : List UInt8), vi = .int .i64 (i2 : Int) ∧ vl = .int .u8 (last.toNat : Int) ∧ vk = .int .i64 (k : Int) ∧ Hid (k % n = j) ∧ k < l.length + n ∧ l.length ≤ k + f2 ∧ Hid (inner n l.length l f2 k i2 last o2 = inner n l.length l l.length j i 0 out) ∧ Hid (i2 = cnt n l.length j k) ∧ Hid (o2.length = l.length) ∧ Part wr g l.length n j k o2 ∧ Cells wr g 0 l ∧ g < wr.heap.size ∧ Below base w wr)
            (fun _ _ vk _ => l.length + n - (intOf vk).toNat)
          case atStart => exact ⟨l.length, j, i, 0, out, rfl, rfl, rfl, HM, by omega, by omega, rfl, HI, HLO, hcl, hbf, hsz, hbr⟩
          case round =>
            obtain ⟨f2, k, i2, last, o2, rfl, rfl, rfl, HKM, hk1, hk2, HIN, HI2, HL2, hcl2, hbf2, hsz2, hbr2⟩ := hrel
            by_cases hkl : k < l.length
            · obtain ⟨f2, rfl⟩ : ∃ f', f2 = f' + 1 := ⟨f2 - 1, by omega⟩
              have hi2 : i2 < l.length := by rw [HI2.out]; exact cnt_lt hn0 HKM.out hkl
              have hcb := (hbf2 i2 hi2).1
              rw [Nat.zero_add] at hcb
              obtain ⟨⟨vk, hck⟩, hfk, _⟩ := hcl2 k (by rw [HL2.out]; exact hkl)
              have HX : Hid (((next last (l.getD i2 0)).toNat : Int) = ((last.toNat : Int) - (l.getD i2 0).toNat) % 256) := low_nat _
              have hput := hcl2.put hn0 HKM.out (next last (l.getD i2 0))
              have hbf3 := hbf2.far (h' := g) (o' := l.length + k) (by omega) (.int .u8 ((next last (l.getD i2 0)).toNat : Int))
              have HG : Hid (inner n l.length l f2 (k + n) (i2 + 1) (next last (l.getD i2 0)) (o2.set k (next last (l.getD i2 0))) = inner n l.length l l.length j i 0 out) := by
                have h := HIN.out
                rw [inner_go hkl] at h
                exact h
              have HC : Hid (i2 + 1 = cnt n l.length j (k + n)) := by
                have h := cnt_step hn0 HKM.out hkl
                have h2 := HI2.out
                show i2 + 1 = _
                rw [h, ← h2]
              have HKM2 : Hid ((k + n) % n = j) := by have h := HKM.out; show (k + n) % n = j; rw [Nat.add_mod_right]; exact h
              have HL3 : Hid ((o2.set k (next last (l.getD i2 0))).length = l.length) := by have h := HL2.out; show (o2.set k _).length = _; rw [List.length_set]; exact h
              have y1 := last.toNat_lt
              have y2 := (l.getD i2 0).toNat_lt
              generalize next last (l.getD i2 0) = x at HX hput HG HL3 hbf3
              generalize l.getD i2 0 = bb at hcb HX y2
              clear HIN HI2 HKM
              go_wp2
              go_roundw
              case rel => exact ⟨f2, k + n, i2 + 1, x, o2.set k x, by go_num, by rw [HX.out], by go_num, HKM2, by omega, by omega, HG, HC, HL3, by rw [HX.out] at hput; exact hput, by rw [HX.out] at hbf3; exact hbf3, by simpa using hsz2, by exact hbr2.setCell hbH _⟩
              case measure => simp [intOf]; omega
            · have HE : Hid (inner n l.length l l.length j i 0 out = (i2, o2)) := by
                have h := HIN.out
                show _ = _
                rw [← h]
                exact inner_end (by omega)
              have HO4 : Hid (outer n l.length l f (j + 1) i2 o2 = R) := by
                have h := HO3.out
                rw [HE.out] at h
                exact h
              have HC2 : Hid (i2 = cnt n l.length (j + 1) (j + 1)) := HI2.out.trans (cnt_end (by omega))
              have hnx := hcl2.next (by rw [HL2.out]; omega)
              go_wp2
              go_roundw
              case rel => exact ⟨f, j + 1, i2, o2, by go_num, by go_num, by omega, by omega, HC2, HL2, HO4, hnx, hbf2, hsz2, hbr2⟩
              case measure => simp [intOf]; omega
        · have HF : Hid (R = out) := by
            have h := HO.out
            show R = out
            rw [← h]
            exact outer_end (by omega)
          have hrd := (hcl.all hn0 (by omega)).rd hsz (c := (cap - l.length)) (by rw [HLO.out]; omega) (by omega)
          rw [HLO.out] at hrd
          go_wp2
          go_ret2
          exact ⟨_, rfl, by rw [HRR.out, HF.out]; exact hrd, hbr⟩
  · have hci : ¬ 2 * (l.length : Int) ≤ (cap : Int) := by omega
    go_enter Tryd.func17, Tryd.ntmps17
    go_wp2
    clear hmk
    have hc0 := cells_zeros w 5 l.length (2 * l.length) (by omega)
    obtain ⟨H, hH⟩ : ∃ H, w.heap.size = H := ⟨_, rfl⟩
    have hgH : g < H := by rw [← hH]; exact hown.lt
    have hHs : H < (w.alloc (.cells (zeros (2 * l.length)) 5)).heap.size := by rw [← hH]; simp
    have hb0 : Below base w (w.alloc (.cells (zeros (2 * l.length)) 5)) := (Below.refl _ _).alloc hbw _
    have hbuf : Cells (w.alloc (.cells (zeros (2 * l.length)) 5)) g 0 l := Cells.own (hown.alloc _)
    have hbH : base ≤ H := by rw [← hH]; exact hbw
    rw [hH] at hc0 ⊢
    have hpt : Part (w.alloc (.cells (zeros (2 * l.length)) 5)) H 0 n 0 0 (List.replicate l.length 0) := hc0.start
    generalize w.alloc (.cells (zeros (2 * l.length)) 5) = w1 at hpt hHs hb0 hbuf ⊢
    clear hc0 hH
    obtain ⟨R, HRR⟩ : ∃ R, Hid (outer n l.length l n 0 0 (List.replicate l.length 0) = R) := ⟨_, rfl⟩
    have HR0 : Hid (cnt n l.length 0 0 = 0) := cnt_zero n l.length
    go_loopw [8, 9] (fun vi vj wr => ∃ (f j i : Nat) (out : List UInt8), vi = .int .i64 (i : Int) ∧ vj = .int .i64 (j : Int) ∧ j ≤ n ∧ n ≤ j + f ∧ Hid (i = cnt n l.length j j) ∧ Hid (out.length = l.length) ∧ Hid (outer n l.length l f j i out = R) ∧ Part wr H 0 n j j out ∧ Cells wr g 0 l ∧ H < wr.heap.size ∧ Below base w wr)
      (fun _ vj _ => n - (intOf vj).toNat)
    case atStart => exact ⟨n, 0, 0, List.replicate l.length 0, rfl, rfl, by omega, by omega, HR0.out.symm, List.length_replicate, HRR.out, hpt, hbuf, hHs, hb0⟩
    case round =>
      obtain ⟨f, j, i, out, rfl, rfl, hj, hf, HI, HLO, HO, hcl, hbf, hsz, hbr⟩ := hrel
      obtain ⟨wo, rfl⟩ : ∃ wo : World, wo = wr := ⟨_, rfl⟩
      by_cases hlt : j < n
      · obtain ⟨f, rfl⟩ : ∃ f', f = f' + 1 := ⟨f - 1, by omega⟩
        have HO2 := HO.out
        rw [outer_go hlt] at HO2
        have HO3 := Lib.hid HO2
        clear HO2 HO
        have HM : Hid (j % n = j) := Nat.mod_eq_of_lt hlt
        go_wp2
        go_loopw [8, 10, 11] (fun vi vl vk wr => ∃ (f2 k i2 : Nat) (last : UInt8) (o2 : List UInt8), vi = .int .i64 (i2 : Int) ∧ vl = .int .u8 (last.toNat : Int) ∧ vk = .int .i64 (k : Int) ∧ Hid (k % n = j) ∧ k < l.length + n ∧ l.length ≤ k + f2 ∧ Hid (inner n l.length l f2 k i2 last o2 = inner n l.length l l.length j i 0 out) ∧ Hid (i2 = cnt n l.length j k) ∧ Hid (o2.length = l.length) ∧ Part wr H 0 n j k o2 ∧ Cells wr g 0 l ∧ H < wr.heap.size ∧ Below base w wr)
          (fun _ _ vk _ => l.length + n - (intOf vk).toNat)
        case atStart => exact ⟨l.length, j, i, 0, out, rfl, rfl, rfl, HM, by omega, by omega, rfl, HI, HLO, hcl, hbf, hsz, hbr⟩
        case round =>
          obtain ⟨f2, k, i2, last, o2, rfl, rfl, rfl, HKM, hk1, hk2, HIN, HI2, HL2, hcl2, hbf2, hsz2, hbr2⟩ := hrel
          by_cases hkl : k < l.length
          · obtain ⟨f2, rfl⟩ : ∃ f', f2 = f' + 1 := ⟨f2 - 1, by omega⟩
            have hi2 : i2 < l.length := by rw [HI2.out]; exact cnt_lt hn0 HKM.out hkl
            have hcb := (hbf2 i2 hi2).1
            rw [Nat.zero_add] at hcb
            obtain ⟨⟨vk, hck⟩, hfk, _⟩ := hcl2 k (by rw [HL2.out]; exact hkl)
            rw [Nat.zero_add] at hck hfk
            have HX : Hid (((next last (l.getD i2 0)).toNat : Int) = ((last.toNat : Int) - (l.getD i2 0).toNat) % 256) := low_nat _
            have hput := hcl2.put hn0 HKM.out (next last (l.getD i2 0))
            have hbf3 := hbf2.far (h' := H) (o' := 0 + k) (by omega) (.int .u8 ((next last (l.getD i2 0)).toNat : Int))
            rw [Nat.zero_add] at hput hbf3
            have HG : Hid (inner n l.length l f2 (k + n) (i2 + 1) (next last (l.getD i2 0)) (o2.set k (next last (l.getD i2 0))) = inner n l.length l l.length j i 0 out) := by
              have h := HIN.out
              rw [inner_go hkl] at h
              exact h
            have HC : Hid (i2 + 1 = cnt n l.length j (k + n)) := by
              have h := cnt_step hn0 HKM.out hkl
              have h2 := HI2.out
              show i2 + 1 = _
              rw [h, ← h2]
            have HKM2 : Hid ((k + n) % n = j) := by have h := HKM.out; show (k + n) % n = j; rw [Nat.add_mod_right]; exact h
            have HL3 : Hid ((o2.set k (next last (l.getD i2 0))).length = l.length) := by have h := HL2.out; show (o2.set k _).length = _; rw [List.length_set]; exact h
            have y1 := last.toNat_lt
            have y2 := (l.getD i2 0).toNat_lt
            generalize next last (l.getD i2 0) = x at HX hput HG HL3 hbf3
            generalize l.getD i2 0 = bb at hcb HX y2
            clear HIN HI2 HKM
            go_wp2
            go_roundw
            case rel => exact ⟨f2, k + n, i2 + 1, x, o2.set k x, by go_num, by rw [HX.out], by go_num, HKM2, by omega, by omega, HG, HC, HL3, by rw [HX.out] at hput; exact hput, by rw [HX.out] at hbf3; exact hbf3, by simpa using hsz2, by exact hbr2.setCell hbH _⟩
            case measure => simp [intOf]; omega
          · have HE : Hid (inner n l.length l l.length j i 0 out = (i2, o2)) := by
              have h := HIN.out
              show _ = _
              rw [← h]
              exact inner_end (by omega)
            have HO4 : Hid (outer n l.length l f (j + 1) i2 o2 = R) := by
              have h := HO3.out
              rw [HE.out] at h
              exact h
            have HC2 : Hid (i2 = cnt n l.length (j + 1) (j + 1)) := HI2.out.trans (cnt_end (by omega))
            have hnx := hcl2.next (by rw [HL2.out]; omega)
            go_wp2
            go_roundw
            case rel => exact ⟨f, j + 1, i2, o2, by go_num, by go_num, by omega, by omega, HC2, HL2, HO4, hnx, hbf2, hsz2, hbr2⟩
            case measure => simp [intOf]; omega
      · have HF : Hid (R = out) := by
          have h := HO.out
          show R = out
          rw [← h]
          exact outer_end (by omega)
        have hrd := (hcl.all hn0 (by omega)).rd hsz (c := (2 * l.length)) (by rw [HLO.out]; omega) (by omega)
        rw [HLO.out] at hrd
        go_wp2
        go_ret2
        exact ⟨_, rfl, by rw [HRR.out, HF.out]; exact hrd, hbr⟩
end Go.Proofs.YtmplkbnajohheaaDoor.Delta
