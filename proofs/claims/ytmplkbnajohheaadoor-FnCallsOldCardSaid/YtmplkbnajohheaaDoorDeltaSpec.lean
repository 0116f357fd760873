/- The walk of the reference's channels of differences. -/
import Derived.Test.YtmplkbnajohheaaDoorDeltaPlain
import Derived.Test.YtmplkbnajohheaaDoorClone
import Derived.OwnWalk
import Derived.Laws.MakeOwn
namespace Go.Proofs.YtmplkbnajohheaaDoor.Delta
open Go.RowKit Go.Proofs.YtmplkbnajohheaaDoor.Aid Go.Proofs.YtmplkbnajohheaaDoor.Base

/-- So many cells of nought. -/
def zeros (c : Nat) : Array Value := madeCells #[.int .u8 0] c
theorem run_zeros {P : Program} (t e : TypeId) (i : TypeInfo) (ht : P.underlying t = some (.slice e)) (hi : P.info? e = some i) (hz : i.zero = some (.int .u8 0)) (hs : i.size = 1) (hb : i.bytes = 1) (n c : Nat) (hnc : n ≤ c) (hc : c ≤ 4000000) (w : World) :
    (Instr.makeSlice t (.int .i64 (n : Int)) (.int .i64 (c : Int))).run P w = .ok (.slice (some ⟨w.heap.size, 0, none⟩) n c) (w.alloc (.cells (zeros c) e)) := by
  have h := run_make (P := P) w t e i (.int .u8 0) ht hi hz .i64 .i64 (n : Int) (c : Int) (by omega) (by omega) (by rw [hb]; omega) (by omega)
  rw [hs, Nat.mul_one, Int.toNat_natCast, Int.toNat_natCast] at h
  exact h
theorem cells_zeros (w : World) (e n c : Nat) (hnc : n ≤ c) : Cells (w.alloc (.cells (zeros c) e)) w.heap.size 0 (List.replicate n 0) := by
  intro j hj
  rw [List.length_replicate] at hj
  have hh : (w.alloc (.cells (zeros c) e)).heap[w.heap.size]? = some (.cells (zeros c) e (0, 0)) := heap_alloc_new w _
  rw [Nat.zero_add]
  refine ⟨?_, frozen_of_row _ _ j _ e hh⟩
  rw [cell_of_row _ _ j _ e (0, 0) hh, List.getD_eq_getElem?_getD, List.getElem?_eq_getElem (by rw [List.length_replicate]; exact hj)]
  simp [zeros, madeCells, Nat.mod_one, show j < c from by omega]

set_option maxRecDepth 100000 in
set_option maxHeartbeats 4000000 in
theorem spec_any (v : Value) (l : List UInt8) (B n : Nat) (w : World) (hr : Rd w B v (Lib.byteCells l)) (hB : B ≤ w.heap.size) (hl : l.length ≤ 4096) (hn0 : 0 < n) (hn1 : n ≤ 32) :
    Calls Tryd.prog 12 #[v, .int .i64 (n : Int)] w fun e w' => ∃ h c, e = .returned (.slice (some ⟨h, 0, none⟩) l.length c) ∧ Rd w' w'.heap.size (.slice (some ⟨h, 0, none⟩) l.length c) (Lib.byteCells (outer n l.length l n 0 0 (List.replicate l.length 0))) ∧ Below w.heap.size w w' := by
  obtain ⟨i0, hi, hz0, hz1, hz2⟩ := info_parts infoB
  obtain ⟨A, cap, hv, hA1, hA2, hA3⟩ := hr
  rw [Lib.byteCells_length] at hv hA1 hA3
  subst hv
  have HA := Lib.hid hA3
  clear hA3
  have hmk := run_zeros (P := Tryd.prog) 22 5 i0 Tryd.underlying22 hi hz0 hz1 hz2 l.length l.length (Nat.le_refl _) (by omega)
  have hc0 := cells_zeros w 5 l.length l.length (Nat.le_refl _)
  go_enter Tryd.func12, Tryd.ntmps12
  go_wp2
  have HR0 : Hid (cnt n l.length 0 0 = 0) := cnt_zero n l.length
  obtain ⟨H, hH⟩ : ∃ H, w.heap.size = H := ⟨_, rfl⟩
  have hHs : H < (w.alloc (.cells (zeros l.length) 5)).heap.size := by rw [← hH]; simp
  have hb0 : Below H w (w.alloc (.cells (zeros l.length) 5)) := by rw [← hH]; exact (Below.refl _ _).alloc (Nat.le_refl _) _
  rw [hH] at hc0 hB ⊢
  generalize w.alloc (.cells (zeros l.length) 5) = w1 at hc0 hHs hb0 ⊢
  have HH := Lib.hid hH
  clear hH hmk
  go_loopw [6, 14] (fun vi vj wr => ∃ (f j i : Nat) (out : List UInt8), vi = .int .i64 (i : Int) ∧ vj = .int .i64 (j : Int) ∧ j ≤ n ∧ n ≤ j + f ∧ Hid (i = cnt n l.length j j) ∧ Hid (out.length = l.length) ∧ Hid (outer n l.length l f j i out = outer n l.length l n 0 0 (List.replicate l.length 0)) ∧ Cells wr H 0 out ∧ H < wr.heap.size ∧ Below H w wr)
    (fun _ vj _ => n - (intOf vj).toNat)
  case atStart => exact ⟨n, 0, 0, List.replicate l.length 0, rfl, rfl, by omega, by omega, HR0.out.symm, List.length_replicate, rfl, hc0, hHs, hb0⟩
  case round =>
    obtain ⟨f, j, i, out, rfl, rfl, hj, hf, HI, HLO, HO, hcl, hsz, hbr⟩ := hrel
    obtain ⟨wo, rfl⟩ : ∃ wo : World, wo = wr := ⟨_, rfl⟩
    by_cases hlt : j < n
    · obtain ⟨f, rfl⟩ : ∃ f', f = f' + 1 := ⟨f - 1, by omega⟩
      have HO2 := HO.out
      rw [outer_go hlt] at HO2
      have HO3 := Lib.hid HO2
      clear HO2 HO
      have HM : Hid (j % n = j) := Nat.mod_eq_of_lt hlt
      go_wp2
      go_loopw [6, 8, 9] (fun vi vl vk wr => ∃ (f2 k i2 : Nat) (last : UInt8) (o2 : List UInt8), vi = .int .i64 (i2 : Int) ∧ vl = .int .u8 (last.toNat : Int) ∧ vk = .int .i64 (k : Int) ∧ Hid (k % n = j) ∧ k < l.length + n ∧ l.length ≤ k + f2 ∧ Hid (inner n l.length l f2 k i2 last o2 = inner n l.length l l.length j i 0 out) ∧ Hid (i2 = cnt n l.length j k) ∧ Hid (o2.length = l.length) ∧ Cells wr H 0 o2 ∧ H < wr.heap.size ∧ Below H w wr)
        (fun _ _ vk _ => l.length + n - (intOf vk).toNat)
      case atStart => exact ⟨l.length, j, i, 0, out, rfl, rfl, rfl, HM, by omega, by omega, rfl, HI, HLO, hcl, hsz, hbr⟩
      case round =>
        obtain ⟨f2, k, i2, last, o2, rfl, rfl, rfl, HKM, hk1, hk2, HIN, HI2, HL2, hcl2, hsz2, hbr2⟩ := hrel
        by_cases hkl : k < l.length
        · obtain ⟨f2, rfl⟩ : ∃ f', f2 = f' + 1 := ⟨f2 - 1, by omega⟩
          have hi2 : i2 < l.length := by rw [HI2.out]; exact cnt_lt hn0 HKM.out hkl
          obtain ⟨g, o, hA, hg, hcell⟩ := HA.out (by omega)
          subst hA
          have hcb : wr.cell? ⟨g, o + i2, none⟩ = some (.int .u8 ((l.getD i2 0).toNat : Int)) := by
            rw [hbr2.cell (p := ⟨g, o + i2, none⟩) (by show g < H; omega)]
            refine hcell i2 _ ?_
            unfold Lib.byteCells
            rw [List.getElem?_map, List.getElem?_eq_getElem hi2, List.getD_eq_getElem?_getD, List.getElem?_eq_getElem hi2]
            rfl
          obtain ⟨hck, hfk⟩ := hcl2 k (by rw [HL2.out]; exact hkl)
          rw [Nat.zero_add] at hck hfk
          have HX : Hid (((next last (l.getD i2 0)).toNat : Int) = ((last.toNat : Int) - (l.getD i2 0).toNat) % 256) := low_nat _
          have hput := hcl2.put k (next last (l.getD i2 0))
          rw [Nat.zero_add] at hput
          have HG : Hid (inner n l.length l f2 (k + n) (i2 + 1) (next last (l.getD i2 0)) (o2.set k (next last (l.getD i2 0))) = inner n l.length l l.length j i 0 out) := by
            have h := HIN.out
            rw [inner_go hkl] at h
            exact h
          have HC : Hid (i2 + 1 = cnt n l.length j (k + n)) := by
            have h := cnt_step hn0 HKM.out hkl
            have h2 := HI2.out
            show i2 + 1 = _
            rw [h, ← h2]
          have HKM2 : Hid ((k + n) % n = j) := by have h := HKM.out; show (k + n) % n = j; rw [Nat.add_mod_right]; exact h
          have HL3 : Hid ((o2.set k (next last (l.getD i2 0))).length = l.length) := by have h := HL2.out; show (o2.set k _).length = _; rw [List.length_set]; exact h
          have y1 := last.toNat_lt
          have y2 := (l.getD i2 0).toNat_lt
          generalize next last (l.getD i2 0) = x at HX hput HG HL3
          generalize l.getD i2 0 = bb at hcb HX y2
          clear HIN HI2 HKM
          go_wp2
          go_roundw
          case rel => exact ⟨f2, k + n, i2 + 1, x, o2.set k x, by go_num, by rw [HX.out], by go_num, HKM2, by omega, by omega, HG, HC, HL3, by rw [HX.out] at hput; exact hput, by simpa using hsz2, by exact hbr2.setCell (Nat.le_refl _) _⟩
          case measure => simp [intOf]; omega
        · have HE : Hid (inner n l.length l l.length j i 0 out = (i2, o2)) := by
            have h := HIN.out
            show _ = _
            rw [← h]
            exact inner_end (by omega)
          have HO4 : Hid (outer n l.length l f (j + 1) i2 o2 = outer n l.length l n 0 0 (List.replicate l.length 0)) := by
            have h := HO3.out
            rw [HE.out] at h
            exact h
          have HC2 : Hid (i2 = cnt n l.length (j + 1) (j + 1)) := HI2.out.trans (cnt_end (by omega))
          go_wp2
          go_roundw
          case rel => exact ⟨f, j + 1, i2, o2, by go_num, by go_num, by omega, by omega, HC2, HL2, HO4, hcl2, hsz2, hbr2⟩
          case measure => simp [intOf]; omega
    · have HF : Hid (outer n l.length l n 0 0 (List.replicate l.length 0) = out) := by
        have h := HO.out
        show _ = out
        rw [← h]
        exact outer_end (by omega)
      have hrd := hcl.rd hsz (c := l.length) (by rw [HLO.out]; exact Nat.le_refl _) (by omega)
      rw [HLO.out] at hrd
      go_wp2
      go_ret
      exact ⟨H, l.length, rfl, by rw [HF.out]; exact hrd, by rw [HH.out]; exact hbr⟩
end Go.Proofs.YtmplkbnajohheaaDoor.Delta
