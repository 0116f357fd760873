/- New rows: so many noughts; rows of marks. -/
import Derived.Test.YtoicojdnaahimaaDoorClone
import Derived.Laws.MakeOwn
namespace Go.Proofs.YtoicojdnaahimaaDoor.Aid
open Go Go.RowKit

/-- So many new cells. -/
def zeros (z : Value) (c : Nat) : Array Value := madeCells #[z] c
theorem run_zeros {P : Program} (t e : TypeId) (i : TypeInfo) (z : Value) (by_ : Nat) (ht : P.underlying t = some (.slice e)) (hi : P.info? e = some i) (hz : i.zero = some z) (hs : i.size = 1) (hb : i.bytes = by_) (hb8 : by_ ≤ 8) (hzc : z.cells = #[z]) (n : Nat) (hc : n ≤ 4000000) (w : World) :
    (Instr.makeSlice t (.int .i64 (n : Int)) (.int .i64 (n : Int))).run P w = .ok (.slice (some ⟨w.heap.size, 0, none⟩) n n) (w.alloc (.cells (zeros z n) e)) := by
  have h := run_make (P := P) w t e i z ht hi hz .i64 .i64 (n : Int) (n : Int) (by omega) (by omega) (by
    rw [hb]
    have : ((by_ : Int) * n) ≤ 8 * 4000000 := by
      have : by_ * n ≤ 8 * 4000000 := Nat.mul_le_mul hb8 hc
      omega
    omega) (by omega)
  rw [hs, Nat.mul_one, Int.toNat_natCast, hzc] at h
  exact h

theorem row_zeros (k : IntKind) (w : World) (e n : Nat) (hn : n ≤ 4000000) : Row k (w.alloc (.cells (zeros (.int k 0) n) e)) w.heap.size e w.heap.size n (List.replicate n 0) := by
  have h := World.ownsRow_lit (e := e) w (zeros (.int k 0) n) (size := 1) n (Nat.le_refl _) (by unfold maxLen; omega) (by simp [zeros, madeCells])
  unfold Row
  rw [List.length_replicate]
  have e1 : nums k (List.replicate n 0) = (zeros (.int k 0) n).toList := by
    unfold zeros
    rw [toList_madeCells_one]
    simp [nums]
  rw [e1]
  exact h

/-- A row of marks that the call owns, at the head of block g. -/
def Marks (w : World) (base e g cap : Nat) (l : List Bool) : Prop := w.ownsRow base e 1 (.slice (some ⟨g, 0, none⟩) l.length cap) l.length (l.map .bool)
section
variable {w w' : World} {base e g cap : Nat} {l : List Bool}
theorem Marks.cell (h : Marks w base e g cap l) {j : Nat} (hj : j < l.length) : w.cell? ⟨g, j, none⟩ = some (.bool (l.getD j false)) := by
  rw [World.ownsRow.cellAt h j (by omega), List.getElem?_map, List.getElem?_eq_getElem hj, List.getD_eq_getElem?_getD, List.getElem?_eq_getElem hj]
  rfl
theorem Marks.frozen (h : Marks w base e g cap l) (j : Nat) : w.frozen? ⟨g, j, none⟩ = false := World.ownsRow.frozenAt h j
theorem Marks.set (h : Marks w base e g cap l) (j : Nat) (v : Bool) : Marks (w.setCell ⟨g, j, none⟩ (.bool v)) base e g cap (l.set j v) := by
  have h1 := (World.ownsRow.stored h j (.bool v)).1
  unfold Marks
  rw [List.length_set, List.map_set]
  exact h1
theorem Marks.drewN (h : Marks w base e g cap l) (n : Nat) : Marks (w.drewN n) base e g cap l := h
theorem Marks.lt (h : Marks w base e g cap l) : g < w.heap.size := (World.ownsRow.lt h g rfl).2
theorem Marks.base_le (h : Marks w base e g cap l) : base ≤ g := (World.ownsRow.lt h g rfl).1
theorem Marks.turn {S : Nat → Prop} (h : Marks w base e g cap l) (ht : Turn S w w') (hs : ¬ S g) : Marks w' base e g cap l := own_turn h ht (fun k hk => by cases hk; exact hs)
theorem Marks.rd (h : Marks w base e g cap l) : Rd w w.heap.size (.slice (some ⟨g, 0, none⟩) l.length cap) (l.map .bool) := Rd.own h
theorem marks_new (w : World) (e n : Nat) (hn : n ≤ 4000000) : Marks (w.alloc (.cells (zeros (.bool false) n) e)) w.heap.size e w.heap.size n (List.replicate n false) := by
  have h := World.ownsRow_lit (e := e) w (zeros (.bool false) n) (size := 1) n (Nat.le_refl _) (by unfold maxLen; omega) (by simp [zeros, madeCells])
  unfold Marks
  rw [List.length_replicate]
  have e1 : (List.replicate n false).map Value.bool = (zeros (.bool false) n).toList := by
    unfold zeros
    rw [toList_madeCells_one]
    simp
  rw [e1]
  exact h
end
end Go.Proofs.YtoicojdnaahimaaDoor.Aid
namespace Go.Proofs.YtoicojdnaahimaaDoor.Base
open Go Go.RowKit Go.Proofs.YtoicojdnaahimaaDoor.Aid

set_option maxRecDepth 100000 in
set_option maxHeartbeats 1000000 in
theorem used_any (v : Value) (l : List Nat) (n : Nat) (w : World) (hr : Rd w w.heap.size v (nums .u16 l)) (hl : l.length ≤ 4000000) (hlb : ∀ j, l.getD j 0 < 65536) (hn0 : 0 < n) (hn : n ≤ 430) :
    Calls Tryd.prog 6 #[.int .i64 (n : Int), v] w fun e w' => ∃ us, e = .returned (.slice (some ⟨w.heap.size, 0, none⟩) n n) ∧ us.length = n ∧ Marks w' w.heap.size 4 w.heap.size n us ∧ Below w.heap.size w w' := by
  obtain ⟨i0, hi, hz0, hz1, hz2⟩ := info_parts infoT
  obtain ⟨A, cap, hv, hA1, hA2, hA3⟩ := hr
  rw [nums_length] at hv hA1 hA3
  subst hv
  have HA := Lib.hid hA3
  clear hA3
  have hmk := run_zeros (P := Tryd.prog) 26 4 i0 (.bool false) 1 Tryd.underlying26 hi hz0 hz1 hz2 (by omega) rfl n (by omega)
  have hm0 := marks_new w 4 n (by omega)
  go_enter Tryd.func6, Tryd.ntmps6
  go_wp2
  go_loopw [12] (fun i wr => ∃ (k : Nat) (us : List Bool), k ≤ l.length ∧ i = .int .i64 (k : Int) ∧ us.length = n ∧ Marks wr w.heap.size 4 w.heap.size n us ∧ Below w.heap.size w wr)
    (fun i _ => l.length - (intOf i).toNat)
  case atStart => exact ⟨0, List.replicate n false, by omega, rfl, by simp, hm0, (Below.refl _ _).alloc (Nat.le_refl _) _⟩
  case round =>
    obtain ⟨k, us, hk, rfl, hus, hm, hb⟩ := hrel
    by_cases hlt : k < l.length
    · obtain ⟨g, o, rfl, hg, hcell⟩ := HA.out (by omega)
      have hc := (hb.cell (p := ⟨g, o + k, none⟩) hg).trans (hcell k _ (nums_get hlt))
      obtain ⟨x, hx⟩ : ∃ x, x = l.getD k 0 := ⟨_, rfl⟩
      rw [← hx] at hc
      have hx0 := hlb k
      rw [← hx] at hx0
      obtain ⟨y, hy⟩ : ∃ y, y = x % n := ⟨_, rfl⟩
      have hyn : y < n := by rw [hy]; exact Nat.mod_lt _ hn0
      have hyc : ((x : Int) % (n : Int)) = (y : Int) := by rw [hy]; omega
      have hfr := hm.frozen y
      have hcy := hm.cell (j := y) (by omega)
      clear hx hy
      go_wp2
      refine ⟨⟨k + 1, us.set y true, by omega, by go_num, by simpa using hus, hm.set y true, hb.setCell (Nat.le_refl _) _⟩, by simp [intOf]; omega⟩
    · have : k = l.length := by omega
      subst this
      go_wp2
      go_ret
      exact ⟨us, rfl, hus, hm, hb⟩
end Go.Proofs.YtoicojdnaahimaaDoor.Base
