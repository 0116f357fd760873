/- A row of bytes that the call owns: a cell of it, a store into it, the string that it is. Of no program. -/
import Derived.Test.YtmplkbnajohheaaDoorAid
import Derived.Laws.BytesArg
namespace Go.Proofs.YtmplkbnajohheaaDoor.Aid
open Go Go.RowKit

/-- The lowest eight bits of a number, as a byte. -/
def low (x : Int) : UInt8 := (x % 256).toNat.toUInt8
theorem low_nat (x : Int) : ((low x).toNat : Int) = x % 256 := by
  unfold low
  rw [Lib.toUInt8_toNat (by omega)]
  omega
theorem low_toNat (b : UInt8) : low b.toNat = b := by
  apply UInt8.toNat_inj.1
  have h := low_nat (b.toNat : Int)
  have := b.toNat_lt
  omega

/-- A row of bytes, n of them, at the head of block g. -/
def Own (w : World) (base e g cap : Nat) (l : List UInt8) : Prop := w.ownsRow base e 1 (.slice (some ⟨g, 0, none⟩) l.length cap) l.length (Lib.byteCells l)

section
variable {w w' : World} {base e g cap : Nat} {l : List UInt8}
theorem Own.cell (h : Own w base e g cap l) {j : Nat} (hj : j < l.length) : w.cell? ⟨g, j, none⟩ = some (.int .u8 ((l.getD j 0).toNat : Int)) := by
  rw [World.ownsRow.cellAt h j (by omega)]
  unfold Lib.byteCells
  rw [List.getElem?_map, List.getElem?_eq_getElem hj, List.getD_eq_getElem?_getD, List.getElem?_eq_getElem hj]
  rfl
theorem Own.frozen (h : Own w base e g cap l) (j : Nat) : w.frozen? ⟨g, j, none⟩ = false := World.ownsRow.frozenAt h j
theorem Own.set (h : Own w base e g cap l) (j : Nat) (x : Int) (v : Int) (hv : v = x % 256) : Own (w.setCell ⟨g, j, none⟩ (.int .u8 v)) base e g cap (l.set j (low x)) := by
  subst hv
  have h1 := (World.ownsRow.stored h j (.int .u8 (x % 256))).1
  unfold Own
  rw [List.length_set]
  have e1 : (Lib.byteCells l).set j (.int .u8 (x % 256)) = Lib.byteCells (l.set j (low x)) := by
    unfold Lib.byteCells
    rw [List.map_set, low_nat]
  rw [← e1]
  exact h1
theorem Own.drew (h : Own w base e g cap l) : Own w.drew base e g cap l := h
theorem Own.drewN (h : Own w base e g cap l) (k : Nat) : Own (w.drewN k) base e g cap l := h
theorem Own.base_le (h : Own w base e g cap l) : base ≤ g := (World.ownsRow.lt h g rfl).1
theorem Own.lt (h : Own w base e g cap l) : g < w.heap.size := (World.ownsRow.lt h g rfl).2
theorem Own.rd (h : Own w base e g cap l) : Rd w w.heap.size (.slice (some ⟨g, 0, none⟩) l.length cap) (Lib.byteCells l) := Rd.own h
theorem Own.caps (h : Own w base e g cap l) : l.length ≤ cap ∧ cap ≤ 9223372036854775807 := by
  rcases h.2 with ⟨h', _⟩ | ⟨g', cap', cur, h', _, _, hn, hc, _⟩
  · cases h'
  · injection h' with _ _ h3
    subst h3
    exact ⟨hn, by simpa [maxLen] using hc⟩
/-- What the append's law leaves, as such a row. -/
theorem own_of {v : Value} {n : Nat} (h : w.ownsRow base e 1 v n (Lib.byteCells l)) (hne : v ≠ .slice none 0 0) : ∃ g cap, v = .slice (some ⟨g, 0, none⟩) l.length cap ∧ Own w base e g cap l := by
  have hl : l.length = n := by have := h.1; rw [Lib.byteCells_length] at this; omega
  subst hl
  rcases h.2 with ⟨h', _⟩ | ⟨g, cap, cur, rfl, _⟩
  · exact absurd h' hne
  · exact ⟨g, cap, rfl, h⟩
end

section
variable {P : Program}
/-- The string that a slice of bytes is. -/
theorem run_string_rd {w : World} {B : Nat} {v : Value} {l : List UInt8} (src dst e : TypeId) (hs : P.underlying src = some (.slice e)) (he : P.underlying e = some (.int .u8)) (hd : P.underlying dst = some .string) (h : Rd w B v (Lib.byteCells l)) :
    (convert src dst v).run P w = .ok (.string ⟨l.toArray⟩) w := by
  obtain ⟨A, c, rfl, h1, h2, h3⟩ := h
  rw [Lib.byteCells_length] at *
  rcases l with _ | ⟨x, r⟩
  · rcases A with _ | a
    · rw [run_convert_bytes_nil w src e hs he _ _ dst hd]; rfl
    · obtain ⟨b, o, sp⟩ := a
      rw [run_convert_bytes_string w src dst e _ _ _ hs he hd]
      simp [Conv.bytesToString, loadCells, loadCellsFrom]
      rfl
  · obtain ⟨g, o, rfl, _, hc⟩ := h3 (by simp)
    rw [run_convert_bytes_arg w src e hs he g o _ c ((x :: r).map fun b => (b.toNat : Int)) (by simp) (fun i hi => by
      have := hc i (.int .u8 (((x :: r).getD i 0).toNat : Int)) (by
        unfold Lib.byteCells
        rw [List.getElem?_map, List.getElem?_eq_getElem hi, List.getD_eq_getElem?_getD, List.getElem?_eq_getElem hi]
        rfl)
      rw [this, List.getD_eq_getElem?_getD, List.getD_eq_getElem?_getD, List.getElem?_map, List.getElem?_eq_getElem hi]
      rfl) dst hd]
    congr 2
    apply ByteArray.ext
    apply Array.toList_inj.1
    rw [strOfNums_data, List.map_map]
    have : ((fun n : Int => UInt8.ofNat n.toNat) ∘ fun b : UInt8 => (b.toNat : Int)) = id := by
      funext b
      simp
    rw [this, List.map_id]
end
section
variable {P : Program} (w : World)
/-- append of bytes onto a row of bytes that the call owns: a row of bytes that it owns. -/
theorem run_append_bytes (base : Nat) (t ty e : TypeId) (i : TypeInfo) (z : Value) (ht : P.underlying t = some (.slice e)) (hi : P.info? e = some i) (hz : i.zero = some z)
    (hsize : i.size = 1) (hby : i.bytes = 1) (hzs : z.cells.size = 1) (g cap : Nat) (l : List UInt8) (hown : Own w base e g cap l)
    (B : Nat) (src : Value) (m : List UInt8) (hr : Rd w B src (Lib.byteCells m)) (hn : l.length + m.length ≤ 4000000) (hbase : base ≤ w.heap.size) :
    ∃ g' cap' w', (Builtin.append_ #[t, t] ty #[.slice (some ⟨g, 0, none⟩) l.length cap, src]).run P w = .ok (.slice (some ⟨g', 0, none⟩) (l.length + m.length) cap') w' ∧ Own w' base e g' cap' (l ++ m) ∧ w.grownBy w' (some g) ∧
      (g' = g ∨ g' = w.heap.size) := by
  obtain ⟨v', w', hrun, h2, h3, h4⟩ := run_append_rd (P := P) w base t ty e i z 1 ht hi hz hsize hby hzs _ l.length (Lib.byteCells l) hown B src (Lib.byteCells m) hr (one_bytes m) (by rw [Lib.byteCells_length]; omega) (by rw [Lib.byteCells_length]; omega) hbase
  rw [Lib.byteCells_length, ← Lib.byteCells_append] at h2
  have hne : v' ≠ .slice none 0 0 := by
    intro e
    subst e
    rcases h4 with h | h <;> simp [Value.ownBlock] at h
  obtain ⟨g', cap', hv, ho⟩ := own_of h2 hne
  refine ⟨g', cap', w', ?_, ho, h3, ?_⟩
  · rw [hrun, hv, List.length_append]
  · rw [hv] at h4
    simpa [Value.ownBlock] using h4

theorem wpList_append_bytes {ops : Array Oper} {rest : List Oper} {o : Oper} {a : Act} {Q : Exit → Act → World → Prop} (hgd : o.guard = none) (s x : Operand) (t : TypeId)
    (ho : o.op = .call { callee := .builtin .append, args := #[s, x], argTypes := #[t, t] })
    (base : Nat) (e : TypeId) (i : TypeInfo) (z : Value) (ht : P.underlying t = some (.slice e)) (hi : P.info? e = some i) (hz : i.zero = some z)
    (hsize : i.size = 1) (hby : i.bytes = 1) (hzs : z.cells.size = 1) (g cap : Nat) (l : List UInt8) (hs : a.eval s = .slice (some ⟨g, 0, none⟩) l.length cap) (hown : Own w base e g cap l)
    (B : Nat) (src : Value) (m : List UInt8) (hx : a.eval x = src) (hr : Rd w B src (Lib.byteCells m)) (hn : l.length + m.length ≤ 4000000) (hbase : base ≤ w.heap.size)
    (h : ∀ g' cap' w', Own w' base e g' cap' (l ++ m) → w.grownBy w' (some g) → (g' = g ∨ g' = w.heap.size) → wpList P ops Q rest (a.put o.dst (.slice (some ⟨g', 0, none⟩) (l.length + m.length) cap')) w') : wpList P ops Q (o :: rest) a w := by
  refine wpList_plain hgd fun K hK => ?_
  obtain ⟨g', cap', w', hrun, h2, h3, h4⟩ := run_append_bytes (P := P) w base t o.type e i z ht hi hz hsize hby hzs g cap l hown B src m hr hn hbase
  unfold Oper.wp execOp
  simp only [ho, resolve, invoke, builtin, Sem.run_bind, Sem.run_pure, Result.andThen_ok, List.map_toArray, List.map_cons, List.map_nil, hs, hx, hrun]
  exact hK _ _ (h g' cap' w' h2 h3 h4)
end

/-- A row of no byte, in a block that was just made. -/
theorem own_nil (w : World) (e : TypeId) : Own (w.alloc (.cells #[] e)) w.heap.size e w.heap.size 0 [] := World.ownsRow_lit w #[] 0 (Nat.le_refl _) (by decide) (by simp)
end Go.Proofs.YtmplkbnajohheaaDoor.Aid
