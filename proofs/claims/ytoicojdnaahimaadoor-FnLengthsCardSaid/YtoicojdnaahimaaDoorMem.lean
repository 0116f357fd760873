/- Words for memory that is written: which blocks a call may turn; a struct's cells; a row of numbers. Of no program. -/
import Derived.Test.YtoicojdnaahimaaDoorAid
import Derived.Below
namespace Go.Proofs.YtoicojdnaahimaaDoor.Aid
open Go Go.RowKit

/-- Only blocks of S may have turned; new ones may have come. -/
structure Turn (S : Nat → Prop) (w w' : World) : Prop where
  os : w'.os = w.os
  tape : w'.tape = w.tape
  output : w'.output = w.output
  size : w.heap.size ≤ w'.heap.size
  block : ∀ k, k < w.heap.size → ¬ S k → w'.heap[k]? = w.heap[k]?

section
variable {S T : Nat → Prop} {w w' a b c : World}
theorem Turn.refl (S : Nat → Prop) (w : World) : Turn S w w := ⟨rfl, rfl, rfl, Nat.le_refl _, fun _ _ _ => rfl⟩
theorem Turn.trans (h : Turn S a b) (k : Turn S b c) : Turn S a c :=
  ⟨k.os.trans h.os, k.tape.trans h.tape, k.output.trans h.output, Nat.le_trans h.size k.size, fun i hi hs => (k.block i (Nat.lt_of_lt_of_le hi h.size) hs).trans (h.block i hi hs)⟩
theorem Turn.mono (h : Turn S a b) (hs : ∀ k, k < a.heap.size → S k → T k) : Turn T a b :=
  ⟨h.os, h.tape, h.output, h.size, fun i hi ht => h.block i hi (fun s => ht (hs i hi s))⟩
theorem Turn.of_below {B : Nat} (h : Below B a b) : Turn (fun k => B ≤ k) a b := ⟨h.os, h.tape, h.output, h.size, fun i _ ht => h.block i (by omega)⟩
theorem Turn.of_below_all {B : Nat} (h : Below B a b) (hB : a.heap.size ≤ B) : Turn S a b := ⟨h.os, h.tape, h.output, h.size, fun i hi _ => h.block i (by omega)⟩
theorem Turn.below {B : Nat} (h : Turn S a b) (hB : B ≤ a.heap.size) (hs : ∀ k, S k → B ≤ k) : Below B a b :=
  ⟨h.os, h.tape, h.output, h.size, fun i hi => h.block i (by omega) (fun s => by have := hs i s; omega)⟩
theorem Turn.drew (h : Turn S a w) : Turn S a w.drew := ⟨h.os, h.tape, h.output, h.size, h.block⟩
theorem Turn.drewN (h : Turn S a w) (n : Nat) : Turn S a (w.drewN n) := ⟨h.os, h.tape, h.output, h.size, h.block⟩
theorem Turn.alloc (h : Turn S a w) (o : Obj) : Turn S a (w.alloc o) :=
  ⟨h.os, h.tape, h.output, by have := h.size; simp; omega, fun i hi hs => (Below.heap_alloc w o i (Nat.lt_of_lt_of_le hi h.size)).trans (h.block i hi hs)⟩
theorem Turn.setCell (h : Turn S a w) {p : Addr} (hp : S p.block) (u : Value) : Turn S a (w.setCell p u) :=
  ⟨h.os, h.tape, h.output, by have := h.size; simpa using this, fun i hi hs => (Below.heap_setCell w p u i (fun e => hs (e ▸ hp))).trans (h.block i hi hs)⟩
theorem Turn.setNew (h : Turn S a w) {p : Addr} (hp : a.heap.size ≤ p.block) (u : Value) : Turn S a (w.setCell p u) :=
  ⟨h.os, h.tape, h.output, by have := h.size; simpa using this, fun i hi hs => (Below.heap_setCell w p u i (fun e => by subst e; omega)).trans (h.block i hi hs)⟩
theorem Turn.grown {row : Option Nat} (h : Turn S a w) (hg : w.grownBy w' row) (hr : ∀ k, row = some k → k < a.heap.size → S k) : Turn S a w' :=
  ⟨hg.os.trans h.os, hg.tape.trans h.tape, hg.output.trans h.output, Nat.le_trans h.size hg.size, fun i hi hs =>
    (hg.block i (Nat.lt_of_lt_of_le hi h.size) (fun e => hs (hr i e.symm hi))).trans (h.block i hi hs)⟩
/-- Behind a step that may turn blocks of T: those that stood at the beginning lie in S. -/
theorem Turn.then (h : Turn S a b) (k : Turn T b c) (ht : ∀ i, i < a.heap.size → T i → S i) : Turn S a c :=
  ⟨k.os.trans h.os, k.tape.trans h.tape, k.output.trans h.output, Nat.le_trans h.size k.size, fun i hi hs =>
    (k.block i (Nat.lt_of_lt_of_le hi h.size) (fun t => hs (ht i hi t))).trans (h.block i hi hs)⟩
theorem Turn.cell (h : Turn S w w') {p : Addr} (hp : p.block < w.heap.size) (hs : ¬ S p.block) : w'.cell? p = w.cell? p := World.cell?_of_block (w := w) (h.block p.block hp hs)
end

/-- What a call owns stays where other blocks turn. -/
theorem own_turn {S : Nat → Prop} {w w' : World} {base e size n : Nat} {v : Value} {xs : List Value} (h : w.ownsRow base e size v n xs) (ht : Turn S w w') (hs : ∀ k, v.ownBlock = some k → ¬ S k) : w'.ownsRow base e size v n xs := by
  refine ⟨h.1, ?_⟩
  rcases h.2 with hl | ⟨g, cap, cur, rfl, hb, hg, hr⟩
  · exact .inl hl
  · exact .inr ⟨g, cap, cur, rfl, hb, (ht.block g (Array.getElem?_eq_some_iff.1 hg).1 (hs g rfl)).trans hg, hr⟩
theorem rd_turn {S : Nat → Prop} {w w' : World} {B : Nat} {v : Value} {xs : List Value} (h : Rd w B v xs) (ht : Turn S w w') (hB : B ≤ w.heap.size) (hs : ∀ k, k < B → ¬ S k) : Rd w' B v xs :=
  h.keep fun p hp => ht.cell (by omega) (hs _ hp)

/-- A struct, or an array, that the call owns: its cells. -/
def St (w : World) (base e g : Nat) (xs : List Value) : Prop := w.ownsRow base e xs.length (.slice (some ⟨g, 0, none⟩) 1 1) 1 xs

section
variable {w w' : World} {base e g : Nat} {xs : List Value}
theorem St.made (w : World) (e : TypeId) (cs : Array Value) : St (w.alloc (.cells cs e)) w.heap.size e w.heap.size cs.toList :=
  World.ownsRow_lit w cs 1 (Nat.le_refl _) (by decide) (by simp)
theorem St.cell (h : St w base e g xs) {j : Nat} {u : Value} (hj : xs[j]? = some u) : w.cell? ⟨g, j, none⟩ = some u := by
  have := (List.getElem?_eq_some_iff.1 hj).1
  rw [World.ownsRow.cellAt h j (by omega), hj]
theorem St.frozen (h : St w base e g xs) (j : Nat) : w.frozen? ⟨g, j, none⟩ = false := World.ownsRow.frozenAt h j
theorem St.set (h : St w base e g xs) (j : Nat) (u : Value) : St (w.setCell ⟨g, j, none⟩ u) base e g (xs.set j u) := by
  have h1 := (World.ownsRow.stored h j u).1
  unfold St
  rw [List.length_set]
  exact h1
theorem St.lt (h : St w base e g xs) : g < w.heap.size := (World.ownsRow.lt h g rfl).2
theorem St.base_le (h : St w base e g xs) : base ≤ g := (World.ownsRow.lt h g rfl).1
theorem St.drew (h : St w base e g xs) : St w.drew base e g xs := h
theorem St.drewN (h : St w base e g xs) (n : Nat) : St (w.drewN n) base e g xs := h
theorem St.turn {S : Nat → Prop} (h : St w base e g xs) (ht : Turn S w w') (hs : ¬ S g) : St w' base e g xs := own_turn h ht (fun k hk => by cases hk; exact hs)
theorem St.alloc (h : St w base e g xs) (o : Obj) : St (w.alloc o) base e g xs := World.ownsRow.alloc h o
theorem St.other (h : St w base e g xs) {p : Addr} (hp : p.block ≠ g) (u : Value) : St (w.setCell p u) base e g xs :=
  h.turn (S := fun k => k = p.block) (Turn.setCell (S := fun k => k = p.block) (Turn.refl _ _) rfl u) (fun e => hp e.symm)
theorem St.low (h : St w base e g xs) {base' : Nat} (hb : base' ≤ base) : St w base' e g xs := by
  refine ⟨h.1, ?_⟩
  rcases h.2 with hl | ⟨g, cap, cur, e1, hb1, hr⟩
  · exact .inl hl
  · exact .inr ⟨g, cap, cur, e1, by omega, hr⟩
end

/-- Numbers as cells. -/
def nums (k : IntKind) (l : List Nat) : List Value := l.map fun n : Nat => .int k (n : Int)
theorem nums_length (k : IntKind) (l : List Nat) : (nums k l).length = l.length := by simp [nums]
theorem nums_get {k : IntKind} {l : List Nat} {j : Nat} (hj : j < l.length) : (nums k l)[j]? = some (.int k ((l.getD j 0 : Nat) : Int)) := by
  unfold nums
  rw [List.getElem?_map, List.getElem?_eq_getElem hj, List.getD_eq_getElem?_getD, List.getElem?_eq_getElem hj]
  rfl
theorem nums_one (k : IntKind) (l : List Nat) : ∀ u ∈ nums k l, u.oneCell' = true := by
  intro u hu
  simp only [nums, List.mem_map] at hu
  obtain ⟨b, _, rfl⟩ := hu
  rfl
theorem nums_bytes (l : List UInt8) : Lib.byteCells l = nums .u8 (l.map (·.toNat)) := by
  simp [Lib.byteCells, nums]

/-- A row of numbers that the call owns, at the head of block g. -/
def Row (k : IntKind) (w : World) (base e g cap : Nat) (l : List Nat) : Prop := w.ownsRow base e 1 (.slice (some ⟨g, 0, none⟩) l.length cap) l.length (nums k l)

section
variable {k : IntKind} {w w' : World} {base e g cap : Nat} {l : List Nat}
theorem Row.cell (h : Row k w base e g cap l) {j : Nat} (hj : j < l.length) : w.cell? ⟨g, j, none⟩ = some (.int k ((l.getD j 0 : Nat) : Int)) := by
  rw [World.ownsRow.cellAt h j (by omega), nums_get hj]
theorem Row.frozen (h : Row k w base e g cap l) (j : Nat) : w.frozen? ⟨g, j, none⟩ = false := World.ownsRow.frozenAt h j
theorem Row.set (h : Row k w base e g cap l) (j x : Nat) {v : Int} (hv : v = x) : Row k (w.setCell ⟨g, j, none⟩ (.int k v)) base e g cap (l.set j x) := by
  subst hv
  have h1 := (World.ownsRow.stored h j (.int k (x : Int))).1
  unfold Row
  rw [List.length_set]
  have e1 : (nums k l).set j (.int k (x : Int)) = nums k (l.set j x) := by
    unfold nums
    rw [List.map_set]
  rw [← e1]
  exact h1
theorem Row.drew (h : Row k w base e g cap l) : Row k w.drew base e g cap l := h
theorem Row.drewN (h : Row k w base e g cap l) (n : Nat) : Row k (w.drewN n) base e g cap l := h
theorem Row.base_le (h : Row k w base e g cap l) : base ≤ g := (World.ownsRow.lt h g rfl).1
theorem Row.lt (h : Row k w base e g cap l) : g < w.heap.size := (World.ownsRow.lt h g rfl).2
theorem Row.turn {S : Nat → Prop} (h : Row k w base e g cap l) (ht : Turn S w w') (hs : ¬ S g) : Row k w' base e g cap l := own_turn h ht (fun k hk => by cases hk; exact hs)
theorem Row.alloc (h : Row k w base e g cap l) (o : Obj) : Row k (w.alloc o) base e g cap l := World.ownsRow.alloc h o
theorem Row.other (h : Row k w base e g cap l) {p : Addr} (hp : p.block ≠ g) (u : Value) : Row k (w.setCell p u) base e g cap l :=
  h.turn (S := fun k => k = p.block) (Turn.setCell (S := fun k => k = p.block) (Turn.refl _ _) rfl u) (fun e => hp e.symm)
theorem Row.rd (h : Row k w base e g cap l) : Rd w w.heap.size (.slice (some ⟨g, 0, none⟩) l.length cap) (nums k l) := Rd.own h
theorem Row.rdAt (h : Row k w base e g cap l) : Rd w (g + 1) (.slice (some ⟨g, 0, none⟩) l.length cap) (nums k l) := by
  obtain ⟨A, c, hv, hl, hc, hx⟩ := h.rd
  refine ⟨A, c, hv, hl, hc, fun hn => ?_⟩
  obtain ⟨g', o, hA, hg, hcell⟩ := hx hn
  subst hA
  simp only [Value.slice.injEq, Option.some.injEq, Addr.mk.injEq] at hv
  exact ⟨g', o, rfl, by omega, hcell⟩
theorem Row.caps (h : Row k w base e g cap l) : l.length ≤ cap ∧ cap ≤ 9223372036854775807 := by
  rcases h.2 with ⟨h', _⟩ | ⟨g', cap', cur, h', _, _, hn, hc, _⟩
  · cases h'
  · injection h' with _ _ h3
    subst h3
    exact ⟨hn, by simpa [maxLen] using hc⟩
theorem Row.low (h : Row k w base e g cap l) {base' : Nat} (hb : base' ≤ base) : Row k w base' e g cap l := by
  refine ⟨h.1, ?_⟩
  rcases h.2 with hl | ⟨g, cap, cur, e1, hb1, hr⟩
  · exact .inl hl
  · exact .inr ⟨g, cap, cur, e1, by omega, hr⟩
theorem row_nil (k : IntKind) (w : World) (e : TypeId) : Row k (w.alloc (.cells #[] e)) w.heap.size e w.heap.size 0 [] := World.ownsRow_lit w #[] 0 (Nat.le_refl _) (by decide) (by simp)
theorem row_of {v : Value} {n : Nat} (h : w.ownsRow base e 1 v n (nums k l)) (hne : v ≠ .slice none 0 0) : ∃ g cap, v = .slice (some ⟨g, 0, none⟩) l.length cap ∧ Row k w base e g cap l := by
  have hl : l.length = n := by have := h.1; rw [nums_length] at this; omega
  subst hl
  rcases h.2 with ⟨h', _⟩ | ⟨g, cap, cur, rfl, _⟩
  · exact absurd h' hne
  · exact ⟨g, cap, rfl, h⟩
end

section
variable {P : Program} (w : World)
/-- append of numbers onto such a row. -/
theorem run_append_nums (k : IntKind) (base : Nat) (t ty e : TypeId) (i : TypeInfo) (z : Value) (bytes : Nat) (ht : P.underlying t = some (.slice e)) (hi : P.info? e = some i) (hz : i.zero = some z)
    (hsize : i.size = 1) (hby : i.bytes = bytes) (hzs : z.cells.size = 1) (g cap : Nat) (l : List Nat) (hown : Row k w base e g cap l)
    (B : Nat) (src : Value) (m : List Nat) (hr : Rd w B src (nums k m)) (hb8 : bytes ≤ 8) (hn : l.length + m.length ≤ 4000000) (hbase : base ≤ w.heap.size) :
    ∃ g' cap' w', (Builtin.append_ #[t, t] ty #[.slice (some ⟨g, 0, none⟩) l.length cap, src]).run P w = .ok (.slice (some ⟨g', 0, none⟩) (l.length + m.length) cap') w' ∧ Row k w' base e g' cap' (l ++ m) ∧ w.grownBy w' (some g) ∧
      (g' = g ∨ g' = w.heap.size) := by
  obtain ⟨v', w', hrun, h2, h3, h4⟩ := run_append_rd (P := P) w base t ty e i z bytes ht hi hz hsize hby hzs _ l.length (nums k l) hown B src (nums k m) hr (nums_one k m) (by rw [nums_length]; omega) (by
    rw [nums_length]
    have : (l.length + m.length) * bytes ≤ 4000000 * 8 := Nat.mul_le_mul hn hb8
    omega) hbase
  have e1 : nums k l ++ nums k m = nums k (l ++ m) := by simp [nums]
  rw [nums_length, e1] at h2
  have hne : v' ≠ .slice none 0 0 := by
    intro e
    subst e
    rcases h4 with h | h <;> simp [Value.ownBlock] at h
  obtain ⟨g', cap', hv, ho⟩ := row_of h2 hne
  refine ⟨g', cap', w', ?_, ho, h3, ?_⟩
  · rw [hrun, hv, List.length_append]
  · rw [hv] at h4
    simpa [Value.ownBlock] using h4

theorem wpList_append_nums {ops : Array Oper} {rest : List Oper} {o : Oper} {a : Act} {Q : Exit → Act → World → Prop} (hgd : o.guard = none) (s x : Operand) (t : TypeId)
    (ho : o.op = .call { callee := .builtin .append, args := #[s, x], argTypes := #[t, t] })
    (k : IntKind) (base : Nat) (e : TypeId) (i : TypeInfo) (z : Value) (bytes : Nat) (ht : P.underlying t = some (.slice e)) (hi : P.info? e = some i) (hz : i.zero = some z)
    (hsize : i.size = 1) (hby : i.bytes = bytes) (hzs : z.cells.size = 1) (hb8 : bytes ≤ 8) (g cap : Nat) (l : List Nat) (hs : a.eval s = .slice (some ⟨g, 0, none⟩) l.length cap) (hown : Row k w base e g cap l)
    (B : Nat) (src : Value) (m : List Nat) (hx : a.eval x = src) (hr : Rd w B src (nums k m)) (hn : l.length + m.length ≤ 4000000) (hbase : base ≤ w.heap.size)
    (h : ∀ g' cap' w', Row k w' base e g' cap' (l ++ m) → w.grownBy w' (some g) → (g' = g ∨ g' = w.heap.size) → wpList P ops Q rest (a.put o.dst (.slice (some ⟨g', 0, none⟩) (l.length + m.length) cap')) w') : wpList P ops Q (o :: rest) a w := by
  refine wpList_plain hgd fun K hK => ?_
  obtain ⟨g', cap', w', hrun, h2, h3, h4⟩ := run_append_nums (P := P) w k base t o.type e i z bytes ht hi hz hsize hby hzs g cap l hown B src m hr hb8 hn hbase
  unfold Oper.wp execOp
  simp only [ho, resolve, invoke, builtin, Sem.run_bind, Sem.run_pure, Result.andThen_ok, List.map_toArray, List.map_cons, List.map_nil, hs, hx, hrun]
  exact hK _ _ (h g' cap' w' h2 h3 h4)
/-- append of numbers, one at least, onto what the call owns, be it nil. -/
theorem wpList_append_push {ops : Array Oper} {rest : List Oper} {o : Oper} {a : Act} {Q : Exit → Act → World → Prop} (hgd : o.guard = none) (s x : Operand) (t : TypeId)
    (ho : o.op = .call { callee := .builtin .append, args := #[s, x], argTypes := #[t, t] })
    (k : IntKind) (base : Nat) (e : TypeId) (i : TypeInfo) (z : Value) (bytes : Nat) (ht : P.underlying t = some (.slice e)) (hi : P.info? e = some i) (hz : i.zero = some z)
    (hsize : i.size = 1) (hby : i.bytes = bytes) (hzs : z.cells.size = 1) (hb8 : bytes ≤ 8) (v : Value) (l : List Nat) (hs : a.eval s = v) (hown : w.ownsRow base e 1 v l.length (nums k l))
    (B : Nat) (src : Value) (m : List Nat) (hx : a.eval x = src) (hr : Rd w B src (nums k m)) (hm : 0 < m.length) (hn : l.length + m.length ≤ 4000000) (hbase : base ≤ w.heap.size)
    (h : ∀ g' cap' w', Row k w' base e g' cap' (l ++ m) → w.grownBy w' v.ownBlock → (v.ownBlock = some g' ∨ g' = w.heap.size) → wpList P ops Q rest (a.put o.dst (.slice (some ⟨g', 0, none⟩) (l.length + m.length) cap')) w') : wpList P ops Q (o :: rest) a w := by
  refine wpList_append_rd (P := P) w hgd s x t ho base e i z bytes ht hi hz hsize hby hzs v l.length (nums k l) hs hown B src (nums k m) hx hr (nums_one k m) (by rw [nums_length]; omega) (by
    rw [nums_length]
    have : (l.length + m.length) * bytes ≤ 4000000 * 8 := Nat.mul_le_mul hn hb8
    omega) hbase ?_
  intro v' w' h2 h3 h4
  have e1 : nums k l ++ nums k m = nums k (l ++ m) := by simp [nums]
  rw [nums_length, e1] at h2
  have hne : v' ≠ .slice none 0 0 := by
    intro e
    subst e
    have := h2.1
    rcases h2.2 with ⟨_, h0⟩ | ⟨_, _, _, h0, _⟩
    · omega
    · cases h0
  obtain ⟨g', cap', rfl, ho⟩ := row_of h2 hne
  have hat : v.ownBlock = some g' ∨ g' = w.heap.size := by
    rcases h4 with h4 | h4
    · exact .inl h4.symm
    · simp [Value.ownBlock] at h4; exact .inr h4
  have := h g' cap' w' ho h3 hat
  rwa [show (l ++ m).length = l.length + m.length by simp]
end
end Go.Proofs.YtoicojdnaahimaaDoor.Aid
