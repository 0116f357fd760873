/- Words for memory, of no program: a slice value that reads as a list of cells; append of such a one onto a row that the call owns; small steps of worlds. -/
import Derived.WalkKit
import Derived.Maps.AppendAt
import Derived.Laws.OwnMore
import Derived.Deep.Draws
import Derived.Lib.Hide
import Derived.Lib.VarintMem
namespace Go.Proofs.YtoicojdnaahimaaDoor.Aid
open Go Go.RowKit

/-- The slice value v holds the cells xs (one cell an element); where it has an element it lies in a block below B. -/
def Rd (w : World) (B : Nat) (v : Value) (xs : List Value) : Prop :=
  ∃ (A : Option Addr) (c : Nat), v = .slice A xs.length c ∧ xs.length ≤ c ∧ c ≤ 9223372036854775807 ∧
    (0 < xs.length → ∃ g o : Nat, A = some ⟨g, o, none⟩ ∧ g < B ∧ ∀ j u, xs[j]? = some u → w.cell? ⟨g, o + j, none⟩ = some u)

section
variable {w w' : World} {B B' : Nat} {v : Value} {xs : List Value}

theorem Rd.keep (h : Rd w B v xs) (hk : ∀ p : Addr, p.block < B → w'.cell? p = w.cell? p) : Rd w' B v xs := by
  obtain ⟨A, c, hv, hl, hc, hx⟩ := h
  refine ⟨A, c, hv, hl, hc, fun hn => ?_⟩
  obtain ⟨g, o, hA, hg, hcell⟩ := hx hn
  exact ⟨g, o, hA, hg, fun j u hu => (hk _ hg).trans (hcell j u hu)⟩
theorem Rd.more (h : Rd w B v xs) (hB : B ≤ B') : Rd w B' v xs := by
  obtain ⟨A, c, hv, hl, hc, hx⟩ := h
  refine ⟨A, c, hv, hl, hc, fun hn => ?_⟩
  obtain ⟨g, o, hA, hg, hcell⟩ := hx hn
  exact ⟨g, o, hA, by omega, hcell⟩
theorem Rd.below (h : Rd w B v xs) (hb : Below B w w') : Rd w' B v xs := h.keep fun _ hp => hb.cell hp
theorem Rd.drew (h : Rd w B v xs) : Rd w.drew B v xs := h
theorem Rd.drewN (h : Rd w B v xs) (k : Nat) : Rd (w.drewN k) B v xs := h
theorem Rd.alloc (h : Rd w B v xs) (hB : B ≤ w.heap.size) (o : Obj) : Rd (w.alloc o) B v xs := h.keep fun p hp => World.cell?_alloc_lt w o p (by omega)
theorem Rd.setCell (h : Rd w B v xs) {p : Addr} (hB : B ≤ p.block) (u : Value) : Rd (w.setCell p u) B v xs :=
  h.keep fun q hq => World.cell?_setCell_other w p q u (fun e => by subst e; omega)
theorem Rd.grown (h : Rd w B v xs) {row : Option Nat} (hg : w.grownBy w' row) (hB : B ≤ w.heap.size) (hr : ∀ g, row = some g → B ≤ g) : Rd w' B v xs :=
  h.keep fun p hp => World.cell?_of_block (hg.block p.block (by omega) (fun e => by have := hr _ e.symm; omega))
theorem Rd.own {base : Nat} {e : TypeId} {n : Nat} (h : w.ownsRow base e 1 v n xs) : Rd w w.heap.size v xs := by
  have hl : xs.length = n := by simpa using h.1
  subst hl
  rcases h.2 with ⟨rfl, h0⟩ | ⟨g, cap, cur, rfl, _, hg, hn, hc, hs, ht⟩
  · exact ⟨none, 0, by rw [h0], by omega, by omega, fun hn => by omega⟩
  · refine ⟨some ⟨g, 0, none⟩, cap, rfl, hn, by simpa [maxLen] using hc, fun _ => ⟨g, 0, rfl, (Array.getElem?_eq_some_iff.1 hg).1, fun j u hu => ?_⟩⟩
    have := h.cells (g := g) rfl j u hu
    have e : (⟨g, 0, none⟩ : Addr).add j = ⟨g, 0 + j, none⟩ := by unfold Addr.add; split <;> simp_all
    rw [← e]
    exact this
end

section
variable {P : Program} (w : World)

theorem run_append_rd (base : Nat) (t ty e : TypeId) (i : TypeInfo) (z : Value) (bytes : Nat) (ht : P.underlying t = some (.slice e)) (hi : P.info? e = some i) (hz : i.zero = some z)
    (hsize : i.size = 1) (hby : i.bytes = bytes) (hzs : z.cells.size = 1)
    (v : Value) (n : Nat) (xs : List Value) (hown : w.ownsRow base e 1 v n xs)
    (B : Nat) (src : Value) (news : List Value) (hr : Rd w B src news) (h1 : ∀ u ∈ news, u.oneCell' = true)
    (h63 : n + news.length ≤ 9223372036854775807) (hbytes : (n + news.length) * bytes ≤ 140737488355328) (hbase : base ≤ w.heap.size) :
    ∃ v' w', (Builtin.append_ #[t, t] ty #[v, src]).run P w = .ok v' w' ∧ w'.ownsRow base e 1 v' (n + news.length) (xs ++ news) ∧ w.grownBy w' v.ownBlock ∧
      (v'.ownBlock = v.ownBlock ∨ v'.ownBlock = some w.heap.size) := by
  obtain ⟨A, c, rfl, hl, hc, hx⟩ := hr
  rcases A with _ | ad
  · have hn : news = [] := by
      rcases news with _ | ⟨x, r⟩
      · rfl
      · obtain ⟨g, o, h, _⟩ := hx (by simp)
        cases h
    subst hn
    refine ⟨v, w, ?_, by simpa using hown, ⟨rfl, rfl, rfl, Nat.le_refl _, fun _ _ _ => rfl⟩, .inl rfl⟩
    rcases hown.2 with ⟨rfl, rfl⟩ | ⟨g, cap, cur, rfl, _, _, hnc, _⟩
    · simp [Builtin.append_, run_underlying ht, sizeOf, typeInfo, hi, Builtin.lenOf, Builtin.firstCells]
    · simp [Builtin.append_, run_underlying ht, sizeOf, typeInfo, hi, Builtin.lenOf, Builtin.firstCells, hnc, storeCells]
  · have hcells : ∀ j u, news[j]? = some u → w.cell? (ad.add j) = some u := by
      intro j u hu
      have hj : j < news.length := (List.getElem?_eq_some_iff.1 hu).1
      obtain ⟨g, o, h, _, hcell⟩ := hx (by omega)
      injection h with h
      subst h
      have e : (⟨g, o, none⟩ : Addr).add j = ⟨g, o + j, none⟩ := by unfold Addr.add; split <;> simp_all
      rw [e]
      exact hcell j u hu
    obtain ⟨v', w', hrun, h2, h3, _, h5⟩ := run_append_own_at (P := P) w base t ty e i z 1 bytes ht hi hz hsize hby hzs (by omega) v n xs hown ad news.length c news (by simp) hcells h1 (by simpa [maxLen] using h63) hbytes hbase
    exact ⟨v', w', hrun, h2, h3, h5⟩

theorem wpList_append_rd {ops : Array Oper} {rest : List Oper} {o : Oper} {a : Act} {Q : Exit → Act → World → Prop} (hgd : o.guard = none) (s x : Operand) (t : TypeId)
    (ho : o.op = .call { callee := .builtin .append, args := #[s, x], argTypes := #[t, t] })
    (base : Nat) (e : TypeId) (i : TypeInfo) (z : Value) (bytes : Nat) (ht : P.underlying t = some (.slice e)) (hi : P.info? e = some i) (hz : i.zero = some z)
    (hsize : i.size = 1) (hby : i.bytes = bytes) (hzs : z.cells.size = 1)
    (v : Value) (n : Nat) (xs : List Value) (hs : a.eval s = v) (hown : w.ownsRow base e 1 v n xs)
    (B : Nat) (src : Value) (news : List Value) (hx : a.eval x = src) (hr : Rd w B src news) (h1 : ∀ u ∈ news, u.oneCell' = true)
    (h63 : n + news.length ≤ 9223372036854775807) (hbytes : (n + news.length) * bytes ≤ 140737488355328) (hbase : base ≤ w.heap.size)
    (h : ∀ v' w', w'.ownsRow base e 1 v' (n + news.length) (xs ++ news) → w.grownBy w' v.ownBlock → (v'.ownBlock = v.ownBlock ∨ v'.ownBlock = some w.heap.size) → wpList P ops Q rest (a.put o.dst v') w') : wpList P ops Q (o :: rest) a w := by
  refine wpList_plain hgd fun K hK => ?_
  obtain ⟨v', w', hrun, h2, h3, h4⟩ := run_append_rd (P := P) w base t o.type e i z bytes ht hi hz hsize hby hzs v n xs hown B src news hr h1 h63 hbytes hbase
  unfold Oper.wp execOp
  simp only [ho, resolve, invoke, builtin, Sem.run_bind, Sem.run_pure, Result.andThen_ok, List.map_toArray, List.map_cons, List.map_nil, hs, hx, hrun]
  exact hK _ _ (h v' w' h2 h3 h4)
end

/-- One new cell, in a block of its own. -/
theorem rd_one (w : World) (u : Value) (e : TypeId) : Rd (w.alloc (.cells #[u] e)) (w.heap.size + 1) (.slice (some ⟨w.heap.size, 0, none⟩) 1 1) [u] := by
  refine ⟨_, 1, rfl, by simp, by omega, fun _ => ⟨w.heap.size, 0, rfl, by omega, fun j x hx => ?_⟩⟩
  match j, hx with
  | 0, hx =>
    simp at hx; subst hx
    simp [go_sem]
theorem one_bytes (l : List UInt8) : ∀ u ∈ Lib.byteCells l, u.oneCell' = true := by
  intro u hu
  simp only [Lib.byteCells, List.mem_map] at hu
  obtain ⟨b, _, rfl⟩ := hu
  rfl
theorem own_form {w : World} {base e n : Nat} {v : Value} {xs : List Value} (h : w.ownsRow base e 1 v n xs) : ∃ (A : Option Addr) (c : Nat), v = .slice A n c := by
  rcases h.2 with ⟨rfl, rfl⟩ | ⟨g, cap, cur, rfl, _⟩
  · exact ⟨_, _, rfl⟩
  · exact ⟨_, _, rfl⟩
/-- What a call owns, grown by one of its own appends, still lies above. -/
theorem own_ge {w : World} {base e n : Nat} {v : Value} {xs : List Value} (h : w.ownsRow base e 1 v n xs) : ∀ k, v.ownBlock = some k → base ≤ k := fun k hk => (h.lt k hk).1
end Go.Proofs.YtoicojdnaahimaaDoor.Aid
