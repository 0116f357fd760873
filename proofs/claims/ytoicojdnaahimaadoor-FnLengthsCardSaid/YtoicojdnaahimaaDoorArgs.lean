/- What a slice of bytes that came in is worth: it reads as a list of bytes. Of no program. -/
import Derived.Test.YtoicojdnaahimaaDoorAid
import Derived.OpenShut
namespace Go.Proofs.YtoicojdnaahimaaDoor.Aid
open Go Go.RowKit

/-- What the walk is told of a slice of integers that came in: nil, or a row of cells. -/
def IsRow (k : IntKind) (w : World) (a : Option Addr) (len cap : Nat) (zs : List Int) : Prop :=
  (a = none ∧ len = 0 ∧ cap = 0 ∧ zs = []) ∨
  ∃ x, a = some x ∧ len ≤ cap ∧ cap ≤ maxLen ∧ zs.length = cap ∧ (∀ i, i < zs.length → w.cell? (x.add i) = some (.int k (zs.getD i 0))) ∧ ∀ n ∈ zs, (Lit.int k n).wf = true

theorem cells_u8 : ∀ zs : List Int, (∀ n ∈ zs, (Lit.int .u8 n).wf = true) → ∃ l : List UInt8, l.length = zs.length ∧ Lib.byteCells l = zs.map (Value.int .u8)
  | [], _ => ⟨[], rfl, rfl⟩
  | z :: r, h => by
    obtain ⟨l, hl, hc⟩ := cells_u8 r (fun n hn => h n (by simp [hn]))
    have hz := bounds_u8 (h z (by simp))
    refine ⟨z.toNat.toUInt8 :: l, by simp [hl], ?_⟩
    have e : ((z.toNat.toUInt8).toNat : Int) = z := by rw [Lib.toUInt8_toNat (by omega)]; omega
    simp only [Lib.byteCells, List.map_cons] at hc ⊢
    rw [hc, e]

theorem isRow_cells {k : IntKind} {w : World} {a : Option Addr} {len cap : Nat} {zs : List Int} (h : IsRow k w a len cap zs) : len ≤ cap ∧ cap ≤ 9223372036854775807 ∧
    (0 < len → ∃ g o : Nat, a = some ⟨g, o, none⟩ ∧ g < w.heap.size ∧ ∀ j, j < len → w.cell? ⟨g, o + j, none⟩ = some (.int k (zs.getD j 0))) := by
  rcases h with ⟨rfl, rfl, rfl, rfl⟩ | ⟨x, rfl, hlc, hm, hz, hcell, hwf⟩
  · exact ⟨by omega, by omega, fun h => by omega⟩
  · refine ⟨hlc, by simpa [maxLen] using hm, fun hpos => ?_⟩
    obtain ⟨b, off, spot⟩ := x
    have hc0 := hcell 0 (by omega)
    have hspot : spot = none := by simpa [Addr.add] using World.cell?_spot hc0
    subst hspot
    have hb := World.block_lt_of_cell? w _ hc0
    have e : ∀ j, (⟨b, off, none⟩ : Addr).add j = ⟨b, off + j, none⟩ := by intro j; unfold Addr.add; split <;> simp_all
    refine ⟨b, off, rfl, by simpa [Addr.add] using hb, fun j hj => ?_⟩
    rw [← e]
    exact hcell j (by omega)

/-- A slice of bytes that came in reads as its bytes. -/
theorem rd_of_row {w : World} {a : Option Addr} {len cap : Nat} {zs : List Int} (h : IsRow .u8 w a len cap zs) : ∃ l : List UInt8, l.length = len ∧ Rd w w.heap.size (.slice a len cap) (Lib.byteCells l) := by
  have hw : ∀ n ∈ zs, (Lit.int .u8 n).wf = true := by
    rcases h with ⟨rfl, rfl, rfl, rfl⟩ | ⟨x, rfl, hlc, hm, hz, hcell, hwf⟩
    · intro n hn; cases hn
    · exact hwf
  have hlen : len ≤ zs.length := by
    rcases h with ⟨rfl, rfl, rfl, rfl⟩ | ⟨x, rfl, hlc, hm, hz, hcell, hwf⟩
    · simp
    · omega
  obtain ⟨h1, h2, h3⟩ := isRow_cells h
  obtain ⟨l, hl, hc⟩ := cells_u8 (zs.take len) (fun n hn => hw n (List.mem_of_mem_take hn))
  rw [List.length_take, Nat.min_eq_left hlen] at hl
  refine ⟨l, hl, a, cap, by rw [Lib.byteCells_length, hl], by rw [Lib.byteCells_length, hl]; exact h1, h2, fun hp => ?_⟩
  rw [Lib.byteCells_length, hl] at hp
  obtain ⟨g, o, ha, hg, hcell⟩ := h3 hp
  refine ⟨g, o, ha, hg, fun j u hu => ?_⟩
  have hj : j < len := by
    have := (List.getElem?_eq_some_iff.1 hu).1
    rw [Lib.byteCells_length, hl] at this
    exact this
  rw [hc, List.getElem?_map, List.getElem?_take, if_pos hj, List.getElem?_eq_getElem (by omega)] at hu
  simp only [Option.map_some, Option.some.injEq] at hu
  subst hu
  rw [hcell j hj, List.getD_eq_getElem?_getD, List.getElem?_eq_getElem (by omega)]
  rfl
end Go.Proofs.YtoicojdnaahimaaDoor.Aid
