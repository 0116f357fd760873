/- What the two laws hand on: rows of numbers that came in, the symbols that have codes, the text with four bytes behind it. Of no program. -/
import Derived.Test.YtoicojdnaahimaaDoorText
import Derived.Test.YtoicojdnaahimaaDoorArgs
namespace Go.Proofs.YtoicojdnaahimaaDoor.Law
open Go Go.RowKit Go.Proofs.YtoicojdnaahimaaDoor.Aid Go.Proofs.YtoicojdnaahimaaDoor.Len Go.Proofs.YtoicojdnaahimaaDoor.Cod

theorem cells_u16 : ∀ zs : List Int, (∀ n ∈ zs, (Lit.int .u16 n).wf = true) → ∃ l : List Nat, l.length = zs.length ∧ nums .u16 l = zs.map (Value.int .u16) ∧ ∀ j, l.getD j 0 < 65536
  | [], _ => ⟨[], rfl, rfl, fun j => by simp⟩
  | z :: r, h => by
    obtain ⟨l, hl, hc, hb⟩ := cells_u16 r (fun n hn => h n (by simp [hn]))
    have hz := bounds_u16 (h z (by simp))
    refine ⟨z.toNat :: l, by simp [hl], ?_, fun j => ?_⟩
    · have e : ((z.toNat : Nat) : Int) = z := by omega
      simp only [nums, List.map_cons] at hc ⊢
      rw [hc, e]
    · cases j with
      | zero => simp; omega
      | succ j => simpa using hb j

/-- A slice of numbers of sixteen bits that came in reads as its numbers. -/
theorem rd_of_row16 {w : World} {a : Option Addr} {len cap : Nat} {zs : List Int} (h : IsRow .u16 w a len cap zs) : ∃ l : List Nat, l.length = len ∧ (∀ j, l.getD j 0 < 65536) ∧ Rd w w.heap.size (.slice a len cap) (nums .u16 l) := by
  have hw : ∀ n ∈ zs, (Lit.int .u16 n).wf = true := by
    rcases h with ⟨rfl, rfl, rfl, rfl⟩ | ⟨x, rfl, hlc, hm, hz, hcell, hwf⟩
    · intro n hn; cases hn
    · exact hwf
  have hlen : len ≤ zs.length := by
    rcases h with ⟨rfl, rfl, rfl, rfl⟩ | ⟨x, rfl, hlc, hm, hz, hcell, hwf⟩
    · simp
    · omega
  obtain ⟨h1, h2, h3⟩ := isRow_cells h
  obtain ⟨l, hl, hc, hb⟩ := cells_u16 (zs.take len) (fun n hn => hw n (List.mem_of_mem_take hn))
  rw [List.length_take, Nat.min_eq_left hlen] at hl
  refine ⟨l, hl, hb, a, cap, by rw [nums_length, hl], by rw [nums_length, hl]; exact h1, h2, fun hp => ?_⟩
  rw [nums_length, hl] at hp
  obtain ⟨g, o, ha, hg, hcell⟩ := h3 hp
  refine ⟨g, o, ha, hg, fun j u hu => ?_⟩
  have hj : j < len := by
    have := (List.getElem?_eq_some_iff.1 hu).1
    rw [nums_length, hl] at this
    exact this
  rw [hc, List.getElem?_map, List.getElem?_take, if_pos hj, List.getElem?_eq_getElem (by omega)] at hu
  simp only [Option.map_some, Option.some.injEq] at hu
  subst hu
  rw [hcell j hj, List.getD_eq_getElem?_getD, List.getElem?_eq_getElem (by omega)]
  rfl

/-- The symbols below j that have a code. -/
def th (ls : List Nat) (j : Nat) : List Nat := (List.range j).filter fun i => decide (0 < ls.getD i 0)
theorem th_zero (ls : List Nat) : th ls 0 = [] := rfl
theorem th_skip {ls : List Nat} {j : Nat} (h : ls.getD j 0 = 0) : th ls (j + 1) = th ls j := by
  unfold th
  rw [List.range_succ, List.filter_append, List.filter_cons_of_neg (by rw [h]; decide)]
  simp
theorem th_add {ls : List Nat} {j : Nat} (h : 0 < ls.getD j 0) : th ls (j + 1) = th ls j ++ [j] := by
  unfold th
  rw [List.range_succ, List.filter_append, List.filter_cons_of_pos (p := fun i => decide (0 < ls.getD i 0)) (decide_eq_true h)]
  rfl
theorem th_len (ls : List Nat) (j : Nat) : (th ls j).length ≤ j := by
  unfold th
  have := List.length_filter_le (fun i => decide (0 < ls.getD i 0)) (List.range j)
  simpa using this
theorem th_mem {ls : List Nat} {j i : Nat} (hi : i < (th ls j).length) : (th ls j).getD i 0 < j ∧ 0 < ls.getD ((th ls j).getD i 0) 0 := by
  have hm : (th ls j).getD i 0 ∈ th ls j := by
    rw [List.getD_eq_getElem?_getD, List.getElem?_eq_getElem hi, Option.getD_some]
    exact List.getElem_mem hi
  unfold th at hm ⊢
  rw [List.mem_filter] at hm
  exact ⟨List.mem_range.1 hm.1, of_decide_eq_true hm.2⟩
theorem th_pos {ls : List Nat} (h : Full ls) : 0 < (th ls ls.length).length := by
  refine Decidable.byContradiction fun h0 => ?_
  have hn : th ls ls.length = [] := List.eq_nil_of_length_eq_zero (by omega)
  have hz : ∀ x ∈ ls, x = 0 := by
    intro x hx
    obtain ⟨j, hj, e⟩ := List.getElem_of_mem hx
    refine Decidable.byContradiction fun hx0 => ?_
    have hm : j ∈ th ls ls.length := by
      unfold th
      rw [List.mem_filter]
      refine ⟨List.mem_range.2 hj, decide_eq_true ?_⟩
      rw [List.getD_eq_getElem?_getD, List.getElem?_eq_getElem hj, Option.getD_some, e]
      omega
    rw [hn] at hm
    cases hm
  have hK : K ls = 0 := by
    have : ∀ l : List Nat, (∀ x ∈ l, x = 0) → K l = 0 := by
      intro l
      induction l with
      | nil => intro _; rfl
      | cons x r ih =>
        intro hl
        have h1 := ih (fun y hy => hl y (by simp [hy]))
        have h2 := hl x (by simp)
        simp only [K, List.map_cons, List.sum_cons] at h1 ⊢
        rw [h1, h2]
        rfl
    exact this ls hz
  have := h.worth
  omega

/-- The symbols that a text of numbers means. -/
def wants (t text : List Nat) : List Nat := text.map fun v => t.getD (v % t.length) 0
theorem wants_len (t text : List Nat) : (wants t text).length = text.length := by simp [wants]
theorem wants_take (t text : List Nat) {j : Nat} (hj : j < text.length) : wants t (text.take j) ++ [t.getD (text.getD j 0 % t.length) 0] = wants t (text.take (j + 1)) := by
  unfold wants
  rw [List.take_add_one, List.getElem?_eq_getElem hj, List.getD_eq_getElem?_getD (l := text), List.getElem?_eq_getElem hj, List.map_append]
  rfl
theorem wants_get {ls text : List Nat} (hf : Full ls) {j : Nat} (hj : j < text.length) : (wants (th ls ls.length) text).getD j 0 < ls.length ∧ 0 < ls.getD ((wants (th ls ls.length) text).getD j 0) 0 := by
  have e : (wants (th ls ls.length) text).getD j 0 = (th ls ls.length).getD (text.getD j 0 % (th ls ls.length).length) 0 := by
    unfold wants
    rw [List.getD_eq_getElem?_getD, List.getElem?_map, List.getElem?_eq_getElem hj, List.getD_eq_getElem?_getD (l := text), List.getElem?_eq_getElem hj]
    rfl
  rw [e]
  exact th_mem (Nat.mod_lt _ (th_pos hf))

theorem getD_append_left {l m : List Nat} {j : Nat} (h : j < l.length) : (l ++ m).getD j 0 = l.getD j 0 := by
  rw [List.getD_eq_getElem?_getD, List.getElem?_append_left h, List.getD_eq_getElem?_getD]
theorem bitAt_append {out m : List Nat} {p : Nat} (h : p / 8 < out.length) : bitAt (out ++ m) p = bitAt out p := by
  unfold bitAt
  rw [getD_append_left h]
/-- The text with four bytes behind it. -/
theorem texts_more {ls want out : List Nat} (hb : Bits out (posOf ls want want.length)) (h : Texts ls want want.length out) : Texts ls want want.length (out ++ [0, 0, 0, 0]) := by
  refine ⟨fun i hi => ?_⟩
  rw [← h.told i hi]
  refine win_congr _ fun k hk => bitAt_append ?_
  have h1 : posOf ls want (i + 1) ≤ posOf ls want want.length := posOf_mono ls want (by omega)
  have h2 : posOf ls want (i + 1) = posOf ls want i + ls.getD (want.getD i 0) 0 := rfl
  have h3 := hb.len
  omega
theorem four_bytes {out : List Nat} (h : ∀ j, out.getD j 0 < 256) (j : Nat) : (out ++ [0, 0, 0, 0]).getD j 0 < 256 := by
  by_cases hj : j < out.length
  · rw [getD_append_left hj]; exact h j
  · rw [List.getD_eq_getElem?_getD, List.getElem?_append_right (by omega)]
    have : ∀ i : Nat, (([0, 0, 0, 0] : List Nat)[i]?.getD 0 : Nat) < 256 := by
      intro i
      match i with
      | 0 => decide
      | 1 => decide
      | 2 => decide
      | 3 => decide
      | i + 4 => simp
    exact this _
/-- What the reference's lengths are worth. -/
theorem full_of {us : List Bool} {n ways m : Nat} {o : List Nat} (h : Len.Good us n (ways + m + 1) o) (hw : ways ≤ 5) (hm : 2 ^ m ≤ n) (hn : n ≤ 430) : Full o := by
  have h9 : m ≤ 8 := Decidable.byContradiction fun h9 => by
    have : 2 ^ 9 ≤ 2 ^ m := Nat.pow_le_pow_right (by omega) (by omega)
    omega
  exact ⟨fun i => by have := h.most i; omega, h.worth⟩
end Go.Proofs.YtoicojdnaahimaaDoor.Law
