/- A decoder of codes in memory: its cells. -/
import Derived.Test.YtoicojdnaahimaaDoorCodePlain
import Derived.Test.YtoicojdnaahimaaDoorMake
import Derived.Laws.CopyOwn
namespace Go.Proofs.YtoicojdnaahimaaDoor.Dec
open Go Go.RowKit Go.Proofs.YtoicojdnaahimaaDoor.Aid Go.Proofs.YtoicojdnaahimaaDoor.Len Go.Proofs.YtoicojdnaahimaaDoor.Cod

/-- A function with one value turned. -/
def upd (f : Nat → Nat) (i v : Nat) (j : Nat) : Nat := if j = i then v else f j
theorem upd_same (f : Nat → Nat) (i v : Nat) : upd f i v i = v := by simp [upd]
theorem upd_other (f : Nat → Nat) {i j : Nat} (v : Nat) (h : j ≠ i) : upd f i v j = f j := by simp [upd, h]

/-- The decoder at block g: limits, places, the row of symbols, the least length, how many bits are looked up at once, and the two tables. -/
def Dec (w : World) (base g : Nat) (lim pos : Nat → Nat) (sym : Value) (mn qb : Nat) (ql qs : Nat → Nat) : Prop :=
  ∃ xs, St w base 67 g xs ∧ xs.length = 2083 ∧ (∀ j, j < 16 → xs[j]? = some (.int .u16 (lim j : Nat))) ∧ (∀ j, j < 16 → xs[16 + j]? = some (.int .u16 (pos j : Nat))) ∧ xs[32]? = some sym ∧
    xs[33]? = some (.int .u8 (mn : Nat)) ∧ xs[34]? = some (.int .u8 (qb : Nat)) ∧ (∀ j, j < 1024 → xs[35 + j]? = some (.int .u8 (ql j : Nat))) ∧ (∀ j, j < 1024 → xs[1059 + j]? = some (.int .u16 (qs j : Nat)))

section
variable {w w' : World} {base g : Nat} {lim pos : Nat → Nat} {sym : Value} {mn qb : Nat} {ql qs : Nat → Nat}
theorem Dec.cLim (h : Dec w base g lim pos sym mn qb ql qs) {j : Nat} (hj : j < 16) : w.cell? ⟨g, j, none⟩ = some (.int .u16 (lim j : Nat)) := by
  obtain ⟨xs, hst, _, h1, _⟩ := h; exact hst.cell (h1 j hj)
theorem Dec.cPos (h : Dec w base g lim pos sym mn qb ql qs) {j : Nat} (hj : j < 16) : w.cell? ⟨g, 16 + j, none⟩ = some (.int .u16 (pos j : Nat)) := by
  obtain ⟨xs, hst, _, _, h1, _⟩ := h; exact hst.cell (h1 j hj)
theorem Dec.cSym (h : Dec w base g lim pos sym mn qb ql qs) : w.cell? ⟨g, 32, none⟩ = some sym := by
  obtain ⟨xs, hst, _, _, _, h1, _⟩ := h; exact hst.cell h1
theorem Dec.cMn (h : Dec w base g lim pos sym mn qb ql qs) : w.cell? ⟨g, 33, none⟩ = some (.int .u8 (mn : Nat)) := by
  obtain ⟨xs, hst, _, _, _, _, h1, _⟩ := h; exact hst.cell h1
theorem Dec.cQb (h : Dec w base g lim pos sym mn qb ql qs) : w.cell? ⟨g, 34, none⟩ = some (.int .u8 (qb : Nat)) := by
  obtain ⟨xs, hst, _, _, _, _, _, h1, _⟩ := h; exact hst.cell h1
theorem Dec.cQl (h : Dec w base g lim pos sym mn qb ql qs) {j : Nat} (hj : j < 1024) : w.cell? ⟨g, 35 + j, none⟩ = some (.int .u8 (ql j : Nat)) := by
  obtain ⟨xs, hst, _, _, _, _, _, _, h1, _⟩ := h; exact hst.cell (h1 j hj)
theorem Dec.cQs (h : Dec w base g lim pos sym mn qb ql qs) {j : Nat} (hj : j < 1024) : w.cell? ⟨g, 1059 + j, none⟩ = some (.int .u16 (qs j : Nat)) := by
  obtain ⟨xs, hst, _, _, _, _, _, _, _, h1⟩ := h; exact hst.cell (h1 j hj)
theorem Dec.frozen (h : Dec w base g lim pos sym mn qb ql qs) (j : Nat) : w.frozen? ⟨g, j, none⟩ = false := by
  obtain ⟨xs, hst, _⟩ := h; exact hst.frozen j
theorem Dec.lt (h : Dec w base g lim pos sym mn qb ql qs) : g < w.heap.size := by obtain ⟨xs, hst, _⟩ := h; exact hst.lt
theorem Dec.base_le (h : Dec w base g lim pos sym mn qb ql qs) : base ≤ g := by obtain ⟨xs, hst, _⟩ := h; exact hst.base_le
theorem Dec.turn {S : Nat → Prop} (h : Dec w base g lim pos sym mn qb ql qs) (ht : Turn S w w') (hs : ¬ S g) : Dec w' base g lim pos sym mn qb ql qs := by
  obtain ⟨xs, hst, hr⟩ := h; exact ⟨xs, hst.turn ht hs, hr⟩
theorem Dec.other (h : Dec w base g lim pos sym mn qb ql qs) {p : Addr} (hp : p.block ≠ g) (u : Value) : Dec (w.setCell p u) base g lim pos sym mn qb ql qs := by
  obtain ⟨xs, hst, hr⟩ := h; exact ⟨xs, hst.other hp u, hr⟩
theorem Dec.alloc (h : Dec w base g lim pos sym mn qb ql qs) (o : Obj) : Dec (w.alloc o) base g lim pos sym mn qb ql qs := by
  obtain ⟨xs, hst, hr⟩ := h; exact ⟨xs, hst.alloc o, hr⟩
theorem Dec.drew (h : Dec w base g lim pos sym mn qb ql qs) : Dec w.drew base g lim pos sym mn qb ql qs := h
theorem Dec.drewN (h : Dec w base g lim pos sym mn qb ql qs) (n : Nat) : Dec (w.drewN n) base g lim pos sym mn qb ql qs := h
theorem get_set_ne {xs : List Value} {i j : Nat} (u : Value) (h : i ≠ j) : (xs.set i u)[j]? = xs[j]? := by rw [List.getElem?_set, if_neg h]
theorem get_set_eq {xs : List Value} {i : Nat} (u : Value) (h : i < xs.length) : (xs.set i u)[i]? = some u := by rw [List.getElem?_set, if_pos rfl, if_pos h]

theorem Dec.setLim (h : Dec w base g lim pos sym mn qb ql qs) {i : Nat} (hi : i < 16) (v : Nat) {x : Int} (hx : x = v) : Dec (w.setCell ⟨g, i, none⟩ (.int .u16 x)) base g (upd lim i v) pos sym mn qb ql qs := by
  subst hx
  obtain ⟨xs, hst, hl, h1, h2, h3, h4, h5, h6, h7⟩ := h
  refine ⟨_, hst.set i _, by rw [List.length_set]; exact hl, fun j hj => ?_, fun j hj => ?_, ?_, ?_, ?_, fun j hj => ?_, fun j hj => ?_⟩
  · by_cases e : j = i
    · subst e; rw [get_set_eq _ (by omega), upd_same]
    · rw [get_set_ne _ (fun e2 => e e2.symm), upd_other _ _ e]; exact h1 j hj
  · rw [get_set_ne _ (by omega)]; exact h2 j hj
  · rw [get_set_ne _ (by omega)]; exact h3
  · rw [get_set_ne _ (by omega)]; exact h4
  · rw [get_set_ne _ (by omega)]; exact h5
  · rw [get_set_ne _ (by omega)]; exact h6 j hj
  · rw [get_set_ne _ (by omega)]; exact h7 j hj
theorem Dec.setPos (h : Dec w base g lim pos sym mn qb ql qs) {i : Nat} (hi : i < 16) (v : Nat) {x : Int} (hx : x = v) : Dec (w.setCell ⟨g, 16 + i, none⟩ (.int .u16 x)) base g lim (upd pos i v) sym mn qb ql qs := by
  subst hx
  obtain ⟨xs, hst, hl, h1, h2, h3, h4, h5, h6, h7⟩ := h
  refine ⟨_, hst.set (16 + i) _, by rw [List.length_set]; exact hl, fun j hj => ?_, fun j hj => ?_, ?_, ?_, ?_, fun j hj => ?_, fun j hj => ?_⟩
  · rw [get_set_ne _ (by omega)]; exact h1 j hj
  · by_cases e : j = i
    · subst e; rw [get_set_eq _ (by omega), upd_same]
    · rw [get_set_ne _ (by omega), upd_other _ _ e]; exact h2 j hj
  · rw [get_set_ne _ (by omega)]; exact h3
  · rw [get_set_ne _ (by omega)]; exact h4
  · rw [get_set_ne _ (by omega)]; exact h5
  · rw [get_set_ne _ (by omega)]; exact h6 j hj
  · rw [get_set_ne _ (by omega)]; exact h7 j hj
theorem Dec.setSym (h : Dec w base g lim pos sym mn qb ql qs) (u : Value) : Dec (w.setCell ⟨g, 32, none⟩ u) base g lim pos u mn qb ql qs := by
  obtain ⟨xs, hst, hl, h1, h2, h3, h4, h5, h6, h7⟩ := h
  refine ⟨_, hst.set 32 _, by rw [List.length_set]; exact hl, fun j hj => ?_, fun j hj => ?_, ?_, ?_, ?_, fun j hj => ?_, fun j hj => ?_⟩
  · rw [get_set_ne _ (by omega)]; exact h1 j hj
  · rw [get_set_ne _ (by omega)]; exact h2 j hj
  · exact get_set_eq _ (by omega)
  · rw [get_set_ne _ (by omega)]; exact h4
  · rw [get_set_ne _ (by omega)]; exact h5
  · rw [get_set_ne _ (by omega)]; exact h6 j hj
  · rw [get_set_ne _ (by omega)]; exact h7 j hj
theorem Dec.setMn (h : Dec w base g lim pos sym mn qb ql qs) (v : Nat) {x : Int} (hx : x = v) : Dec (w.setCell ⟨g, 33, none⟩ (.int .u8 x)) base g lim pos sym v qb ql qs := by
  subst hx
  obtain ⟨xs, hst, hl, h1, h2, h3, h4, h5, h6, h7⟩ := h
  refine ⟨_, hst.set 33 _, by rw [List.length_set]; exact hl, fun j hj => ?_, fun j hj => ?_, ?_, ?_, ?_, fun j hj => ?_, fun j hj => ?_⟩
  · rw [get_set_ne _ (by omega)]; exact h1 j hj
  · rw [get_set_ne _ (by omega)]; exact h2 j hj
  · rw [get_set_ne _ (by omega)]; exact h3
  · exact get_set_eq _ (by omega)
  · rw [get_set_ne _ (by omega)]; exact h5
  · rw [get_set_ne _ (by omega)]; exact h6 j hj
  · rw [get_set_ne _ (by omega)]; exact h7 j hj
theorem Dec.setQb (h : Dec w base g lim pos sym mn qb ql qs) (v : Nat) {x : Int} (hx : x = v) : Dec (w.setCell ⟨g, 34, none⟩ (.int .u8 x)) base g lim pos sym mn v ql qs := by
  subst hx
  obtain ⟨xs, hst, hl, h1, h2, h3, h4, h5, h6, h7⟩ := h
  refine ⟨_, hst.set 34 _, by rw [List.length_set]; exact hl, fun j hj => ?_, fun j hj => ?_, ?_, ?_, ?_, fun j hj => ?_, fun j hj => ?_⟩
  · rw [get_set_ne _ (by omega)]; exact h1 j hj
  · rw [get_set_ne _ (by omega)]; exact h2 j hj
  · rw [get_set_ne _ (by omega)]; exact h3
  · rw [get_set_ne _ (by omega)]; exact h4
  · exact get_set_eq _ (by omega)
  · rw [get_set_ne _ (by omega)]; exact h6 j hj
  · rw [get_set_ne _ (by omega)]; exact h7 j hj
theorem Dec.setQl (h : Dec w base g lim pos sym mn qb ql qs) {i : Nat} (hi : i < 1024) (v : Nat) {x : Int} (hx : x = v) : Dec (w.setCell ⟨g, 35 + i, none⟩ (.int .u8 x)) base g lim pos sym mn qb (upd ql i v) qs := by
  subst hx
  obtain ⟨xs, hst, hl, h1, h2, h3, h4, h5, h6, h7⟩ := h
  refine ⟨_, hst.set (35 + i) _, by rw [List.length_set]; exact hl, fun j hj => ?_, fun j hj => ?_, ?_, ?_, ?_, fun j hj => ?_, fun j hj => ?_⟩
  · rw [get_set_ne _ (by omega)]; exact h1 j hj
  · rw [get_set_ne _ (by omega)]; exact h2 j hj
  · rw [get_set_ne _ (by omega)]; exact h3
  · rw [get_set_ne _ (by omega)]; exact h4
  · rw [get_set_ne _ (by omega)]; exact h5
  · by_cases e : j = i
    · subst e; rw [get_set_eq _ (by omega), upd_same]
    · rw [get_set_ne _ (by omega), upd_other _ _ e]; exact h6 j hj
  · rw [get_set_ne _ (by omega)]; exact h7 j hj
theorem Dec.setQs (h : Dec w base g lim pos sym mn qb ql qs) {i : Nat} (hi : i < 1024) (v : Nat) {x : Int} (hx : x = v) : Dec (w.setCell ⟨g, 1059 + i, none⟩ (.int .u16 x)) base g lim pos sym mn qb ql (upd qs i v) := by
  subst hx
  obtain ⟨xs, hst, hl, h1, h2, h3, h4, h5, h6, h7⟩ := h
  refine ⟨_, hst.set (1059 + i) _, by rw [List.length_set]; exact hl, fun j hj => ?_, fun j hj => ?_, ?_, ?_, ?_, fun j hj => ?_, fun j hj => ?_⟩
  · rw [get_set_ne _ (by omega)]; exact h1 j hj
  · rw [get_set_ne _ (by omega)]; exact h2 j hj
  · rw [get_set_ne _ (by omega)]; exact h3
  · rw [get_set_ne _ (by omega)]; exact h4
  · rw [get_set_ne _ (by omega)]; exact h5
  · rw [get_set_ne _ (by omega)]; exact h6 j hj
  · by_cases e : j = i
    · subst e; rw [get_set_eq _ (by omega), upd_same]
    · rw [get_set_ne _ (by omega), upd_other _ _ e]; exact h7 j hj
end

/-- The counts of the first k lengths. -/
structure Cnt (ls : List Nat) (k : Nat) (cs : List Nat) : Prop where
  len : cs.length = 16
  val : ∀ l, l < 16 → cs.getD l 0 = if l = 0 then 0 else (ls.take k).count l
theorem Cnt.start (ls : List Nat) : Cnt ls 0 (List.replicate 16 0) := ⟨by simp, fun l hl => by
  rw [List.getD_eq_getElem?_getD, List.getElem?_replicate, if_pos hl]; simp⟩
theorem Cnt.skip {ls cs : List Nat} {k : Nat} (h : Cnt ls k cs) (hk : k < ls.length) (h0 : ls.getD k 0 = 0) : Cnt ls (k + 1) cs :=
  ⟨h.len, fun l hl => by
    rw [h.val l hl, take_count_succ ls k l hk]
    by_cases e : l = 0
    · simp [e]
    · rw [if_neg e, if_neg e, if_neg (by omega)]; omega⟩
theorem Cnt.step {ls cs : List Nat} {k n : Nat} (h : Cnt ls k cs) (hk : k < ls.length) (hn : ls.getD k 0 = n) (h0 : n ≠ 0) : Cnt ls (k + 1) (cs.set n (cs.getD n 0 + 1)) :=
  ⟨by rw [List.length_set]; exact h.len, fun l hl => by
    rw [take_count_succ ls k l hk]
    by_cases e : n = l
    · subst e
      rw [getD_set_same _ _ _ _ (by rw [h.len]; exact hl), h.val n hl, if_neg h0, if_neg h0, if_pos hn]
    · rw [getD_set_other _ _ _ _ _ e, h.val l hl]
      by_cases e2 : l = 0
      · simp [e2]
      · rw [if_neg e2, if_neg e2, if_neg (by omega)]; omega⟩
theorem Cnt.cn {ls cs : List Nat} (h : Cnt ls ls.length cs) {l : Nat} (hl : l < 16) : cs.getD l 0 = Cod.cn ls l := by
  rw [h.val l hl, List.take_length]; rfl
theorem Cnt.le {ls cs : List Nat} {k : Nat} (h : Cnt ls k cs) {l : Nat} (hl : l < 16) : cs.getD l 0 ≤ ls.length := by
  rw [h.val l hl]
  split
  · omega
  · exact Nat.le_trans (take_count_le ls k l) List.count_le_length

/-- The limits and places below i, and the least length. -/
structure Lims (ls : List Nat) (i : Nat) (lim pos : Nat → Nat) (mn : Nat) : Prop where
  lim : ∀ j, j < i → lim j = Cod.lim ls j
  pos : ∀ j, j < i → pos j = ps ls j
  mn : (mn = 0 ∧ ∀ j, j < i → Cod.lim ls j = 0) ∨ (0 < mn ∧ mn < i ∧ ∀ j, j < mn → Cod.lim ls j = 0)
theorem Lims.start (ls : List Nat) (lim pos : Nat → Nat) : Lims ls 1 (upd lim 0 0) (upd pos 0 0) 0 :=
  ⟨fun j hj => by rw [show j = 0 by omega, upd_same]; rfl, fun j hj => by rw [show j = 0 by omega, upd_same]; rfl, .inl ⟨rfl, fun j hj => by rw [show j = 0 by omega]; rfl⟩⟩
theorem Lims.step {ls : List Nat} {i mn mn' : Nat} {lim pos : Nat → Nat} (h : Lims ls i lim pos mn) {a b : Nat} (ha : a = Cod.lim ls i) (hb : b = ps ls i)
    (hm : (mn ≠ 0 ∧ mn' = mn) ∨ (mn = 0 ∧ 0 < a ∧ mn' = i ∧ 0 < i) ∨ (mn = 0 ∧ a = 0 ∧ mn' = 0)) : Lims ls (i + 1) (upd lim i a) (upd pos i b) mn' := by
  refine ⟨fun j hj => ?_, fun j hj => ?_, ?_⟩
  · by_cases e : j = i
    · subst e; rw [upd_same, ha]
    · rw [upd_other _ _ e]; exact h.lim j (by omega)
  · by_cases e : j = i
    · subst e; rw [upd_same, hb]
    · rw [upd_other _ _ e]; exact h.pos j (by omega)
  · rcases hm with ⟨h1, rfl⟩ | ⟨h1, h2, rfl, h3⟩ | ⟨h1, h2, rfl⟩
    · rcases h.mn with ⟨h4, _⟩ | ⟨h4, h5, h6⟩
      · exact absurd h4 h1
      · exact .inr ⟨h4, by omega, h6⟩
    · rcases h.mn with ⟨_, h4⟩ | ⟨h4, _⟩
      · exact .inr ⟨h3, by omega, h4⟩
      · omega
    · rcases h.mn with ⟨_, h4⟩ | ⟨h4, _⟩
      · refine .inl ⟨rfl, fun j hj => ?_⟩
        by_cases e : j = i
        · subst e; omega
        · exact h4 j (by omega)
      · omega

/-- The counts that become places, and the row of symbols in the order of their codes, behind the first k. -/
structure Syms (ls : List Nat) (k : Nat) (cs sy : List Nat) : Prop where
  len : cs.length = 16
  slen : sy.length = ls.length
  val : ∀ l, 0 < l → l < 16 → cs.getD l 0 = ps ls l + (ls.take k).count l
  put : ∀ s, s < k → s < ls.length → 0 < ls.getD s 0 → sy.getD (ps ls (ls.getD s 0) + rank ls s) 0 = s
theorem Syms.start (ls cs : List Nat) (hl : cs.length = 16) (hv : ∀ l, l < 16 → cs.getD l 0 = ps ls l) : Syms ls 0 cs (List.replicate ls.length 0) :=
  ⟨hl, by simp, fun l _ h => by rw [hv l h]; simp, fun s hs => by omega⟩
theorem Syms.skip {ls cs sy : List Nat} {k : Nat} (h : Syms ls k cs sy) (hk : k < ls.length) (h0 : ls.getD k 0 = 0) : Syms ls (k + 1) cs sy :=
  ⟨h.len, h.slen, fun l hl hl2 => by rw [h.val l hl hl2, take_count_succ ls k l hk, if_neg (by omega)]; omega,
    fun s hs hsl h1 => by
      by_cases e : s = k
      · subst e; omega
      · exact h.put s (by omega) hsl h1⟩
theorem Syms.at {ls cs sy : List Nat} {k n : Nat} (h : Syms ls k cs sy) (hn : ls.getD k 0 = n) (h0 : 0 < n) (h16 : n < 16) : cs.getD n 0 = ps ls n + rank ls k := by
  rw [h.val n h0 h16]; unfold rank; rw [hn]
theorem Syms.step {ls cs sy : List Nat} {k n : Nat} (h : Syms ls k cs sy) (hk : k < ls.length) (hn : ls.getD k 0 = n) (h0 : 0 < n) (h16 : n < 16) :
    Syms ls (k + 1) (cs.set n (cs.getD n 0 + 1)) (sy.set (cs.getD n 0) k) := by
  have hat := h.at hn h0 h16
  have hpl := place_lt ls k hk (by omega)
  rw [hn] at hpl
  refine ⟨by rw [List.length_set]; exact h.len, by rw [List.length_set]; exact h.slen, fun l hl hl2 => ?_, fun s hs hsl h1 => ?_⟩
  · rw [take_count_succ ls k l hk]
    by_cases e : n = l
    · subst e
      rw [getD_set_same _ _ _ _ (by rw [h.len]; exact hl2), h.val n hl hl2, if_pos hn]; omega
    · rw [getD_set_other _ _ _ _ _ e, h.val l hl hl2, if_neg (by omega)]; omega
  · rw [hat]
    by_cases e : s = k
    · subst e
      rw [hn, getD_set_same _ _ _ _ (by rw [h.slen]; exact hpl)]
    · have hne := place_ne ls s k hk (by omega) h1 (by omega)
      rw [hn] at hne
      rw [getD_set_other _ _ _ _ _ (fun e2 => hne e2.symm)]
      exact h.put s (by omega) hsl h1

/-- What the tables tell of j: a length and a symbol. -/
def Quick (ls sy : List Nat) (E j b s : Nat) : Prop :=
  1 ≤ b ∧ b ≤ 14 ∧ lim ls (b - 1) ≤ j * 2 ^ E ∧ j * 2 ^ E < lim ls b ∧ s = sy.getD (ps ls b + (j * 2 ^ E - lim ls (b - 1)) / 2 ^ (15 - b)) 0
structure Quicks (ls sy : List Nat) (E n : Nat) (ql qs : Nat → Nat) : Prop where
  all : ∀ j, j < n → Quick ls sy E j (ql j) (qs j)
theorem Quicks.start (ls sy : List Nat) (E : Nat) (ql qs : Nat → Nat) : Quicks ls sy E 0 ql qs := ⟨fun j h => by omega⟩
theorem Quicks.step {ls sy : List Nat} {E n : Nat} {ql qs : Nat → Nat} (h : Quicks ls sy E n ql qs) {b s : Nat} (hq : Quick ls sy E n b s) : Quicks ls sy E (n + 1) (upd ql n b) (upd qs n s) :=
  ⟨fun j hj => by
    by_cases e : j = n
    · subst e; rw [upd_same, upd_same]; exact hq
    · rw [upd_other _ _ e, upd_other _ _ e]; exact h.all j (by omega)⟩

/-- The place that a table's entry tells lies in the row. -/
theorem dist_lt {ls : List Nat} {b v : Nat} (hb : 1 ≤ b) (h1 : lim ls (b - 1) ≤ v) (h2 : v < lim ls b) : ps ls b + (v - lim ls (b - 1)) / 2 ^ (15 - b) < ls.length := by
  have h3 : lim ls b = lim ls (b - 1) + cn ls b * 2 ^ (15 - b) := by
    conv => lhs; rw [show b = (b - 1) + 1 by omega]
    show lim ls (b - 1) + cn ls (b - 1 + 1) * 2 ^ (15 - (b - 1 + 1)) = _
    rw [show b - 1 + 1 = b by omega]
  have h4 : (v - lim ls (b - 1)) / 2 ^ (15 - b) < cn ls b := by
    rw [Nat.div_lt_iff_lt_mul (Nat.two_pow_pos _)]
    omega
  have h5 : ps ls (b + 1) = ps ls b + cn ls b := rfl
  have h6 := ps_le ls (b + 1)
  omega
/-- copy of as many numbers onto a whole row that the call owns. -/
theorem run_copy_full {P : Program} {w : World} (dT sT ty elem : TypeId) (hu : P.underlying dT = some (.slice elem)) (hsz : (P.info? elem).map (·.size) = some 1)
    (k : IntKind) (base e g cap : Nat) (l m : List Nat) (hrow : Row k w base e g cap l) (hm : m.length = l.length) (gs off sCap n : Nat) (hn : n = l.length)
    (hsrc : ∀ j, j < m.length → w.cell? ⟨gs, off + j, none⟩ = some (.int k ((m.getD j 0 : Nat) : Int))) :
    ∃ w', (Builtin.copy_ #[dT, sT] ty #[.slice (some ⟨g, 0, none⟩) n cap, .slice (some ⟨gs, off, none⟩) n sCap]).run P w = .ok (goInt n) w' ∧ Row k w' base e g cap m ∧ Turn (fun b => b = g) w w' := by
  subst hn
  rcases hrow.2 with ⟨h', _⟩ | ⟨g', cap', cur, h', hb, hg, hnc, hcm, hcs, htake⟩
  · cases h'
  · cases h'
    have hlen : (nums k m).length = l.length := by rw [nums_length, hm]
    have hrun := run_copy_row (P := P) w dT sT ty elem g 0 l.length cap ⟨gs, off, none⟩ l.length sCap cur e (nums k m) hu hsz hg (by rw [hlen]; exact (Nat.min_self _).symm) (fun j v hv => by
      have hj : j < m.length := by have := (List.getElem?_eq_some_iff.1 hv).1; rwa [nums_length] at this
      rw [nums_get hj] at hv
      cases hv
      have e : (⟨gs, off, none⟩ : Addr).add j = ⟨gs, off + j, none⟩ := by unfold Addr.add; split <;> simp_all
      rw [e]
      exact hsrc j hj) (by rw [hlen]; omega) (nums_one k m)
    rw [hlen] at hrun
    refine ⟨_, hrun, ?_, ?_⟩
    · refine ⟨by rw [nums_length]; omega, .inr ⟨g, cap, _, by rw [hm], hb, setRow_heap w g _ _ e _ hg, by omega, hcm, ?_, ?_⟩⟩
      · simp [nums_length, hm]; omega
      · simp [nums_length]
    · exact ⟨rfl, rfl, rfl, by simp [World.setRow], fun k _ hk => setRow_other w g k _ hk⟩
end Go.Proofs.YtoicojdnaahimaaDoor.Dec
