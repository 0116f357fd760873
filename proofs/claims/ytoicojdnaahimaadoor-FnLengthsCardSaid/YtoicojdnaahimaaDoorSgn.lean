/- append of one sign onto a list of signs that the call owns. -/
import Derived.Test.YtoicojdnaahimaaDoorTabPlain
import Derived.Test.YtoicojdnaahimaaDoorMake
import Derived.Laws.AppendOwn
namespace Go.Proofs.YtoicojdnaahimaaDoor.Tab
open Go Go.RowKit Go.Proofs.YtoicojdnaahimaaDoor.Aid Go.Proofs.YtoicojdnaahimaaDoor.Base

theorem infoS : (Tryd.prog.info? 62).map (fun i => (i.zero, i.size, i.bytes)) = some (some (.agg #[.int .i64 0, .int .i64 0, .int .i64 0]), 3, 24) := by kernel_rfl
theorem three {w : World} {a b c : Value} {e g : Nat} (hg : g = w.heap.size) : (w.alloc (.cells #[a, b, c] e)).cell? ⟨g, 0, none⟩ = some a ∧ (w.alloc (.cells #[a, b, c] e)).cell? ⟨g, 1, none⟩ = some b ∧ (w.alloc (.cells #[a, b, c] e)).cell? ⟨g, 2, none⟩ = some c := by
  subst hg
  have h := St.made w e #[a, b, c]
  exact ⟨h.cell (j := 0) rfl, h.cell (j := 1) rfl, h.cell (j := 2) rfl⟩

theorem wpList_append_sign (w : World) {ops : Array Oper} {rest : List Oper} {o : Oper} {a : Act} {Q : Exit → Act → World → Prop} (hgd : o.guard = none) (s x : Operand)
    (ho : o.op = .call { callee := .builtin .append, args := #[s, x], argTypes := #[60, 60] }) (base : Nat) (v : Value) (L : List (Nat × Nat)) (hs : a.eval s = v) (hown : w.ownsRow base 62 3 v L.length (sc L))
    (g : Nat) (hx : a.eval x = .slice (some ⟨g, 0, none⟩) 1 1) (a0 a1 a2 : Int) (hc : w.cell? ⟨g, 0, none⟩ = some (.int .i64 a0) ∧ w.cell? ⟨g, 1, none⟩ = some (.int .i64 a1) ∧ w.cell? ⟨g, 2, none⟩ = some (.int .i64 a2))
    (sg m : Nat) (he : a0 = sg ∧ a1 = m ∧ a2 = bts sg) (hL : L.length ≤ 1000) (hbase : base ≤ w.heap.size)
    (h : ∀ g' c' w', w'.ownsRow base 62 3 (.slice (some ⟨g', 0, none⟩) (L.length + 1) c') (L.length + 1) (sc (L ++ [(sg, m)])) → w.grownBy w' v.ownBlock → wpList Tryd.prog ops Q rest (a.put o.dst (.slice (some ⟨g', 0, none⟩) (L.length + 1) c')) w') :
    wpList Tryd.prog ops Q (o :: rest) a w := by
  obtain ⟨i0, hi, hz0, hz1, hz2⟩ := info_parts infoS
  obtain ⟨h0, h1, h2⟩ := hc
  obtain ⟨rfl, rfl, rfl⟩ := he
  refine wpList_append_own w hgd s x 60 ho base 62 i0 _ 3 24 Tryd.underlying60 hi hz0 hz1 hz2 rfl (by omega) v L.length (sc L) hs hown ⟨g, 0, none⟩ 1 1 [.int .i64 (sg : Nat), .int .i64 (m : Nat), .int .i64 (bts sg : Nat)] hx rfl ?_ ?_ (by unfold maxLen; omega) (by omega) hbase ?_
  · intro j u hj
    have e : (⟨g, 0, none⟩ : Addr).add j = ⟨g, j, none⟩ := by unfold Addr.add; split <;> simp_all
    rw [e]
    match j, hj with
    | 0, hj => cases hj; exact h0
    | 1, hj => cases hj; exact h1
    | 2, hj => cases hj; exact h2
  · intro u hu
    simp at hu
    rcases hu with rfl | rfl | rfl <;> rfl
  · intro v' w' h3 h4 _
    rw [← sc_add] at h3
    rcases h3.2 with ⟨_, h5⟩ | ⟨g', cap, cur, rfl, h6⟩
    · omega
    · exact h g' cap w' h3 h4
end Go.Proofs.YtoicojdnaahimaaDoor.Tab
