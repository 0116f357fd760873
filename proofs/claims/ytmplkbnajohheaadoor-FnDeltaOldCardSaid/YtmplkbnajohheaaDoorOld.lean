/- The walk of the older format's filters: the table of them, the call through it. -/
import Derived.Test.YtmplkbnajohheaaDoorCallE8
import Derived.Test.YtmplkbnajohheaaDoorDelta
import Derived.Maps.OwnOps
namespace Go.Proofs.YtmplkbnajohheaaDoor.Old
open Go.RowKit Go.Maps Go.Proofs.YtmplkbnajohheaaDoor.Aid Go.Proofs.YtmplkbnajohheaaDoor.Base

/-- The table's cells: of every filter its sum, its code's length, its function. -/
def cells : Array Value := #[.int .u32 2908186759, .int .i64 53, .func (.func 23) #[] #[], .int .u32 1020781950, .int .i64 57, .func (.func 24) #[] #[],
  .int .u32 929663295, .int .i64 120, .func (.func 25) #[] #[], .int .u32 235276157, .int .i64 29, .func (.func 26) #[] #[],
  .int .u32 472669640, .int .i64 149, .func (.func 27) #[] #[], .int .u32 3162892033, .int .i64 216, .func (.func 28) #[] #[]]

set_option maxRecDepth 100000 in
set_option maxHeartbeats 1000000 in
theorem table_any (w : World) :
    Calls Tryd.prog 20 #[] w fun e w' => e = .returned (.slice (some ⟨w.heap.size, 0, none⟩) 6 6) ∧ w' = w.alloc (.cells cells 46) := by
  go_enter Tryd.func20, Tryd.ntmps20
  go_wp2
  go_ret
  exact ⟨rfl, rfl⟩

theorem law3 : Keyed Tryd.prog 3 := int_keyed Tryd.underlying3
theorem zero23 (w : World) : (zeroValue 23).run Tryd.prog w = .ok (.int .u32 0) w := by kernel_rfl
theorem key0 : keyOf Tryd.prog 3 (.int .i64 0) = some (.int .i64 0) := keyOf_int_mk Tryd.underlying3 (by decide)
theorem key1 : keyOf Tryd.prog 3 (.int .i64 1) = some (.int .i64 1) := keyOf_int_mk Tryd.underlying3 (by decide)

/-- The map that the call makes of the two registers, behind the table. -/
theorem two_regs (w1 : World) (p1 p2 : Int) (h1 : (Lit.int .u32 p1).wf = true) (h2 : (Lit.int .u32 p2).wf = true) :
    ∃ w3 w4, (Instr.mapUpdate 49 (.map (some (w1.heap.size + 1))) (.int .i64 0) (.int .u32 p1)).run Tryd.prog ((w1.alloc (.cells cells 46)).alloc (.map #[] 0)) = .ok () w3 ∧
      (Instr.mapUpdate 49 (.map (some (w1.heap.size + 1))) (.int .i64 1) (.int .u32 p2)).run Tryd.prog w3 = .ok () w4 ∧
      w4.ownsMap (H := Unit) Tryd.prog 3 (plainElem Tryd.prog 23) (w1.heap.size + 1) 2 (((DataW.map []).put (.int .i64 0) (.lit (.int .u32 p1))).put (.int .i64 1) (.lit (.int .u32 p2))) ∧
      w1.grownBy w4 (some (w1.heap.size + 1)) := by
  have hs : (w1.alloc (.cells cells 46)).heap.size = w1.heap.size + 1 := by simp
  have h0 := World.ownsMap_made (H := Unit) (w1.alloc (.cells cells 46)) Tryd.prog 3 (plainElem Tryd.prog 23)
  rw [hs] at h0
  obtain ⟨w3, hr3, hm3, hg3⟩ := h0.update law3 Tryd.underlying49 (by unfold maxLen; omega) key0 (plainElem_int Tryd.underlying23 h1)
  obtain ⟨w4, hr4, hm4, hg4⟩ := hm3.update law3 Tryd.underlying49 (by unfold maxLen; omega) key1 (plainElem_int Tryd.underlying23 h2)
  refine ⟨w3, w4, hr3, hr4, hm4, ?_⟩
  have ha := World.grownBy_alloc w1 (.cells cells 46) (some (w1.heap.size + 1))
  have hb := World.grownBy_alloc (w1.alloc (.cells cells 46)) (.map #[] 0) (some (w1.heap.size + 1))
  exact ha.trans (hb.trans (hg3.trans hg4))

/-- What is asked of a filter of the table at bytes l that it owns. -/
def Filters (fn : FuncId) (first second off : Int) (l r : List UInt8) : Prop :=
  ∀ (g cap m base : Nat) (w : World), Own w base 5 g cap l → base ≤ w.heap.size → w.ownsMap (H := Unit) Tryd.prog 3 (plainElem Tryd.prog 23) m 2 (((DataW.map []).put (.int .i64 0) (.lit (.int .u32 first))).put (.int .i64 1) (.lit (.int .u32 second))) →
    Calls Tryd.prog fn #[.map (some m), .slice none 0 0, .slice (some ⟨g, 0, none⟩) l.length cap, .int .i64 off] w fun e w' => ∃ x, e = .returned (.tuple #[x, .nilIface]) ∧ Rd w' w'.heap.size x (Lib.byteCells r) ∧ Below base w w'

/-- What is asked of the older format's filter at bytes l. -/
def Gives (f : FuncId) (args : List Value) (l r : List UInt8) : Prop :=
  ∀ (u : Value) (w : World), Rd w w.heap.size u (Lib.byteCells l) →
    Calls Tryd.prog f (args ++ [u]).toArray w fun e w' => ∃ x, e = .returned (.tuple #[x, .nilIface]) ∧ Rd w' w'.heap.size x (Lib.byteCells r) ∧ Below w.heap.size w w'

set_option maxRecDepth 100000 in
set_option maxHeartbeats 2000000 in
theorem impl_any (kind p1 p2 off : Int) (l r : List UInt8) (hl : l.length ≤ 4096) (hrl : r.length ≤ 4096) (hz : Gives 16 [.int .i64 kind, .int .u32 p1, .int .u32 p2, .int .i64 off] l r)
    (v : Value) (w : World) (hr : Rd w w.heap.size v (Lib.byteCells l)) :
    Calls Tryd.prog 13 #[.int .i64 kind, .int .u32 p1, .int .u32 p2, .int .i64 off, v] w fun e w' => ∃ x, e = .returned (.tuple #[x, .bool true]) ∧ Rd w' w'.heap.size x (Lib.byteCells r) ∧ Below w.heap.size w w' := by
  have HZ := Lib.hid hz
  clear hz
  go_enter Tryd.func13, Tryd.ntmps13
  go_wp2_with fail
  refine (clone_any v l w.heap.size _ hr (Nat.le_refl _) (by omega)).mono ?_
  rintro e w1 ⟨v1, rfl, hown1, hb1⟩
  go_wp2_with fail
  refine (HZ.out v1 w1 (Rd.own hown1)).mono ?_
  rintro e w2 ⟨x, rfl, hrx, hb2⟩
  go_wp2_with fail
  refine (clone_any x r w2.heap.size _ hrx (Nat.le_refl _) (by omega)).mono ?_
  rintro e w3 ⟨v3, rfl, hown3, hb3⟩
  go_wp2
  go_ret2
  exact ⟨v3, rfl, Rd.own hown3, hb1.trans ((hb2.trans (hb3.mono hb2.size)).mono hb1.size)⟩

set_option maxRecDepth 100000 in
set_option maxHeartbeats 2000000 in
theorem old0 (p1 p2 off : Int) (l r : List UInt8) (h1 : (Lit.int .u32 p1).wf = true) (h2 : (Lit.int .u32 p2).wf = true) (hl : l.length ≤ 4096) (hz : Filters 23 p1 p2 off l r) : Gives 16 [.int .i64 0, .int .u32 p1, .int .u32 p2, .int .i64 off] l r := by
  intro u w hr
  have HZ := Lib.hid hz
  clear hz
  have hmm := @run_makeMap Tryd.prog
  have hat0 : cells[2]? = some (.func (.func 23) #[] #[]) := rfl
  obtain ⟨i0, hi, hz0, hz1, hz2⟩ := info_parts infoB
  show Calls Tryd.prog 16 #[.int .i64 0, .int .u32 p1, .int .u32 p2, .int .i64 off, u] w _
  go_enter Tryd.func16, Tryd.ntmps16
  go_wp2_with (at_builtin; refine wpList_append_bytes _ rfl _ _ 22 rfl w.heap.size 5 i0 (.int .u8 0) Tryd.underlying22 hi hz0 hz1 hz2 rfl w.heap.size 0 [] rfl (own_nil w 5) w.heap.size _ l rfl (hr.alloc (Nat.le_refl _) _) (by simp; omega) (by simp) ?_)
  intro g cap w1 hown hgrow hat
  have hb1 : Below w.heap.size w w1 := ((Below.refl _ _).alloc (Nat.le_refl _) _).grown hgrow (by simp) (by intro k hk; simp at hk; omega)
  have hglt : g < w1.heap.size := hown.lt
  clear hgrow hat
  obtain ⟨w3, w4, hr3, hr4, hm4, hg4⟩ := two_regs w1 p1 p2 h1 h2
  go_wp2_with (first | (go_at_call 20; refine (table_any w1).mono ?_; rintro e w2 ⟨rfl, rfl⟩) | (go_at_call 23; refine (HZ.out g cap (w1.heap.size + 1) w.heap.size w4 (hown.kept hg4 (.inr (by simp [Value.ownBlock]; omega))) (Nat.le_trans hb1.size hg4.size) hm4).mono ?_; rintro e w5 ⟨x, rfl, hrd, hb5⟩))
  go_ret2
  exact ⟨x, rfl, hrd, (hb1.grown hg4 hb1.size (by intro k hk; injection hk with hk; have := hb1.size; omega)).trans hb5⟩

set_option maxRecDepth 100000 in
set_option maxHeartbeats 2000000 in
theorem old1 (p1 p2 off : Int) (l r : List UInt8) (h1 : (Lit.int .u32 p1).wf = true) (h2 : (Lit.int .u32 p2).wf = true) (hl : l.length ≤ 4096) (hz : Filters 24 p1 p2 off l r) : Gives 16 [.int .i64 1, .int .u32 p1, .int .u32 p2, .int .i64 off] l r := by
  intro u w hr
  have HZ := Lib.hid hz
  clear hz
  have hmm := @run_makeMap Tryd.prog
  have hat1 : cells[5]? = some (.func (.func 24) #[] #[]) := rfl
  obtain ⟨i0, hi, hz0, hz1, hz2⟩ := info_parts infoB
  show Calls Tryd.prog 16 #[.int .i64 1, .int .u32 p1, .int .u32 p2, .int .i64 off, u] w _
  go_enter Tryd.func16, Tryd.ntmps16
  go_wp2_with (at_builtin; refine wpList_append_bytes _ rfl _ _ 22 rfl w.heap.size 5 i0 (.int .u8 0) Tryd.underlying22 hi hz0 hz1 hz2 rfl w.heap.size 0 [] rfl (own_nil w 5) w.heap.size _ l rfl (hr.alloc (Nat.le_refl _) _) (by simp; omega) (by simp) ?_)
  intro g cap w1 hown hgrow hat
  have hb1 : Below w.heap.size w w1 := ((Below.refl _ _).alloc (Nat.le_refl _) _).grown hgrow (by simp) (by intro k hk; simp at hk; omega)
  have hglt : g < w1.heap.size := hown.lt
  clear hgrow hat
  obtain ⟨w3, w4, hr3, hr4, hm4, hg4⟩ := two_regs w1 p1 p2 h1 h2
  go_wp2_with (first | (go_at_call 20; refine (table_any w1).mono ?_; rintro e w2 ⟨rfl, rfl⟩) | (go_at_call 24; refine (HZ.out g cap (w1.heap.size + 1) w.heap.size w4 (hown.kept hg4 (.inr (by simp [Value.ownBlock]; omega))) (Nat.le_trans hb1.size hg4.size) hm4).mono ?_; rintro e w5 ⟨x, rfl, hrd, hb5⟩))
  go_ret2
  exact ⟨x, rfl, hrd, (hb1.grown hg4 hb1.size (by intro k hk; injection hk with hk; have := hb1.size; omega)).trans hb5⟩

set_option maxRecDepth 100000 in
set_option maxHeartbeats 2000000 in
theorem old3 (p1 p2 off : Int) (l r : List UInt8) (h1 : (Lit.int .u32 p1).wf = true) (h2 : (Lit.int .u32 p2).wf = true) (hl : l.length ≤ 4096) (hz : Filters 26 p1 p2 off l r) : Gives 16 [.int .i64 3, .int .u32 p1, .int .u32 p2, .int .i64 off] l r := by
  intro u w hr
  have HZ := Lib.hid hz
  clear hz
  have hmm := @run_makeMap Tryd.prog
  have hat3 : cells[11]? = some (.func (.func 26) #[] #[]) := rfl
  obtain ⟨i0, hi, hz0, hz1, hz2⟩ := info_parts infoB
  show Calls Tryd.prog 16 #[.int .i64 3, .int .u32 p1, .int .u32 p2, .int .i64 off, u] w _
  go_enter Tryd.func16, Tryd.ntmps16
  go_wp2_with (at_builtin; refine wpList_append_bytes _ rfl _ _ 22 rfl w.heap.size 5 i0 (.int .u8 0) Tryd.underlying22 hi hz0 hz1 hz2 rfl w.heap.size 0 [] rfl (own_nil w 5) w.heap.size _ l rfl (hr.alloc (Nat.le_refl _) _) (by simp; omega) (by simp) ?_)
  intro g cap w1 hown hgrow hat
  have hb1 : Below w.heap.size w w1 := ((Below.refl _ _).alloc (Nat.le_refl _) _).grown hgrow (by simp) (by intro k hk; simp at hk; omega)
  have hglt : g < w1.heap.size := hown.lt
  clear hgrow hat
  obtain ⟨w3, w4, hr3, hr4, hm4, hg4⟩ := two_regs w1 p1 p2 h1 h2
  go_wp2_with (first | (go_at_call 20; refine (table_any w1).mono ?_; rintro e w2 ⟨rfl, rfl⟩) | (go_at_call 26; refine (HZ.out g cap (w1.heap.size + 1) w.heap.size w4 (hown.kept hg4 (.inr (by simp [Value.ownBlock]; omega))) (Nat.le_trans hb1.size hg4.size) hm4).mono ?_; rintro e w5 ⟨x, rfl, hrd, hb5⟩))
  go_ret2
  exact ⟨x, rfl, hrd, (hb1.grown hg4 hb1.size (by intro k hk; injection hk with hk; have := hb1.size; omega)).trans hb5⟩

end Go.Proofs.YtmplkbnajohheaaDoor.Old
