/- A new decoder's cells; a new reader of bits. -/
import Derived.Test.YtoicojdnaahimaaDoorSymPlain
import Derived.Test.YtoicojdnaahimaaDoorReader
namespace Go.Proofs.YtoicojdnaahimaaDoor.Dec
open Go Go.RowKit Go.Proofs.YtoicojdnaahimaaDoor.Aid Go.Proofs.YtoicojdnaahimaaDoor.Base Go.Proofs.YtoicojdnaahimaaDoor.Len Go.Proofs.YtoicojdnaahimaaDoor.Cod Go.Proofs.YtoicojdnaahimaaDoor.Rdr

/-- A new decoder's cells. -/
def newCells : List Value := List.replicate 32 (.int .u16 0) ++ ([.slice none 0 0, .int .u8 0, .int .u8 0] ++ (List.replicate 1024 (.int .u8 0) ++ List.replicate 1024 (.int .u16 0)))
theorem new_zero (w : World) : (zeroValue 67).run Tryd.prog w = .ok (.agg newCells.toArray) w := by kernel_rfl
theorem new_len : newCells.length = 2083 := by
  unfold newCells
  simp only [List.length_append, List.length_replicate, List.length_cons, List.length_nil]
theorem new_ne : ¬ newCells.toArray = #[] := fun h => by
  have := congrArg Array.size h
  rw [List.size_toArray, new_len] at this
  cases this
theorem dec_new (w : World) (base : Nat) (hb : base = w.heap.size) : Dec (w.alloc (.cells newCells.toArray 67)) base base (fun _ => 0) (fun _ => 0) (.slice none 0 0) 0 0 (fun _ => 0) (fun _ => 0) := by
  subst hb
  have h := St.made w 67 newCells.toArray
  rw [List.toList_toArray] at h
  refine ⟨newCells, h, new_len, fun j hj => ?_, fun j hj => ?_, ?_, ?_, ?_, fun j hj => ?_, fun j hj => ?_⟩
  · unfold newCells
    rw [List.getElem?_append_left (by rw [List.length_replicate]; omega), List.getElem?_replicate, if_pos (by omega)]
    rfl
  · unfold newCells
    rw [List.getElem?_append_left (by rw [List.length_replicate]; omega), List.getElem?_replicate, if_pos (by omega)]
    rfl
  · unfold newCells
    rw [List.getElem?_append_right (by rw [List.length_replicate]; omega)]
    rfl
  · unfold newCells
    rw [List.getElem?_append_right (by rw [List.length_replicate]; omega)]
    rfl
  · unfold newCells
    rw [List.getElem?_append_right (by rw [List.length_replicate]; omega)]
    rfl
  · unfold newCells
    rw [List.getElem?_append_right (by rw [List.length_replicate]; omega), List.length_replicate, List.getElem?_append_right (by show 3 ≤ _; omega)]
    show (List.replicate 1024 (Value.int .u8 0) ++ List.replicate 1024 (Value.int .u16 0))[35 + j - 32 - 3]? = _
    rw [List.getElem?_append_left (by rw [List.length_replicate]; omega), List.getElem?_replicate, if_pos (by omega)]
    rfl
  · unfold newCells
    rw [List.getElem?_append_right (by rw [List.length_replicate]; omega), List.length_replicate, List.getElem?_append_right (by show 3 ≤ _; omega)]
    show (List.replicate 1024 (Value.int .u8 0) ++ List.replicate 1024 (Value.int .u16 0))[1059 + j - 32 - 3]? = _
    rw [List.getElem?_append_right (by rw [List.length_replicate]; omega), List.length_replicate, List.getElem?_replicate, if_pos (by omega)]
    rfl

set_option maxRecDepth 100000 in
theorem newReader_any (a : Option Addr) (n c : Nat) (w : World) : Calls Tryd.prog 19 #[.slice a n c] w fun e w' => e = .returned (.pointer (some ⟨w.heap.size, 0, none⟩)) ∧ w.alloc (.cells #[.slice a n c, .int .i64 0, .int .i64 (-1)] 73) = w' := by
  go_enter Tryd.func19, Tryd.ntmps19
  go_wp2
  go_ret
  exact ⟨rfl, rfl⟩
set_option maxRecDepth 100000 in
theorem reset_any (base g e : Nat) (a b c d : Value) (g2 : Nat) (w : World) (h : St w base e g [a, b, c, d]) : Calls Tryd.prog 18 #[.pointer (some ⟨g, 0, none⟩), .iface 55 (.pointer (some ⟨g2, 0, none⟩))] w fun e' w' => e' = .returned (.tuple #[]) ∧ St w' base e g [.iface 55 (.pointer (some ⟨g2, 0, none⟩)), b, c, d] ∧ Turn (fun k => k = g) w w' := by
  have c0 := h.cell (j := 0) rfl
  have f0 := h.frozen 0
  go_enter Tryd.func18, Tryd.ntmps18
  go_wp2
  go_end0
  exact ⟨rfl, h.set 0 _, (Turn.refl (fun k => k = g) _).setCell rfl _⟩
set_option maxRecDepth 100000 in
theorem setLimit_any (base g e : Nat) (a b c d : Value) (x : Int) (w : World) (h : St w base e g [a, b, c, d]) : Calls Tryd.prog 20 #[.pointer (some ⟨g, 0, none⟩), .int .i64 x] w fun e' w' => e' = .returned (.tuple #[]) ∧ St w' base e g [a, b, .int .i64 x, .int .u8 0] ∧ Turn (fun k => k = g) w w' := by
  have c2 := h.cell (j := 2) rfl
  have c3 := h.cell (j := 3) rfl
  have f2 := h.frozen 2
  have f3 := h.frozen 3
  go_enter Tryd.func20, Tryd.ntmps20
  go_wp2
  go_end0
  exact ⟨rfl, (h.set 2 (.int .i64 x)).set 3 (.int .u8 0), ((Turn.refl (fun k => k = g) _).setCell rfl _).setCell rfl _⟩
end Go.Proofs.YtoicojdnaahimaaDoor.Dec
