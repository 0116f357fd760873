/-
  PROVED: for every number, every least count and every slice of bytes, the law of variable numbers (FnVint) returns true and its arguments read as before.
  Conditions: none.
  The frame of this text (from the row's step on) was written by the kit's skeleton program for this law.
-/
import Derived.Test.YtmplkbnajohheaaRows
import Derived.WalkKit
import Derived.ProofKit
import Derived.OpenShut
import Derived.ShutString
import Derived.ChangeOld
import Derived.Below
import Derived.Test.YtmplkbnajohheaaArgs
import Derived.Test.YtmplkbnajohheaaVint
namespace Go.Proofs.Ytmplkbnajohheaa.fnVint
open Go.ChangeShapes Go.WideShapes Go.ChangeAt Go.RowKit
open Go.Proofs.Ytmplkbnajohheaa.Aid Go.Proofs.Ytmplkbnajohheaa.Vi
open Go.ChangeMaps (open_string shut_string)

theorem own : ownKnob Try.prog.godebug = none := by kernel_rfl
theorem laidOut : laidOutB Try.prog = true := by kernel_rfl

/-- The walk of the law. -/
theorem walk (a0 : Int) (a1 : Int) (a2 : Option Addr) (len2 cap2 : Nat) (z2 : List Int) (w : World) (w0 : (Lit.int .u64 a0).wf = true) (w1 : (Lit.int .u8 a1).wf = true) (w2 : IsRow .u8 w a2 len2 cap2 z2) :
    Calls Try.prog 3 #[.int .u64 a0, .int .u8 a1, .slice a2 len2 cap2] w fun e w' => e = .returned (.bool true) ∧ Below w.heap.size w w' := by
  obtain ⟨b0, b0'⟩ := bounds_u64 w0
  obtain ⟨b1, b1'⟩ := bounds_u8 w1
  obtain ⟨tail, htl, hrt⟩ := rd_of_row w2
  have hlc := (isRow_cells w2).1
  clear w0 w1 w2
  by_cases hbig : 2147483647 < len2
  · clear hrt htl
    go_enter Try.func3, Try.ntmps3
    go_wp2
    go_ret
    exact ⟨rfl, Below.refl _ _⟩
  by_cases hmid : 100 < len2
  · clear hrt htl
    go_enter Try.func3, Try.ntmps3
    go_wp2
    go_ret
    exact ⟨rfl, Below.refl _ _⟩
  obtain ⟨i0, hi, hz0, hz1, hz2⟩ := info_parts info5
  obtain ⟨v, hv⟩ : ∃ v : Nat, (v : Int) = a0 / 2 := ⟨(a0 / 2).toNat, by omega⟩
  obtain ⟨k, hk⟩ : ∃ k : Nat, (k : Int) = a1 % 10 := ⟨(a1 % 10).toNat, by omega⟩
  have hv63 : v < 9223372036854775808 := by omega
  have hk9 : k ≤ 9 := by omega
  have HV := Lib.hid hv
  have HK := Lib.hid hk
  have HB := Lib.hid hv63
  subst htl
  clear hv hk hv63 b0'
  go_enter Try.func3, Try.ntmps3
  go_wp2_with fail
  rw [← HV.out, ← HK.out]
  refine (spec_any v k HB.out hk9 _).mono ?_
  rintro e w1 ⟨vb, l, rfl, hown, he, hb1⟩
  have hlen := Enc.len he
  obtain ⟨A, c, rfl⟩ := own_form hown
  have hs1 := hb1.size
  have hown0 : (w1.alloc (.cells #[] 5)).ownsRow w1.heap.size 5 1 (.slice (some ⟨w1.heap.size, 0, none⟩) 0 0) 0 [] := World.ownsRow_lit w1 #[] 0 (Nat.le_refl _) (by decide) (by simp)
  have hrb : Rd (w1.alloc (.cells #[] 5)) w1.heap.size (.slice A l.length c) (Lib.byteCells l) := (Rd.own hown).alloc (Nat.le_refl _) _
  have hrt1 : Rd w1 w.heap.size (.slice a2 tail.length cap2) (Lib.byteCells tail) := hrt.below hb1
  go_wp2_with (at_builtin; refine wpList_append_rd _ rfl (.tmp 25) (.tmp 26) 23 rfl w1.heap.size 5 i0 (.int .u8 0) 1 Try.underlying23 hi hz0 hz1 hz2 rfl _ 0 [] rfl hown0 w1.heap.size _ (Lib.byteCells l) rfl hrb (one_bytes l) (by rw [Lib.byteCells_length]; omega) (by rw [Lib.byteCells_length]; omega) (by simp) ?_)
  intro v2 w2 hown2 hgrow2 hat2
  rw [Lib.byteCells_length] at hown2
  have hb2 : Below w1.heap.size w1 w2 := ((Below.refl _ _).alloc (Nat.le_refl _) _).grown hgrow2 (by simp) (by intro k hk; simp [Value.ownBlock] at hk; omega)
  have hs2 := hb2.size
  have hrt2 : Rd w2 w.heap.size (.slice a2 tail.length cap2) (Lib.byteCells tail) := hrt1.below (hb2.mono hs1)
  go_wp2_with (at_builtin; refine wpList_append_rd _ rfl (.tmp 27) (.tmp 28) 23 rfl w1.heap.size 5 i0 (.int .u8 0) 1 Try.underlying23 hi hz0 hz1 hz2 rfl _ l.length (Lib.byteCells l) rfl hown2 w.heap.size _ (Lib.byteCells tail) rfl hrt2 (one_bytes tail) (by rw [Lib.byteCells_length]; omega) (by rw [Lib.byteCells_length]; omega) hs2 ?_)
  intro v3 w3 hown3 hgrow3 hat3
  rw [Lib.byteCells_length, ← Lib.byteCells_append] at hown3
  have hb3 : Below w1.heap.size w2 w3 := (Below.refl _ _).grown hgrow3 hs2 (own_ge hown2)
  go_wp2_with (go_at_call 6; refine (impl_any v l tail v3 w3.heap.size _ he (by omega) (Rd.own hown3) (Nat.le_refl _)).mono ?_; rintro e w4 ⟨rfl, hb4⟩)
  go_ret
  have hs3 := hb3.size
  exact ⟨rfl, hb1.trans ((hb2.trans (hb3.trans (hb4.mono (by omega)))).mono hs1)⟩

/-! The row's step. -/
set_option maxRecDepth 100000 in
theorem lifted (os : Os) (started : os.Started) (H : Type) (enc : TypeId × Value → H) :
    ReturnsInHanded {} Try.checked os 3 .any (Rows.fnVintSpec.pre6 enc Try.prog Try.f3 Rows.fnVintRow.domain false) (Rows.fnVintSpec.post enc Try.prog Try.f3 false true false false) := by
  refine returnsInHanded_of_change (C := Try.checked) own started (by kernel_rfl) Try.func3
    (ChangeSpec.witness6 (enc := enc) (C := Try.checked) false ⟨#[], #[.int .u64 0, .int .u8 0, .slice none 0 0], []⟩ 8 (by kernel_rfl) (by kernel_rfl) (by kernel_rfl) (by kernel_rfl)) ?_
  intro W base args ds gs before hval0 hW hcnd _
  have hval : ∀ (j : Nat) t v, Try.f3.params[j]? = some t → args[j]? = some v → Value.okWide Try.prog W .any base t v := hval0
  have hW' := hW
  obtain ⟨p, q, hA0, hV, rfl, hfz, hnd⟩ := hW
  have hA : DataW.TrodAll enc Try.prog W 0 (fun _ => true) true Try.f3.params.toList args.toList ds p := hA0
  rw [Try.params3] at hA hval
  obtain ⟨v0, vs0, d0, ds0, p0, q0, hargs, rfl, rfl, h0, r0⟩ := trodAll_cons hA
  obtain ⟨v1, vs1, d1, ds1, p1, q1, rfl, rfl, rfl, h1, r1⟩ := trodAll_cons r0
  obtain ⟨v2, vs2, d2, ds2, p2, q2, rfl, rfl, rfl, h2, r2⟩ := trodAll_cons r1
  obtain ⟨rfl, rfl, rfl⟩ := trodAll_nil r2
  obtain rfl : args = #[v0, v1, v2] := by cases args; simp_all
  obtain ⟨rfl, rfl⟩ := trodVars_none hV
  obtain ⟨a0, rfl, rfl, rfl, w0⟩ := open_int Try.underlying22 (hval 0 22 v0 rfl rfl) h0
  obtain ⟨a1, rfl, rfl, rfl, w1⟩ := open_int Try.underlying5 (hval 1 5 v1 rfl rfl) h1
  obtain ⟨a2, len2, cap2, rfl⟩ := okWide_slice Try.underlying23 (hval 2 23 v2 rfl rfl)
  have k2 := h2
  have lt2 : ∀ x ∈ p2, x.block < W.heap.size := by obtain ⟨m, hm⟩ := k2; exact DataW.trod_lt m _ _ _ hm
  obtain ⟨z2, w2⟩ : ∃ zs, IsRow .u8 W a2 len2 cap2 zs := by
    obtain ⟨fuel, hf⟩ := h2
    rcases open_ints Try.underlying23 Try.underlying5 (by kernel_rfl) hf with ⟨hcs, _⟩ | ⟨x, l, c, zs, hcs, _, hl, hm, hz, _, hcell, hwz⟩
    · simp [Value.cells] at hcs
      obtain ⟨rfl, rfl, rfl⟩ := hcs
      exact ⟨[], .inl ⟨rfl, rfl, rfl, rfl⟩⟩
    · simp [Value.cells] at hcs
      obtain ⟨rfl, rfl, rfl⟩ := hcs
      exact ⟨zs, .inr ⟨_, rfl, hl, hm, by simpa using hz, hcell, hwz⟩⟩
  clear hA0 hval0
  refine (walk a0 a1 a2 len2 cap2 z2 W w0 w1 w2).mono fun e W' ⟨he, bel⟩ => ?_
  subst he
  exact ⟨_, rfl, _, _, _, [], _, [], hW', trodAll_mk1 (shut_bool Try.underlying4 _), (trodAll_cons_mk (shut_int Try.underlying22 w0) (trodAll_cons_mk (shut_int Try.underlying5 w1) (trodAll_cons_mk (Below.trod laidOut (by kernel_rfl) (of_decide_eq_true (by kernel_rfl)) k2 bel lt2) trodAll_mk0))), rfl, bel.frame _, fun h => by cases h⟩

theorem over : Rows.fnVintRow.holds Try.pinned (OpenSpec.ofChange Rows.fnVintSpec) :=
  OpenClaim.holds_of_wide 3 Try.f3 rfl rfl rfl rfl rfl rfl rfl ⟨rfl, rfl, rfl, rfl, rfl⟩ rfl rfl rfl rfl rfl (by kernel_rfl) Try.func3 (by kernel_rfl)
    (of_decide_eq_true (by kernel_rfl)) (by unfold Func.isWrapper; first | (rw [if_pos (by decide +kernel)]; kernel_rfl) | (rw [if_neg (by decide +kernel)]; exact ⟨rfl, rfl⟩))
    (fun os started H enc _ => lifted os started H enc)

/-- The statement. -/
theorem proved : Rows.FnVintSaid := over
#print axioms proved
end Go.Proofs.Ytmplkbnajohheaa.fnVint
