/-
  PROVED: for every six bytes (a year, a month, a day, an hour, a minute, a second by two) the law of times of DOS (FnDosTime) returns true and its arguments read as before.
  Conditions: none.
  The frame of this text (from the row's step on) was written by the kit's skeleton program for this law.
-/
import Derived.Test.YtmplkbnajohheaaRows
import Derived.WalkKit
import Derived.ProofKit
import Derived.OpenShut
import Derived.ShutString
import Derived.ChangeOld
import Derived.Below
import Derived.Test.YtmplkbnajohheaaDos
namespace Go.Proofs.Ytmplkbnajohheaa.fnDosTime
open Go.ChangeShapes Go.WideShapes Go.ChangeAt Go.RowKit
open Go.Proofs.Ytmplkbnajohheaa.Dos
open Go.ChangeMaps (open_string shut_string)

theorem own : ownKnob Try.prog.godebug = none := by kernel_rfl

/-- The walk of the law. -/
theorem walk (a0 : Int) (a1 : Int) (a2 : Int) (a3 : Int) (a4 : Int) (a5 : Int) (w0 : (Lit.int .u8 a0).wf = true) (w1 : (Lit.int .u8 a1).wf = true) (w2 : (Lit.int .u8 a2).wf = true) (w3 : (Lit.int .u8 a3).wf = true) (w4 : (Lit.int .u8 a4).wf = true) (w5 : (Lit.int .u8 a5).wf = true) (w : World) :
    Calls Try.prog 4 #[.int .u8 a0, .int .u8 a1, .int .u8 a2, .int .u8 a3, .int .u8 a4, .int .u8 a5] w fun e w' => e = .returned (.bool true) ∧ Below w.heap.size w w' := by
  obtain ⟨p0, q0⟩ := bounds_u8 w0
  obtain ⟨p1, q1⟩ := bounds_u8 w1
  obtain ⟨p2, q2⟩ := bounds_u8 w2
  obtain ⟨p3, q3⟩ := bounds_u8 w3
  obtain ⟨p4, q4⟩ := bounds_u8 w4
  obtain ⟨p5, q5⟩ := bounds_u8 w5
  clear w0 w1 w2 w3 w4 w5
  go_enter Try.func4, Try.ntmps4
  go_wp2_with fail
  refine (month_any _ _ (by omega) (by omega) (by omega) (by omega) _).mono ?_
  rintro e w1 ⟨rfl, rfl⟩
  have hdm := dim_bd (1980 + a0 % 128) (1 + a1 % 12)
  obtain ⟨D, HD⟩ : ∃ D, Hid (dim (1980 + a0 % 128) (1 + a1 % 12) = D) := ⟨_, rfl⟩
  rw [HD.out] at hdm ⊢
  have e0 : 0 ≤ a2 % D := Int.emod_nonneg _ (by omega)
  have e1 : a2 % D < D := Int.emod_lt_of_pos _ (by omega)
  go_wp2_with fail
  rw [or_dos (y := 1980 + a0 % 128) (m := 1 + a1 % 12) (d := 1 + a2 % D) (h := a3 % 24) (n := a4 % 60) (s := a5 % 30) (by omega) (by omega) (by omega) (by omega) (by omega) (by omega) (by omega) (by omega) (by omega) (by omega) (by omega) (by omega)]
  refine (implDos_any _ _ _ _ _ _ (by omega) (by omega) (by omega) (by omega) (by omega) (by omega) (by omega) (by omega) (by omega) (by omega) (by omega) (by omega) _).mono ?_
  rintro e w1 ⟨rfl, hb1⟩
  have hs := secs_bd (y := 1980 + a0 % 128) (m := 1 + a1 % 12) (d := 1 + a2 % D) (h := a3 % 24) (n := a4 % 60) (s := a5 % 30 * 2) (by omega) (by omega) (by omega) (by omega) (by omega) (by omega) (by omega) (by omega) (by omega) (by omega) (by omega) (by omega)
  have hdb := dby_bd (y := 1980 + a0 % 128) (by omega) (by omega)
  have hcb := cum_bd (1980 + a0 % 128) (m := 1 + a1 % 12) (by omega) (by omega)
  have hsec : secs (1980 + a0 % 128) (1 + a1 % 12) (1 + a2 % D) (a3 % 24) (a4 % 60) (a5 % 30 * 2) = (dby (1980 + a0 % 128) + cum (1980 + a0 % 128) (1 + a1 % 12) + (1 + a2 % D - 1)) * 86400 + a3 % 24 * 3600 + a4 % 60 * 60 + 2 * (a5 % 30) := by rw [secs, Int.mul_comm (a5 % 30) 2]
  rw [hsec]
  go_wp2_with fail
  refine (days_any _ _ _ (by omega) (by omega) (by omega) (by omega) (by omega) (by omega) _).mono ?_
  rintro e w2 ⟨rfl, rfl⟩
  go_wp2
  go_ret
  exact ⟨rfl, hb1⟩

/-! The row's step. -/
set_option maxRecDepth 100000 in
theorem lifted (os : Os) (started : os.Started) (H : Type) (enc : TypeId × Value → H) :
    ReturnsInHanded {} Try.checked os 4 .any (Rows.fnDosTimeSpec.pre6 enc Try.prog Try.f4 Rows.fnDosTimeRow.domain false) (Rows.fnDosTimeSpec.post enc Try.prog Try.f4 false true false false) := by
  refine returnsInHanded_of_change (C := Try.checked) own started (by kernel_rfl) Try.func4
    (ChangeSpec.witness6 (enc := enc) (C := Try.checked) false ⟨#[], #[.int .u8 0, .int .u8 0, .int .u8 0, .int .u8 0, .int .u8 0, .int .u8 0], []⟩ 8 (by kernel_rfl) (by kernel_rfl) (by kernel_rfl) (by kernel_rfl)) ?_
  intro W base args ds gs before hval0 hW hcnd _
  have hval : ∀ (j : Nat) t v, Try.f4.params[j]? = some t → args[j]? = some v → Value.okWide Try.prog W .any base t v := hval0
  have hW' := hW
  obtain ⟨p, q, hA0, hV, rfl, hfz, hnd⟩ := hW
  have hA : DataW.TrodAll enc Try.prog W 0 (fun _ => true) true Try.f4.params.toList args.toList ds p := hA0
  rw [Try.params4] at hA hval
  obtain ⟨v0, vs0, d0, ds0, p0, q0, hargs, rfl, rfl, h0, r0⟩ := trodAll_cons hA
  obtain ⟨v1, vs1, d1, ds1, p1, q1, rfl, rfl, rfl, h1, r1⟩ := trodAll_cons r0
  obtain ⟨v2, vs2, d2, ds2, p2, q2, rfl, rfl, rfl, h2, r2⟩ := trodAll_cons r1
  obtain ⟨v3, vs3, d3, ds3, p3, q3, rfl, rfl, rfl, h3, r3⟩ := trodAll_cons r2
  obtain ⟨v4, vs4, d4, ds4, p4, q4, rfl, rfl, rfl, h4, r4⟩ := trodAll_cons r3
  obtain ⟨v5, vs5, d5, ds5, p5, q5, rfl, rfl, rfl, h5, r5⟩ := trodAll_cons r4
  obtain ⟨rfl, rfl, rfl⟩ := trodAll_nil r5
  obtain rfl : args = #[v0, v1, v2, v3, v4, v5] := by cases args; simp_all
  obtain ⟨rfl, rfl⟩ := trodVars_none hV
  obtain ⟨a0, rfl, rfl, rfl, w0⟩ := open_int Try.underlying5 (hval 0 5 v0 rfl rfl) h0
  obtain ⟨a1, rfl, rfl, rfl, w1⟩ := open_int Try.underlying5 (hval 1 5 v1 rfl rfl) h1
  obtain ⟨a2, rfl, rfl, rfl, w2⟩ := open_int Try.underlying5 (hval 2 5 v2 rfl rfl) h2
  obtain ⟨a3, rfl, rfl, rfl, w3⟩ := open_int Try.underlying5 (hval 3 5 v3 rfl rfl) h3
  obtain ⟨a4, rfl, rfl, rfl, w4⟩ := open_int Try.underlying5 (hval 4 5 v4 rfl rfl) h4
  obtain ⟨a5, rfl, rfl, rfl, w5⟩ := open_int Try.underlying5 (hval 5 5 v5 rfl rfl) h5
  clear hA0 hval0
  refine (walk a0 a1 a2 a3 a4 a5 w0 w1 w2 w3 w4 w5 W).mono fun e W' ⟨he, bel⟩ => ?_
  subst he
  exact ⟨_, rfl, _, _, _, [], _, [], hW', trodAll_mk1 (shut_bool Try.underlying4 _), (trodAll_cons_mk (shut_int Try.underlying5 w0) (trodAll_cons_mk (shut_int Try.underlying5 w1) (trodAll_cons_mk (shut_int Try.underlying5 w2) (trodAll_cons_mk (shut_int Try.underlying5 w3) (trodAll_cons_mk (shut_int Try.underlying5 w4) (trodAll_cons_mk (shut_int Try.underlying5 w5) trodAll_mk0)))))), rfl, bel.frame _, fun h => by cases h⟩

theorem over : Rows.fnDosTimeRow.holds Try.pinned (OpenSpec.ofChange Rows.fnDosTimeSpec) :=
  OpenClaim.holds_of_wide 4 Try.f4 rfl rfl rfl rfl rfl rfl rfl ⟨rfl, rfl, rfl, rfl, rfl⟩ rfl rfl rfl rfl rfl (by kernel_rfl) Try.func4 (by kernel_rfl)
    (of_decide_eq_true (by kernel_rfl)) (by unfold Func.isWrapper; first | (rw [if_pos (by decide +kernel)]; kernel_rfl) | (rw [if_neg (by decide +kernel)]; exact ⟨rfl, rfl⟩))
    (fun os started H enc _ => lifted os started H enc)

/-- The statement. -/
theorem proved : Rows.FnDosTimeSaid :=
  over
#print axioms proved
end Go.Proofs.Ytmplkbnajohheaa.fnDosTime
