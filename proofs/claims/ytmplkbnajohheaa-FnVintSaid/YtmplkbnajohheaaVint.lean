/- The walks of the calls between: the buffer's method, the export, the clone, the thin package. -/
import Derived.Test.YtmplkbnajohheaaVintDec
import Derived.Deep.QuietTactic
import Derived.WalkSmall
namespace Go.Proofs.Ytmplkbnajohheaa.Vi
open Go.RowKit Go.Proofs.Ytmplkbnajohheaa.Aid

set_option maxRecDepth 100000 in
set_option maxHeartbeats 1000000 in
theorem method_any (pre tail : List UInt8) (b : UInt8) (hp : pre.length ≤ 8) (h8 : ∀ x ∈ pre, 128 ≤ x.toNat) (hb : b.toNat < 128) (g o n c p : Nat) (w : World) (hn : n ≤ 200) (_hc9 : c ≤ 9223372036854775807) (_hnc : n ≤ c)
    (hl : pre.length + 1 + tail.length = n) (hcell : ∀ j u, (Lib.byteCells (pre ++ b :: tail))[j]? = some u → w.cell? ⟨g, o + j, none⟩ = some u)
    (hpc : w.cell? ⟨p, 0, none⟩ = some (.slice (some ⟨g, o, none⟩) n c)) (hpf : w.frozen? ⟨p, 0, none⟩ = false) :
    Calls Try.prog 13 #[.pointer (some ⟨p, 0, none⟩)] w fun e w' => e = .returned (.int .u64 (val (pre ++ [b]))) ∧ ∃ A c', w' = w.setCell ⟨p, 0, none⟩ (.slice A (n - (pre.length + 1)) c') := by
  have hn1 : pre.length + 1 ≤ n := by omega
  have HL := Lib.hid hl
  clear hl
  go_enter Try.func13, Try.ntmps13
  go_wp2_with (go_at_call 16; refine (uvarint_any pre tail b hp h8 hb g o n c _ hn HL.out hcell).mono ?_; rintro e w' ⟨rfl, rfl⟩)
  all_goals (go_ret; exact ⟨rfl, _, _, rfl⟩)

set_option maxRecDepth 100000 in
set_option maxHeartbeats 1000000 in
theorem zz_any (pre tail : List UInt8) (b : UInt8) (hp : pre.length ≤ 8) (h8 : ∀ x ∈ pre, 128 ≤ x.toNat) (hb : b.toNat < 128) (g o n c : Nat) (w : World) (hn : n ≤ 200) (hc9 : c ≤ 9223372036854775807) (hnc : n ≤ c)
    (hl : pre.length + 1 + tail.length = n) (hg : g < w.heap.size) (hcell : ∀ j u, (Lib.byteCells (pre ++ b :: tail))[j]? = some u → w.cell? ⟨g, o + j, none⟩ = some u) :
    Calls Try.prog 10 #[.slice (some ⟨g, o, none⟩) n c] w fun e w' => e = .returned (.tuple #[.int .u64 (val (pre ++ [b])), .int .i64 (pre.length + 1)]) ∧ Below w.heap.size w w' := by
  have hn1 : pre.length + 1 ≤ n := by omega
  have HL := Lib.hid hl
  clear hl
  have hcell' : ∀ j u, (Lib.byteCells (pre ++ b :: tail))[j]? = some u → (w.alloc (.cells #[.slice (some ⟨g, o, none⟩) n c] 37)).cell? ⟨g, o + j, none⟩ = some u := fun j u hu => (World.cell?_alloc_lt w _ _ hg).trans (hcell j u hu)
  have hsub : IntKind.i64.wrap ((n : Int) - ((n - (pre.length + 1) : Nat) : Int)) = (pre.length : Int) + 1 := by rw [IntKind.wrap_i64]; omega
  go_enter Try.func10, Try.ntmps10
  go_wp2_with (go_at_call 13; refine (method_any pre tail b hp h8 hb g o n c w.heap.size _ hn hc9 hnc HL.out hcell' (by simp [go_sem]) (by simp [go_sem])).mono ?_; rintro e w' ⟨rfl, A, c', rfl⟩)
  go_quiet (fail)
  go_wp2
  go_ret2
  exact ⟨rfl, below_drewN ((Below.refl _ _).alloc (Nat.le_refl _) _) _⟩

set_option maxRecDepth 100000 in
set_option maxHeartbeats 1000000 in
theorem clone_any (v : Value) (l : List UInt8) (B : Nat) (w : World) (hr : Rd w B v (Lib.byteCells l)) (hB : B ≤ w.heap.size) (hl : l.length ≤ 4000000) :
    Calls Try.prog 11 #[v] w fun e w' => ∃ v', e = .returned v' ∧ w'.ownsRow w.heap.size 5 1 v' l.length (Lib.byteCells l) ∧ Below w.heap.size w w' := by
  obtain ⟨i0, hi, hz0, hz1, hz2⟩ := info_parts info5
  have hr' := hr
  obtain ⟨A, c, hv, _, hc, hx⟩ := hr'
  rw [Lib.byteCells_length l] at hv
  subst hv
  rcases A with _ | ad
  · have h0 : l = [] := by
      rcases l with _ | ⟨x, r⟩
      · rfl
      · obtain ⟨g, o, h, _⟩ := hx (by simp [Lib.byteCells])
        cases h
    subst h0
    have hnil := fun w => Lib.run_eql_slice_nil (P := Try.prog) w 23
    clear hx hr
    go_enter Try.func11, Try.ntmps11
    go_wp2
    go_ret
    exact ⟨.slice none 0 0, rfl, by simpa [Lib.byteCells] using World.ownsRow_nil _ _ _ _, Below.refl _ _⟩
  · have hne := fun w => Lib.run_eql_slice_nil (P := Try.prog) w 23 5 (some ad) l.length c 0 0 Try.underlying23
    have hown0 : (w.alloc (.cells #[] 5)).ownsRow w.heap.size 5 1 (.slice (some ⟨w.heap.size, 0, none⟩) 0 0) 0 [] := World.ownsRow_lit w #[] 0 (Nat.le_refl _) (by decide) (by simp)
    go_enter Try.func11, Try.ntmps11
    go_wp2_with (at_builtin; refine wpList_append_rd _ rfl _ _ 23 rfl w.heap.size 5 i0 (.int .u8 0) 1 Try.underlying23 hi hz0 hz1 hz2 rfl _ 0 [] rfl hown0 B _ (Lib.byteCells l) rfl (hr.alloc hB _) (one_bytes l) (by rw [Lib.byteCells_length]; omega) (by rw [Lib.byteCells_length]; omega) (by simp) ?_)
    intro v' w1 hown1 hgrow hat
    have hb1 : Below w.heap.size w w1 := ((Below.refl _ _).alloc (Nat.le_refl _) _).grown hgrow (by simp) (by intro k hk; simp [Value.ownBlock] at hk; omega)
    rw [Lib.byteCells_length] at hown1
    go_wp2
    go_ret
    exact ⟨v', rfl, hown1, hb1⟩

theorem rd_enc {w : World} {B : Nat} {v : Value} {l : List UInt8} (h : Rd w B v (Lib.byteCells l)) (hl : 0 < l.length) : ∃ g o c, v = .slice (some ⟨g, o, none⟩) l.length c ∧ l.length ≤ c ∧ c ≤ 9223372036854775807 ∧ g < B ∧ ∀ j u, (Lib.byteCells l)[j]? = some u → w.cell? ⟨g, o + j, none⟩ = some u := by
  obtain ⟨A, c, hv, h1, h2, hx⟩ := h
  rw [Lib.byteCells_length] at hv h1 hx
  obtain ⟨g, o, rfl, hg, hc⟩ := hx hl
  exact ⟨g, o, c, hv, h1, h2, hg, hc⟩

set_option maxRecDepth 100000 in
set_option maxHeartbeats 1000000 in
theorem impl_any (val0 : Nat) (l tail : List UInt8) (v : Value) (B : Nat) (w : World) (he : Enc l val0) (hn : l.length + tail.length ≤ 200) (hr : Rd w B v (Lib.byteCells (l ++ tail))) (hB : B ≤ w.heap.size) :
    Calls Try.prog 6 #[v] w fun e w' => e = .returned (.tuple #[.int .u64 val0, .int .i64 l.length, .bool true]) ∧ Below w.heap.size w w' := by
  obtain ⟨pre, b, rfl, hp, h8, hb, hv⟩ := he
  have HV := Lib.hid hv
  clear hv
  have hlen : pre.length + 1 + tail.length ≤ 200 := by simpa [Nat.add_assoc] using hn
  rw [List.append_assoc, List.singleton_append] at hr
  go_enter Try.func6, Try.ntmps6
  go_wp2_with fail
  refine (clone_any v (pre ++ b :: tail) B _ hr hB (by simp; omega)).mono ?_
  rintro e w1 ⟨v1, rfl, hown1, hb1⟩
  obtain ⟨g, o, c, rfl, hc1, hc2, hg, hcell⟩ := rd_enc (Rd.own hown1) (by simp; omega)
  have hl1 : (pre ++ b :: tail).length = pre.length + 1 + tail.length := by simp; omega
  rw [hl1] at hc1
  rw [hl1]
  have hpos : (0 : Int) < (pre.length : Int) + 1 := by omega
  go_wp2_with (go_at_call 10; refine (zz_any pre tail b hp h8 hb g o _ c _ hlen hc2 hc1 rfl hg hcell).mono ?_; rintro e w2 ⟨rfl, hb2⟩)
  go_ret3
  refine ⟨?_, hb1.trans (hb2.mono hb1.size)⟩
  rw [HV.out]
  simp
end Go.Proofs.Ytmplkbnajohheaa.Vi
