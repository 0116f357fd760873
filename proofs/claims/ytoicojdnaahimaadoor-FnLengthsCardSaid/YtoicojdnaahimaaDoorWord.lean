/- The walk of the reference's writer of bits. -/
import Derived.Test.YtoicojdnaahimaaDoorWordPlain
import Derived.Test.YtoicojdnaahimaaDoorMake
import Derived.StillTailTactics
import Derived.BigRegion
import Derived.Laws.BitsLemmas
namespace Go.Proofs.YtoicojdnaahimaaDoor.Cod
open Go Go.RowKit Go.Proofs.YtoicojdnaahimaaDoor.Aid Go.Proofs.YtoicojdnaahimaaDoor.Base Go.Proofs.YtoicojdnaahimaaDoor.Len

/-- A writer at block g, its bytes and how many bits; its blocks lie in S. -/
def Wr (S : Nat → Prop) (w : World) (base g : Nat) (out : List Nat) (at_ : Nat) : Prop :=
  ∃ vs, St w base 44 g [vs, .int .i64 (at_ : Int)] ∧ w.ownsRow base 5 1 vs out.length (nums .u8 out) ∧ vs.ownBlock ≠ some g ∧ S g ∧ (∀ k, vs.ownBlock = some k → S k) ∧ Bits out at_

set_option maxRecDepth 100000 in
set_option maxHeartbeats 1000000 in
theorem word_any (S : Nat → Prop) (base g v n a0 : Nat) (out0 : List Nat) (w : World) (hw : Wr S w base g out0 a0) (hS : ∀ k, w.heap.size ≤ k → S k) (hn : n ≤ 15) (hv : v < 2 ^ n) (ha : a0 ≤ 30000) :
    Calls Tryd.prog 17 #[.pointer (some ⟨g, 0, none⟩), .int .i64 (v : Int), .int .i64 (n : Int)] w fun e w' => ∃ out, e = .returned (.tuple #[]) ∧ Wr S w' base g out (a0 + n) ∧ (∀ p, p < a0 → bitAt out p = bitAt out0 p) ∧ win out a0 n = v ∧ Turn S w w' := by
  obtain ⟨i0, hi, hz0, hz1, hz2⟩ := info_parts infoB
  obtain ⟨vs0, hst0, hown0, hvg0, hSg, hvS0, hbits0⟩ := hw
  have HB0 : Hid (Wrote out0 a0 v n 0 out0) := Wrote.start hbits0 v n hv
  go_enter Tryd.func17, Tryd.ntmps17
  go_wp2
  go_loopw [6] (fun vk wr => ∃ (j : Nat) (out : List Nat) (vs : Value), vk = .int .i64 ((n : Int) - 1 - j) ∧ j ≤ n ∧ Hid (Wrote out a0 v n j out0) ∧ St wr base 44 g [vs, .int .i64 ((a0 + j : Nat) : Int)] ∧ wr.ownsRow base 5 1 vs out.length (nums .u8 out) ∧ vs.ownBlock ≠ some g ∧ (∀ k, vs.ownBlock = some k → S k) ∧ Turn S w wr)
    (fun vk _ => (intOf vk + 1).toNat)
  case atStart => exact ⟨0, out0, vs0, by go_num, by omega, HB0, hst0, hown0, hvg0, hvS0, Turn.refl _ _⟩
  case round =>
    obtain ⟨j, out, vs, rfl, hj, HB, hst, hown, hvg, hvS, ht⟩ := hrel
    have c0 := hst.cell (j := 0) rfl
    have c1 := hst.cell (j := 1) rfl
    have f0 := hst.frozen 0
    have f1 := hst.frozen 1
    have hgl := hst.lt
    have hbw : base ≤ wr.heap.size := by have := hst.base_le; omega
    have hol : out.length ≤ 6000 := by have := HB.out.bits.len; omega
    obtain ⟨A, cv, rfl⟩ : ∃ A cv, vs = .slice A out.length cv := own_form hown
    by_cases hlt : j < n
    · obtain ⟨a, ha2⟩ : ∃ a, a = a0 + j := ⟨_, rfl⟩
      rw [← ha2] at hst c1
      have HA := Lib.hid ha2
      clear ha2
      have hal : a ≤ 40000 := by have := HA.out; omega
      obtain ⟨r, hr⟩ : ∃ r, r = a % 8 := ⟨_, rfl⟩
      have hr8 : r < 8 := by omega
      have h7 : bits .and .i64 (a : Int) 7 = (r : Int) := by
        have := bits_mask .i64 62 (by decide) (fun n a b => by rw [IntKind.wrap_i64]; omega) 3 (by decide) (a : Int) (by omega) (by omega)
        rw [show ((2 : Int) ^ 3 - 1) = 7 by decide] at this
        rw [this, hr]
        simp
      have HR := Lib.hid hr
      clear hr
      by_cases hm : r = 0
      case' pos =>
        have H7 := Lib.hid h7
        have h70 : bits .and .i64 (a : Int) 7 = 0 := by rw [h7, hm]; rfl
        have Hm := Lib.hid hm
        clear h7 hm
        go_wp2_with (at_builtin; refine wpList_append_push _ rfl _ _ 28 rfl .u8 base 5 i0 (.int .u8 0) 1 Tryd.underlying28 hi hz0 hz1 hz2 rfl (by omega) (.slice A out.length cv) out rfl (World.ownsRow.alloc hown _) (wr.heap.size + 1) _ [0] rfl (rd_one wr (.int .u8 0) 5) (by simp) (by simp; omega) (by simp; omega) ?_; intro g2 c2 w2 hown2 hgr hat; have hst2 : St w2 base 44 g [.slice A out.length cv, .int .i64 (a : Int)] := (hst.alloc _).turn ((Turn.refl (fun b => (Value.slice A out.length cv).ownBlock = some b) _).grown hgr (fun k hk _ => hk)) (fun h => hvg h); have c0 := hst2.cell (j := 0) rfl; have c1 := hst2.cell (j := 1) rfl; have f0 := hst2.frozen 0; have f1 := hst2.frozen 1)
        have hg2g : g2 ≠ g := by
          rcases hat with h | h
          · exact fun e => hvg (by rw [h, e])
          · simp at h; omega
        have hSg2 : S g2 := by
          rcases hat with h | h
          · exact hvS _ h
          · have := ht.size; exact hS _ (by simp at h; omega)
        have ht3 : Turn S w (w2.setCell ⟨g, 0, none⟩ (.slice (some ⟨g2, 0, none⟩) (out.length + 1) c2)) := ((ht.alloc _).grown hgr (fun k hk _ => hvS k hk)).setCell hSg _
        have hst3 := hst2.set 0 (.slice (some ⟨g2, 0, none⟩) (out.length + 1) c2)
        have hrow3 := hown2.other (p := ⟨g, 0, none⟩) (by show g ≠ g2; omega) (.slice (some ⟨g2, 0, none⟩) (out.length + 1) c2)
        have hR : out ++ [0] = room out a := by unfold room; rw [if_pos (HR.out.symm.trans Hm.out)]
        rw [hR] at hrow3
        have hL : (room out a).length = out.length + 1 := by rw [← hR]; simp
        clear hst2 hown2 hgr hat c0 c1 f0 f1 hst hown ht
        obtain ⟨L, hL2⟩ : ∃ L, L = out.length + 1 := ⟨_, rfl⟩
        rw [← hL2] at hL hst3 hrow3 ht3 ⊢
        clear hL2
        obtain ⟨w3, hw3⟩ : ∃ w3, w3 = w2.setCell ⟨g, 0, none⟩ (.slice (some ⟨g2, 0, none⟩) L c2) := ⟨_, rfl⟩
        rw [← hw3] at ht3 hst3 hrow3 ⊢
        clear hw3 h70
        have h7 := H7.out
        change St w3 base 44 g [.slice (some ⟨g2, 0, none⟩) L c2, .int .i64 (a : Int)] at hst3
      case' neg =>
        have hv3 : (Value.slice A out.length cv) ≠ .slice none 0 0 := fun e => by
          have h1 := HB.out.bits.len
          have h2 := HA.out
          have h3 := HR.out
          injection e with _ e _
          omega
        obtain ⟨g2, c2, hv2, hrow3⟩ := row_of hown hv3
        simp only [Value.slice.injEq, true_and] at hv2
        obtain ⟨rfl, rfl⟩ := hv2
        have hg2g : g2 ≠ g := fun e => hvg (by rw [e]; rfl)
        have hSg2 : S g2 := hvS _ rfl
        have hst3 := hst
        have ht3 := ht
        go_wp2
        have hR : out = room out a := by unfold room; rw [if_neg (by rw [← HR.out]; exact hm)]
        rw [hR] at hrow3
        have hL : (room out a).length = out.length := by rw [← hR]
        clear c0 c1 f0 f1 hst hown ht hR
        obtain ⟨L, hL2⟩ : ∃ L, L = out.length := ⟨_, rfl⟩
        rw [← hL2] at hL hst3
        clear hL2
        obtain ⟨w3, hw3⟩ : ∃ w3, w3 = wr := ⟨_, rfl⟩
        rw [← hw3] at ht3 hst3 hrow3 ⊢
        clear hw3
      all_goals (
        have hlr := room_length out a (by rw [HA.out]; exact HB.out.bits)
        obtain ⟨q, hq⟩ : ∃ q : Nat, (a : Int) / 8 = (q : Int) := ⟨a / 8, by omega⟩
        have hqa : q = a / 8 := by omega
        have hqL : q < L := by omega
        have c0 := hst3.cell (j := 0) rfl
        have c1 := hst3.cell (j := 1) rfl
        have cq := hrow3.cell (j := q) (by omega)
        have fq := hrow3.frozen q
        have f1 := hst3.frozen 1
        rw [room_getD] at cq
        obtain ⟨x, hx⟩ : ∃ x, x = out.getD q 0 := ⟨_, rfl⟩
        rw [← hx] at cq
        obtain ⟨V, hV⟩ : ∃ V, V = v / 2 ^ (n - 1 - j) := ⟨_, rfl⟩
        have hVI : (v : Int) / 2 ^ (n - 1 - j) = (V : Int) := by rw [hV]; push_cast; rfl
        have hV2 : V < 32768 := by
          have h1 : 2 ^ n ≤ 2 ^ 15 := Nat.pow_le_pow_right (by omega) hn
          have h2 : V ≤ v := by rw [hV]; exact Nat.div_le_self _ _
          omega
        have h1 : bits .and .i64 (V : Int) 1 = ((V % 2 : Nat) : Int) := by
          have := bits_mask .i64 62 (by decide) (fun n a b => by rw [IntKind.wrap_i64]; omega) 1 (by decide) (V : Int) (by omega) (by omega)
          rw [show ((2 : Int) ^ 1 - 1) = 1 by decide] at this
          rw [this]
          simp
        obtain ⟨b, hb⟩ : ∃ b, b = V % 2 := ⟨_, rfl⟩
        have hb2 : b < 2 := by omega
        rw [← hb] at h1
        have hbo : Bits out a := by rw [HA.out]; exact HB.out.bits
        have hput := put_byte hbo hb2
        have hlow := hbo.low
        rw [← hqa, ← hx, ← HR.out] at hput
        rw [← hqa, ← hx, ← HR.out] at hlow
        obtain ⟨E, hE⟩ : ∃ E, E = 7 - r := ⟨_, rfl⟩
        have hE7 : E ≤ 7 := by omega
        have hwr : IntKind.i64.wrap (7 - (r : Int)) = (E : Int) := by rw [IntKind.wrap_i64]; omega
        rw [← hE] at hput
        obtain ⟨Y, hY⟩ : ∃ Y, Y = b * 2 ^ E := ⟨_, rfl⟩
        rw [← hY] at hput
        have hYI : (b : Int) * 2 ^ E = (Y : Int) := by rw [hY]; push_cast; rfl
        have hYl : Y < 2 ^ (8 - r) := by
          rw [hY, show 8 - r = E + 1 by omega, Nat.pow_succ]
          have h3 : 0 < 2 ^ E := Nat.pow_pos (by omega)
          rcases (show b = 0 ∨ b = 1 by omega) with h | h <;> rw [h] <;> omega
        have hor : bits .or .u8 (x : Int) (Y : Int) = ((x + Y : Nat) : Int) := by
          rw [bits_join .u8 8 (by decide) (fun n a b => by rw [IntKind.wrap_u8]; omega) (8 - r) (x : Int) (Y : Int) (by omega) (by
            have : ((x % 2 ^ (8 - r) : Nat) : Int) = 0 := by rw [hlow]; rfl
            push_cast at this
            exact this) (by omega) (by omega) (by
            have : ((Y : Nat) : Int) < ((2 ^ (8 - r) : Nat) : Int) := by omega
            push_cast at this
            exact this) (by omega)]
          push_cast
          rfl
        have hYs : Y < 256 := by omega
        have hsh : ∀ w, (Op.shift .shl .u8 (b : Int) .i64 (IntKind.i64.wrap (7 - (r : Int)))).run Tryd.prog w = .ok (.int .u8 (Y : Int)) w := fun w => by
          rw [hwr, shift_shl .u8 .i64 (b : Int) (E : Int) (by omega) (by show (E : Int) ≤ 8; omega), Int.toNat_natCast, hYI, IntKind.wrap_u8, Int.emod_eq_of_lt (by omega) (by omega)]
          rfl
        clear hwr
        have hwb : IntKind.u8.wrap (b : Int) = (b : Int) := by rw [IntKind.wrap_u8]; omega
        have hwY : IntKind.u8.wrap (Y : Int) = (Y : Int) := by rw [IntKind.wrap_u8]; omega
        have HX := Lib.hid hx
        have HV := Lib.hid hV
        have HBB := Lib.hid hb
        have HY := Lib.hid hY
        have HE := Lib.hid hE
        have HQ := Lib.hid hqa
        have HLR := Lib.hid hlr
        have HLOW := Lib.hid hlow
        clear hx hV hb hY hE hqa hlr hlow hYl
        go_still_tail 25, (by kernel_rfl)
        change wpList _ _ _ _ _ w3.drew
        go_wp2
        have hstep := HB.out.step hlt
        rw [← HV.out, ← HBB.out, ← HA.out] at hstep
        have hpute : put out a b = (room out a).set q (x + Y) := by
          unfold put
          rw [← HQ.out, ← HX.out, HY.out, HE.out, HR.out]
        rw [hpute] at hstep
        have hrow4 := (hrow3.set q (x + Y) (v := (x : Int) + Y) (by omega)).other (p := ⟨g, 1, none⟩) (by show g ≠ g2; omega) (.int .i64 ((a : Int) + 1))
        have hst4 := (hst3.other (p := ⟨g2, q, none⟩) hg2g (.int .u8 ((x : Int) + Y))).set 1 (.int .i64 ((a : Int) + 1))
        have hll : ((room out a).set q (x + Y)).length = L := by rw [List.length_set]; exact hL
        have ht4 := ((ht3.setCell (p := ⟨g2, q, none⟩) hSg2 (.int .u8 ((x : Int) + Y))).setCell (p := ⟨g, 1, none⟩) hSg (.int .i64 ((a : Int) + 1))).drew
        unfold Row at hrow4
        rw [hll] at hrow4
        refine ⟨⟨j + 1, _, _, by go_num, by omega, hstep, ?_, by rw [hll]; exact hrow4.drew, fun e => hg2g (by injection e), fun k hk => by cases hk; exact hSg2, ht4⟩, by simp [intOf]; omega⟩
        have e1 : ((a0 + (j + 1) : Nat) : Int) = (a : Int) + 1 := by have := HA.out; omega
        rw [e1]
        exact hst4.drew)
    · obtain rfl : n = j := by omega
      go_wp2
      go_end0
      exact ⟨out, rfl, ⟨_, hst, hown, hvg, hSg, hvS, HB.out.bits⟩, HB.out.old, HB.out.done, ht⟩
end Go.Proofs.YtoicojdnaahimaaDoor.Cod
