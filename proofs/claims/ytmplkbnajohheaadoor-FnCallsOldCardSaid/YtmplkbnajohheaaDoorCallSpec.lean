/- The walk of the reference's calls of x86. -/
import Derived.Test.YtmplkbnajohheaaDoorCallPlain
import Derived.Test.YtmplkbnajohheaaDoorClone
import Derived.BigQuiet
import Derived.Lib.EndianBits
import Derived.Deep.QuietTactic
import Derived.LoopN
import Derived.WalkSmall
namespace Go.Proofs.YtmplkbnajohheaaDoor.Call
open Go.RowKit Go.Proofs.YtmplkbnajohheaaDoor.Aid Go.Proofs.YtmplkbnajohheaaDoor.Base

theorem or_u32 (i : Nat) (y x : Int) (hy0 : 0 ≤ y) (hy : y < 2 ^ i) (hx0 : 0 ≤ x) (hx : x % 2 ^ i = 0) (hy1 : y < 4294967296) (hx1 : x < 4294967296) : bits .or .u32 y x = y + x :=
  bits_join_low .u32 32 (by decide) (fun n a b => by rw [IntKind.wrap_u32]; omega) i y x hy0 hy (by omega) hx0 hx (by omega)

set_option maxRecDepth 100000 in
set_option maxHeartbeats 4000000 in
theorem spec_any (v : Value) (l : List UInt8) (B off : Nat) (jumps : Bool) (w : World) (hr : Rd w B v (Lib.byteCells l)) (hB : B ≤ w.heap.size) (hl : l.length ≤ 4096) (ho : off ≤ 8388608) :
    Calls Tryd.prog 11 #[v, .int .i64 (off : Int), .bool jumps] w fun e w' => ∃ g cap, e = .returned (.slice (some ⟨g, 0, none⟩) l.length cap) ∧ Own w' w.heap.size 5 g cap (run off jumps l.length 0 l) ∧ Below w.heap.size w w' := by
  obtain ⟨i0, hi, hz0, hz1, hz2⟩ := info_parts infoB
  go_enter Tryd.func11, Tryd.ntmps11
  go_wp2_with (at_builtin; refine wpList_append_bytes _ rfl _ _ 22 rfl w.heap.size 5 i0 (.int .u8 0) Tryd.underlying22 hi hz0 hz1 hz2 rfl w.heap.size 0 [] rfl (own_nil w 5) B _ l rfl (hr.alloc hB _) (by simp; omega) (by simp) ?_)
  intro g cap w1 hown hgrow hat
  have hb1 : Below w.heap.size w w1 := ((Below.refl _ _).alloc (Nat.le_refl _) _).grown hgrow (by simp) (by intro k hk; simp at hk; omega)
  clear hgrow hat
  go_wp2
  go_loopw [8] (fun vk wr => ∃ (f k : Nat) (t : List UInt8), vk = .int .i64 (k : Int) ∧ k ≤ l.length ∧ l.length ≤ k + f ∧ Hid (run off jumps f k t = run off jumps l.length 0 l) ∧ Hid (t.length = l.length) ∧ Own wr w.heap.size 5 g cap t ∧ Below w.heap.size w wr)
    (fun vk _ => l.length - (intOf vk).toNat)
  case atStart => exact ⟨l.length, 0, l, rfl, by omega, by omega, rfl, rfl, hown, hb1⟩
  case round =>
    obtain ⟨f, k, t, rfl, hk, hf, HR, HLEN, hownr, hbr⟩ := hrel
    by_cases hlt : k + 5 ≤ l.length
    · obtain ⟨f, rfl⟩ : ∃ f', f = f' + 1 := ⟨f - 1, by omega⟩
      have hkt : k + 5 ≤ t.length := by rw [HLEN.out]; exact hlt
      have c0 := hownr.cell (j := k) (by omega)
      have c1 := hownr.cell (j := k + 1) (by omega)
      have c2 := hownr.cell (j := k + 2) (by omega)
      have c3 := hownr.cell (j := k + 3) (by omega)
      have c4 := hownr.cell (j := k + 4) (by omega)
      have hfr := hownr.frozen
      have HH := fun h => run_hit (off := off) (f := f) (jumps := jumps) hkt h
      have HM := fun h => run_miss (off := off) (f := f) (jumps := jumps) hkt h
      rw [HR.out] at HH HM
      have y0 := (t.getD k 0).toNat_lt
      have y1 := (t.getD (k + 1) 0).toNat_lt
      have y2 := (t.getD (k + 2) 0).toNat_lt
      have y3 := (t.getD (k + 3) 0).toNat_lt
      have y4 := (t.getD (k + 4) 0).toNat_lt
      have HW : Hid (word k t = ((t.getD (k + 1) 0).toNat : Int) + ((t.getD (k + 2) 0).toNat : Int) * 256 + ((t.getD (k + 3) 0).toNat : Int) * 65536 + ((t.getD (k + 4) 0).toNat : Int) * 16777216) := rfl
      have hwb := word_bd k t
      have hsb := sword_bd k t
      have HSW : Hid (sword k t = (word k t + 2147483648) % 4294967296 - 2147483648) := rfl
      generalize sword k t = V at HH HSW hsb
      generalize word k t = U at HW HSW hwb
      generalize t.getD k 0 = x0 at c0 HH HM y0
      generalize t.getD (k + 1) 0 = x1 at c1 HW y1
      generalize t.getD (k + 2) 0 = x2 at c2 HW y2
      generalize t.getD (k + 3) 0 = x3 at c3 HW y3
      generalize t.getD (k + 4) 0 = x4 at c4 HW y4
      clear hkt HR
      have hV : wrap32 U = V := by
        have h := HSW.out
        unfold wrap32
        omega
      have hat : ((k : Int) + 1 + off) % 16777216 = (k : Int) + 1 + off := by omega
      have o1 : bits .or .u32 (x1.toNat : Int) ((x2.toNat : Int) * 256) = (x1.toNat : Int) + (x2.toNat : Int) * 256 := or_u32 8 _ _ (by omega) (by omega) (by omega) (by omega) (by omega) (by omega)
      have o2 : bits .or .u32 ((x1.toNat : Int) + (x2.toNat : Int) * 256) ((x3.toNat : Int) * 65536) = (x1.toNat : Int) + (x2.toNat : Int) * 256 + (x3.toNat : Int) * 65536 := or_u32 16 _ _ (by omega) (by omega) (by omega) (by omega) (by omega) (by omega)
      have o3 : bits .or .u32 ((x1.toNat : Int) + (x2.toNat : Int) * 256 + (x3.toNat : Int) * 65536) ((x4.toNat : Int) * 16777216) = U := (or_u32 24 _ _ (by omega) (by omega) (by omega) (by omega) (by omega) (by omega)).trans HW.out.symm
      by_cases h0 : (x0.toNat : Int) = 232
      · have HH1 := Lib.hid (HH (hit_yes jumps (by omega)))
        clear HH HM
        by_cases d1 : V < 0
        · by_cases d2 : 0 ≤ V + ((k : Int) + 1 + off)
          · as_aux_lemma =>
              have HN : Hid (newv ((k : Int) + 1 + off) V = V + 16777216) := by show newv _ _ = _; rw [newv, if_pos d1, if_pos d2]
              rw [HN.out] at HH1
              have HLP : Hid ((put4 k (V + 16777216) t).length = l.length) := (put4_length _ _ _).trans HLEN.out
              go_wp2_with fail
              go_quiet (fail)
              go_wp2_with fail
              refine wp_loop_rounds 5 ?_
              rw [rounds_succ]
              go_wp2
              rw [rounds_succ]
              go_wp2
              rw [rounds_succ]
              go_wp2
              rw [rounds_succ]
              go_wp2
              rw [rounds_succ]
              go_wp2
              go_roundw
              case rel =>
                refine ⟨f, k + 5, put4 k (V + 16777216) t, by go_num, by omega, by omega, HH1.out.symm, HLP, ?_, ?_⟩
                · exact ((((hownr.drewN nq).set (k + 1) (V + 16777216) _ (by omega)).set (k + 1 + 1) ((V + 16777216) / 256) _ (by omega)).set (k + 1 + 2) ((V + 16777216) / 65536) _ (by omega)).set (k + 1 + 3) ((V + 16777216) / 16777216) _ (by omega)
                · exact ((((below_drewN hbr nq).setCell hownr.base_le _).setCell hownr.base_le _).setCell hownr.base_le _).setCell hownr.base_le _
              case measure => simp [intOf]; omega
          · as_aux_lemma =>
              have HN : Hid (newv ((k : Int) + 1 + off) V = V) := by show newv _ _ = _; rw [newv, if_pos d1, if_neg d2]
              rw [HN.out] at HH1
              have HLP : Hid ((put4 k (V) t).length = l.length) := (put4_length _ _ _).trans HLEN.out
              go_wp2_with fail
              go_quiet (fail)
              go_wp2_with fail
              refine wp_loop_rounds 5 ?_
              rw [rounds_succ]
              go_wp2
              rw [rounds_succ]
              go_wp2
              rw [rounds_succ]
              go_wp2
              rw [rounds_succ]
              go_wp2
              rw [rounds_succ]
              go_wp2
              go_roundw
              case rel =>
                refine ⟨f, k + 5, put4 k (V) t, by go_num, by omega, by omega, HH1.out.symm, HLP, ?_, ?_⟩
                · exact ((((hownr.drewN nq).set (k + 1) (V) _ (by omega)).set (k + 1 + 1) ((V) / 256) _ (by omega)).set (k + 1 + 2) ((V) / 65536) _ (by omega)).set (k + 1 + 3) ((V) / 16777216) _ (by omega)
                · exact ((((below_drewN hbr nq).setCell hownr.base_le _).setCell hownr.base_le _).setCell hownr.base_le _).setCell hownr.base_le _
              case measure => simp [intOf]; omega
        · by_cases d2 : V < 16777216
          · as_aux_lemma =>
              have HN : Hid (newv ((k : Int) + 1 + off) V = V - ((k : Int) + 1 + off)) := by show newv _ _ = _; rw [newv, if_neg d1, if_pos d2]
              rw [HN.out] at HH1
              have HLP : Hid ((put4 k (V - ((k : Int) + 1 + off)) t).length = l.length) := (put4_length _ _ _).trans HLEN.out
              go_wp2_with fail
              go_quiet (fail)
              go_wp2_with fail
              refine wp_loop_rounds 5 ?_
              rw [rounds_succ]
              go_wp2
              rw [rounds_succ]
              go_wp2
              rw [rounds_succ]
              go_wp2
              rw [rounds_succ]
              go_wp2
              rw [rounds_succ]
              go_wp2
              go_roundw
              case rel =>
                refine ⟨f, k + 5, put4 k (V - ((k : Int) + 1 + off)) t, by go_num, by omega, by omega, HH1.out.symm, HLP, ?_, ?_⟩
                · exact ((((hownr.drewN nq).set (k + 1) (V - ((k : Int) + 1 + off)) _ (by omega)).set (k + 1 + 1) ((V - ((k : Int) + 1 + off)) / 256) _ (by omega)).set (k + 1 + 2) ((V - ((k : Int) + 1 + off)) / 65536) _ (by omega)).set (k + 1 + 3) ((V - ((k : Int) + 1 + off)) / 16777216) _ (by omega)
                · exact ((((below_drewN hbr nq).setCell hownr.base_le _).setCell hownr.base_le _).setCell hownr.base_le _).setCell hownr.base_le _
              case measure => simp [intOf]; omega
          · as_aux_lemma =>
              have HN : Hid (newv ((k : Int) + 1 + off) V = V) := by show newv _ _ = _; rw [newv, if_neg d1, if_neg d2]
              rw [HN.out] at HH1
              have HLP : Hid ((put4 k (V) t).length = l.length) := (put4_length _ _ _).trans HLEN.out
              go_wp2_with fail
              go_quiet (fail)
              go_wp2_with fail
              refine wp_loop_rounds 5 ?_
              rw [rounds_succ]
              go_wp2
              rw [rounds_succ]
              go_wp2
              rw [rounds_succ]
              go_wp2
              rw [rounds_succ]
              go_wp2
              rw [rounds_succ]
              go_wp2
              go_roundw
              case rel =>
                refine ⟨f, k + 5, put4 k (V) t, by go_num, by omega, by omega, HH1.out.symm, HLP, ?_, ?_⟩
                · exact ((((hownr.drewN nq).set (k + 1) (V) _ (by omega)).set (k + 1 + 1) ((V) / 256) _ (by omega)).set (k + 1 + 2) ((V) / 65536) _ (by omega)).set (k + 1 + 3) ((V) / 16777216) _ (by omega)
                · exact ((((below_drewN hbr nq).setCell hownr.base_le _).setCell hownr.base_le _).setCell hownr.base_le _).setCell hownr.base_le _
              case measure => simp [intOf]; omega
      · have hn0 : ((x0.toNat : Int) != 232) = true := by simp; omega
        cases jumps
        · have HM1 := Lib.hid (HM (hit_no (by omega) (fun h => by cases h)))
          clear HH HM
          go_wp2
          go_roundw
          case rel => exact ⟨f, k + 1, t, by go_num, by omega, by omega, HM1.out.symm, HLEN, hownr, hbr⟩
          case measure => simp [intOf]; omega
        · by_cases h9 : (x0.toNat : Int) = 233
          · have HH1 := Lib.hid (HH (hit_yes9 (by omega)))
            clear HH HM
            by_cases d1 : V < 0
            · by_cases d2 : 0 ≤ V + ((k : Int) + 1 + off)
              · as_aux_lemma =>
                  have HN : Hid (newv ((k : Int) + 1 + off) V = V + 16777216) := by show newv _ _ = _; rw [newv, if_pos d1, if_pos d2]
                  rw [HN.out] at HH1
                  have HLP : Hid ((put4 k (V + 16777216) t).length = l.length) := (put4_length _ _ _).trans HLEN.out
                  go_wp2_with fail
                  go_quiet (fail)
                  go_wp2_with fail
                  refine wp_loop_rounds 5 ?_
                  rw [rounds_succ]
                  go_wp2
                  rw [rounds_succ]
                  go_wp2
                  rw [rounds_succ]
                  go_wp2
                  rw [rounds_succ]
                  go_wp2
                  rw [rounds_succ]
                  go_wp2
                  go_roundw
                  case rel =>
                    refine ⟨f, k + 5, put4 k (V + 16777216) t, by go_num, by omega, by omega, HH1.out.symm, HLP, ?_, ?_⟩
                    · exact ((((hownr.drewN nq).set (k + 1) (V + 16777216) _ (by omega)).set (k + 1 + 1) ((V + 16777216) / 256) _ (by omega)).set (k + 1 + 2) ((V + 16777216) / 65536) _ (by omega)).set (k + 1 + 3) ((V + 16777216) / 16777216) _ (by omega)
                    · exact ((((below_drewN hbr nq).setCell hownr.base_le _).setCell hownr.base_le _).setCell hownr.base_le _).setCell hownr.base_le _
                  case measure => simp [intOf]; omega
              · as_aux_lemma =>
                  have HN : Hid (newv ((k : Int) + 1 + off) V = V) := by show newv _ _ = _; rw [newv, if_pos d1, if_neg d2]
                  rw [HN.out] at HH1
                  have HLP : Hid ((put4 k (V) t).length = l.length) := (put4_length _ _ _).trans HLEN.out
                  go_wp2_with fail
                  go_quiet (fail)
                  go_wp2_with fail
                  refine wp_loop_rounds 5 ?_
                  rw [rounds_succ]
                  go_wp2
                  rw [rounds_succ]
                  go_wp2
                  rw [rounds_succ]
                  go_wp2
                  rw [rounds_succ]
                  go_wp2
                  rw [rounds_succ]
                  go_wp2
                  go_roundw
                  case rel =>
                    refine ⟨f, k + 5, put4 k (V) t, by go_num, by omega, by omega, HH1.out.symm, HLP, ?_, ?_⟩
                    · exact ((((hownr.drewN nq).set (k + 1) (V) _ (by omega)).set (k + 1 + 1) ((V) / 256) _ (by omega)).set (k + 1 + 2) ((V) / 65536) _ (by omega)).set (k + 1 + 3) ((V) / 16777216) _ (by omega)
                    · exact ((((below_drewN hbr nq).setCell hownr.base_le _).setCell hownr.base_le _).setCell hownr.base_le _).setCell hownr.base_le _
                  case measure => simp [intOf]; omega
            · by_cases d2 : V < 16777216
              · as_aux_lemma =>
                  have HN : Hid (newv ((k : Int) + 1 + off) V = V - ((k : Int) + 1 + off)) := by show newv _ _ = _; rw [newv, if_neg d1, if_pos d2]
                  rw [HN.out] at HH1
                  have HLP : Hid ((put4 k (V - ((k : Int) + 1 + off)) t).length = l.length) := (put4_length _ _ _).trans HLEN.out
                  go_wp2_with fail
                  go_quiet (fail)
                  go_wp2_with fail
                  refine wp_loop_rounds 5 ?_
                  rw [rounds_succ]
                  go_wp2
                  rw [rounds_succ]
                  go_wp2
                  rw [rounds_succ]
                  go_wp2
                  rw [rounds_succ]
                  go_wp2
                  rw [rounds_succ]
                  go_wp2
                  go_roundw
                  case rel =>
                    refine ⟨f, k + 5, put4 k (V - ((k : Int) + 1 + off)) t, by go_num, by omega, by omega, HH1.out.symm, HLP, ?_, ?_⟩
                    · exact ((((hownr.drewN nq).set (k + 1) (V - ((k : Int) + 1 + off)) _ (by omega)).set (k + 1 + 1) ((V - ((k : Int) + 1 + off)) / 256) _ (by omega)).set (k + 1 + 2) ((V - ((k : Int) + 1 + off)) / 65536) _ (by omega)).set (k + 1 + 3) ((V - ((k : Int) + 1 + off)) / 16777216) _ (by omega)
                    · exact ((((below_drewN hbr nq).setCell hownr.base_le _).setCell hownr.base_le _).setCell hownr.base_le _).setCell hownr.base_le _
                  case measure => simp [intOf]; omega
              · as_aux_lemma =>
                  have HN : Hid (newv ((k : Int) + 1 + off) V = V) := by show newv _ _ = _; rw [newv, if_neg d1, if_neg d2]
                  rw [HN.out] at HH1
                  have HLP : Hid ((put4 k (V) t).length = l.length) := (put4_length _ _ _).trans HLEN.out
                  go_wp2_with fail
                  go_quiet (fail)
                  go_wp2_with fail
                  refine wp_loop_rounds 5 ?_
                  rw [rounds_succ]
                  go_wp2
                  rw [rounds_succ]
                  go_wp2
                  rw [rounds_succ]
                  go_wp2
                  rw [rounds_succ]
                  go_wp2
                  rw [rounds_succ]
                  go_wp2
                  go_roundw
                  case rel =>
                    refine ⟨f, k + 5, put4 k (V) t, by go_num, by omega, by omega, HH1.out.symm, HLP, ?_, ?_⟩
                    · exact ((((hownr.drewN nq).set (k + 1) (V) _ (by omega)).set (k + 1 + 1) ((V) / 256) _ (by omega)).set (k + 1 + 2) ((V) / 65536) _ (by omega)).set (k + 1 + 3) ((V) / 16777216) _ (by omega)
                    · exact ((((below_drewN hbr nq).setCell hownr.base_le _).setCell hownr.base_le _).setCell hownr.base_le _).setCell hownr.base_le _
                  case measure => simp [intOf]; omega
          · have hn9 : ((x0.toNat : Int) != 233) = true := by simp; omega
            have HM1 := Lib.hid (HM (hit_no (by omega) (fun _ => by omega)))
            clear HH HM
            go_wp2
            go_roundw
            case rel => exact ⟨f, k + 1, t, by go_num, by omega, by omega, HM1.out.symm, HLEN, hownr, hbr⟩
            case measure => simp [intOf]; omega
    · have HE : Hid (run off jumps f k t = t) := run_end (by rw [HLEN.out]; omega)
      go_wp2
      go_ret
      exact ⟨g, cap, rfl, by rw [← HR.out, HE.out]; exact hownr, hbr⟩
end Go.Proofs.YtmplkbnajohheaaDoor.Call
