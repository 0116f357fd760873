/- The walk of the package's reading of a table of lengths. -/
import Derived.Test.YtoicojdnaahimaaDoorTabPlain
import Derived.Test.YtoicojdnaahimaaDoorInit
import Derived.Test.YtoicojdnaahimaaDoorSym
import Derived.Test.YtoicojdnaahimaaDoorNew
import Derived.Deep.CutRange
import Derived.Deep.CutBlock
import Derived.StillTailTactics
namespace Go.Proofs.YtoicojdnaahimaaDoor.Tab
open Go Go.RowKit Go.Proofs.YtoicojdnaahimaaDoor.Aid Go.Proofs.YtoicojdnaahimaaDoor.Base Go.Proofs.YtoicojdnaahimaaDoor.Len Go.Proofs.YtoicojdnaahimaaDoor.Cod Go.Proofs.YtoicojdnaahimaaDoor.Rdr Go.Proofs.YtoicojdnaahimaaDoor.Dec

theorem list_eq {l m : List Nat} (h : l.length = m.length) (he : ∀ j, j < m.length → l.getD j 0 = m.getD j 0) : l = m := by
  apply List.ext_getElem h
  intro i h1 h2
  have := he i h2
  rw [List.getD_eq_getElem?_getD, List.getD_eq_getElem?_getD, List.getElem?_eq_getElem h1, List.getElem?_eq_getElem h2] at this
  simpa using this
theorem row_twenty (w : World) (A : Nat) (hA : w.heap.size = A) : Row .u8 (w.alloc (.cells #[.int .u8 0, .int .u8 0, .int .u8 0, .int .u8 0, .int .u8 0, .int .u8 0, .int .u8 0, .int .u8 0, .int .u8 0, .int .u8 0, .int .u8 0, .int .u8 0, .int .u8 0, .int .u8 0, .int .u8 0, .int .u8 0, .int .u8 0, .int .u8 0, .int .u8 0, .int .u8 0] 76)) A 76 A 20 (List.replicate 20 0) := by
  subst hA
  exact World.ownsRow_lit (e := 76) w #[.int .u8 0, .int .u8 0, .int .u8 0, .int .u8 0, .int .u8 0, .int .u8 0, .int .u8 0, .int .u8 0, .int .u8 0, .int .u8 0, .int .u8 0, .int .u8 0, .int .u8 0, .int .u8 0, .int .u8 0, .int .u8 0, .int .u8 0, .int .u8 0, .int .u8 0, .int .u8 0] (size := 1) 20 (Nat.le_refl _) (by decide) (by simp)
theorem rep_zero (n j : Nat) : (List.replicate n 0).getD j 0 = 0 := by
  rw [List.getD_eq_getElem?_getD, List.getElem?_replicate]
  split <;> rfl
/-- The first k are these. -/
def Same (l ls : List Nat) (k : Nat) : Prop := l.length = ls.length ∧ ∀ j, j < k → l.getD j 0 = ls.getD j 0
theorem Same.set {l ls : List Nat} {k x : Nat} (h : Same l ls k) (hk : k < ls.length) (hx : ls.getD k 0 = x) : Same (l.set k x) ls (k + 1) :=
  ⟨by rw [List.length_set]; exact h.1, fun j hj => by
    by_cases e : j = k
    · subst e; rw [Len.getD_set_same _ _ _ _ (by rw [h.1]; exact hk), hx]
    · rw [Len.getD_set_other _ _ _ _ _ (fun e2 => e e2.symm)]; exact h.2 j (by omega)⟩
theorem Same.all {l ls : List Nat} (h : Same l ls ls.length) : l = ls := list_eq h.1 h.2

set_option maxRecDepth 100000 in
set_option maxHeartbeats 1000000 in
theorem rclt_any (base tb g1 g2 gt B q e : Nat) (sl : Value) (ls sh d : List Nat) (w : World) (hR : Rdr w base g1 g2 sl d 0 22) (hr : Rd w B sl (nums .u8 d)) (hB1 : B ≤ g1) (hB2 : B ≤ g2) (hrow : Row .u8 w tb 5 gt ls.length (List.replicate ls.length 0)) (hB3 : B ≤ gt) (hn1 : gt ≠ g1) (hn2 : gt ≠ g2)
    (hg1 : g1 < w.heap.size) (hg2 : g2 < w.heap.size) (hT : Table ls sh d q e) (he : e + 15 ≤ 8 * d.length) (hd : d.length ≤ 4000000) (hby : ∀ j, d.getD j 0 < 256) (hl0 : 20 ≤ ls.length) (hl : ls.length ≤ 430) (h14 : ∀ i, ls.getD i 0 ≤ 14) :
    Calls Tryd.prog 21 #[.iface 59 (.pointer (some ⟨g1, 0, none⟩)), .slice (some ⟨gt, 0, none⟩) ls.length ls.length, .bool false] w fun r w' => r = .returned .nilIface ∧ Row .u8 w' tb 5 gt ls.length ls ∧ Turn (fun k => k = g1 ∨ k = g2 ∨ k = gt) w w' := by
  obtain ⟨A, hA⟩ : ∃ A, w.heap.size = A := ⟨_, rfl⟩
  have hgt := hrow.lt
  have hm1 := meth_bits g1
  have ha0 := row_twenty w A hA
  have hR0 := hR.turn ((Turn.refl (fun _ => False) w).alloc (.cells #[.int .u8 0, .int .u8 0, .int .u8 0, .int .u8 0, .int .u8 0, .int .u8 0, .int .u8 0, .int .u8 0, .int .u8 0, .int .u8 0, .int .u8 0, .int .u8 0, .int .u8 0, .int .u8 0, .int .u8 0, .int .u8 0, .int .u8 0, .int .u8 0, .int .u8 0, .int .u8 0] 76)) (fun h => h) (fun h => h)
  have hr0 := hr.alloc (by omega) (.cells #[.int .u8 0, .int .u8 0, .int .u8 0, .int .u8 0, .int .u8 0, .int .u8 0, .int .u8 0, .int .u8 0, .int .u8 0, .int .u8 0, .int .u8 0, .int .u8 0, .int .u8 0, .int .u8 0, .int .u8 0, .int .u8 0, .int .u8 0, .int .u8 0, .int .u8 0, .int .u8 0] 76)
  have hrow0 := hrow.alloc (.cells #[.int .u8 0, .int .u8 0, .int .u8 0, .int .u8 0, .int .u8 0, .int .u8 0, .int .u8 0, .int .u8 0, .int .u8 0, .int .u8 0, .int .u8 0, .int .u8 0, .int .u8 0, .int .u8 0, .int .u8 0, .int .u8 0, .int .u8 0, .int .u8 0, .int .u8 0, .int .u8 0] 76)
  have ht0 : Turn (fun x => x = g1 ∨ x = g2 ∨ x = gt ∨ A ≤ x) w (w.alloc (.cells #[.int .u8 0, .int .u8 0, .int .u8 0, .int .u8 0, .int .u8 0, .int .u8 0, .int .u8 0, .int .u8 0, .int .u8 0, .int .u8 0, .int .u8 0, .int .u8 0, .int .u8 0, .int .u8 0, .int .u8 0, .int .u8 0, .int .u8 0, .int .u8 0, .int .u8 0, .int .u8 0] 76)) := (Turn.refl _ _).alloc _
  have hs0 : A + 1 ≤ (w.alloc (.cells #[.int .u8 0, .int .u8 0, .int .u8 0, .int .u8 0, .int .u8 0, .int .u8 0, .int .u8 0, .int .u8 0, .int .u8 0, .int .u8 0, .int .u8 0, .int .u8 0, .int .u8 0, .int .u8 0, .int .u8 0, .int .u8 0, .int .u8 0, .int .u8 0, .int .u8 0, .int .u8 0] 76)).heap.size := by rw [← hA]; simp
  have HT := Lib.hid hT
  have HBY := Lib.hid hby
  have H14 := Lib.hid h14
  have HP0 := Lib.hid hT.front
  have HS0 : Hid (Same (List.replicate 20 0) sh 0 ∧ ∀ j, 0 ≤ j → (List.replicate 20 0).getD j 0 = 0) := ⟨⟨by rw [hT.len]; simp, fun j h => by omega⟩, fun j _ => rep_zero 20 j⟩
  have hqe := hT.body.le BS.up
  rw [hA] at hg1 hg2 hgt
  clear hT hby h14 hR hr hrow
  go_enter Tryd.func21, Tryd.ntmps21
  go_upto_block 0 with (fail)
  have HA := Lib.hid hA
  clear hA
  generalize (w.alloc (.cells #[.int .u8 0, .int .u8 0, .int .u8 0, .int .u8 0, .int .u8 0, .int .u8 0, .int .u8 0, .int .u8 0, .int .u8 0, .int .u8 0, .int .u8 0, .int .u8 0, .int .u8 0, .int .u8 0, .int .u8 0, .int .u8 0, .int .u8 0, .int .u8 0, .int .u8 0, .int .u8 0] 76)) = w1 at ha0 hR0 hr0 hrow0 ht0 hs0 ⊢
  go_cut [] from 19 (fun wc => ∃ l, Hid (l = sh) ∧ Rdr wc base g1 g2 sl d q 22 ∧ Rd wc B sl (nums .u8 d) ∧ Row .u8 wc A 76 A 20 l ∧ Row .u8 wc tb 5 gt ls.length (List.replicate ls.length 0) ∧ A + 1 ≤ wc.heap.size ∧ Turn (fun x => x = g1 ∨ x = g2 ∨ x = gt ∨ A ≤ x) w wc)
  case first =>
    go_wp2
    go_loopw [8, 9, 10, 11, 12] (fun v8 _ _ _ _ wr => ∃ (k p : Nat) (l : List Nat), v8 = .int .i64 (k : Int) ∧ k ≤ 20 ∧ Hid (Path (HS sh d) k p 20 q) ∧ Hid (Same l sh k ∧ ∀ j, k ≤ j → l.getD j 0 = 0) ∧ Rdr wr base g1 g2 sl d p 22 ∧ Row .u8 wr A 76 A 20 l ∧ Turn (fun x => x = g1 ∨ x = g2 ∨ x = A) w1 wr)
      (fun v8 _ _ _ _ _ => 20 - (intOf v8).toNat)
    case atStart => exact ⟨0, 0, _, rfl, by omega, HP0, HS0, hR0, ha0, Turn.refl _ _⟩
    case round =>
      obtain ⟨k, p, l, rfl, hk, HP, HSM, hR, hra, ht⟩ := hrel
      rename World => wo
      have hrr := rd_turn hr0 ht (by omega) (fun k hk h => by rcases h with h | h | h <;> omega)
      by_cases hlt : k < 20
      · obtain ⟨k1, p1, hst, hpa⟩ := HP.out.front hlt
        have hp1 := hpa.le HS.up
        have HPA := Lib.hid hpa
        rcases hst with ⟨_, rfl, rfl, h1, h2⟩ | ⟨n, h1, h2, rfl, h3, rfl, h4, h5, h6⟩
        · have hb := bits_any base g1 g2 B 4 p 22 sl d wo hR hrr hB1 hB2 (by omega) (by omega) (by omega) hd HBY.out
          obtain ⟨x, hx⟩ : ∃ x, x = sh.getD k 0 := ⟨_, rfl⟩
          rw [h1, ← hx, show ((4 : Nat) : Int) = 4 from rfl] at hb
          have hx5 : x ≤ 5 := by rw [hx]; exact h2
          have hx15 : ((x : Int) == 15) = false := decide_eq_false (by omega)
          have hx8 : IntKind.u8.wrap (x : Int) = (x : Int) := by rw [IntKind.wrap_u8]; omega
          have HX := Lib.hid hx
          have hki : (k : Int) < 20 := by omega
          clear hx h1 h2 hpa
          go_wp2_with (go_at_call 43; (with_reducible refine hb.mono ?_); rintro e w5 ⟨rfl, hR5, ht5⟩; have hra5 := hra.turn ht5 (by omega); have ck := hra5.cell (j := k) (by rw [HSM.out.1.1, HT.out.len]; exact hlt); have fk := hra5.frozen k)
          have hsm : Same (l.set k x) sh (k + 1) ∧ ∀ j, k + 1 ≤ j → (l.set k x).getD j 0 = 0 := ⟨HSM.out.1.set (by rw [HT.out.len]; exact hlt) HX.out.symm, fun j hj => by rw [Len.getD_set_other _ _ _ _ _ (by omega)]; exact HSM.out.2 j (by omega)⟩
          refine ⟨⟨k + 1, p + 4, l.set k x, by go_num, by omega, HPA, hsm, ?_, hra5.set k x rfl, (ht.trans (ht5.mono (fun k _ h => by rcases h with h | h; exact .inl h; exact .inr (.inl h)))).setCell (.inr (.inr rfl)) _⟩, by simp [intOf]; omega⟩
          exact (hR5.more (by omega)).turn ((Turn.refl (fun x => x = A) w5).setCell rfl _) (by omega) (by omega)
        · have hb := bits_any base g1 g2 B 4 p 22 sl d wo hR hrr hB1 hB2 (by omega) (by omega) (by omega) hd HBY.out
          rw [h4, show ((4 : Nat) : Int) = 4 from rfl, show ((15 : Nat) : Int) = 15 from rfl] at hb
          have H6 := Lib.hid h6
          clear h6 hpa h4
          go_wp2_with (go_at_call 43; (with_reducible refine hb.mono ?_); rintro e w5 ⟨rfl, hR5, ht5⟩)
          have ht6 : Turn (fun x => x = g1 ∨ x = g2 ∨ x = A) w1 w5 := ht.trans (ht5.mono (fun k _ h => by rcases h with h | h; exact .inl h; exact .inr (.inl h)))
          have hrr5 := rd_turn hr0 ht6 (by omega) (fun k hk h => by rcases h with h | h | h <;> omega)
          have hb2 := bits_any base g1 g2 B 4 (p + 4) 22 sl d w5 (hR5.more (by omega)) hrr5 hB1 hB2 (by omega) (by omega) (by omega) hd HBY.out
          rw [h5, show ((n - 2 : Nat) : Int) = (n : Int) - 2 by omega, show ((4 : Nat) : Int) = 4 from rfl] at hb2
          have hn0 : (0 : Int) < (n : Int) - 2 := by omega
          clear hb h5
          go_wp2_with (go_at_call 43; (with_reducible refine hb2.mono ?_); rintro e w6 ⟨rfl, hR6, ht7⟩)
          have hsm : Same l sh (k + n) ∧ ∀ j, k + n ≤ j → l.getD j 0 = 0 := ⟨⟨HSM.out.1.1, fun j hj => by
            by_cases e : j < k
            · exact HSM.out.1.2 j e
            · rw [HSM.out.2 j (by omega), H6.out j (by omega) hj]⟩, fun j hj => HSM.out.2 j (by omega)⟩
          have eK : (k : Int) + ((n : Int) - 2 + 1) + 1 = ((k + n : Nat) : Int) := by omega
          rw [eK]
          exact ⟨⟨k + n, p + 8, l, rfl, by omega, HPA, hsm, hR6.more (by omega), (hra.turn ht5 (by omega)).turn ht7 (by omega), ht6.trans (ht7.mono (fun k _ h => by rcases h with h | h; exact .inl h; exact .inr (.inl h)))⟩, by simp [intOf]; omega⟩
      · obtain rfl : k = 20 := by omega
        have hpq := HP.out.last rfl HS.up
        subst hpq
        have hls : l = sh := by
          have h := HSM.out.1
          rw [← HT.out.len] at h
          exact h.all
        go_wp2
        go_meet
        case rel => exact ⟨l, hls, hR, hrr, hra, hrow0.turn ht (by omega), by have := ht.size; omega, ht0.trans (ht.mono (fun k _ h => by omega))⟩
  case rest =>
    obtain ⟨l, HLE, hR, hrr, hra, hrow, hsz, ht⟩ := hcut
    rename World => wx
    obtain rfl := HLE.out
    clear HLE hR0 hr0 hrow0 ht0 hs0 ha0 HP0 HS0
    have hnew := new_zero
    have hnn := new_ne
    obtain ⟨Z, hZ⟩ : ∃ Z, wx.heap.size = Z := ⟨_, rfl⟩
    have hD := dec_new wx Z hZ.symm
    have hAr := (hra.alloc (.cells newCells.toArray 67)).rd
    have hlen := HT.out.len
    rw [hlen] at hAr
    have hsz2 : (wx.alloc (.cells newCells.toArray 67)).heap.size = Z + 1 := by rw [← hZ]; simp
    have hAr2 : Rd (wx.alloc (.cells newCells.toArray 67)) (A + 1) (.slice (some ⟨A, 0, none⟩) 20 20) (nums .u8 l) := by
      have h := (hra.alloc (.cells newCells.toArray 67)).rdAt
      rw [hlen] at h
      exact h
    have hRZ := hR.turn ((Turn.refl (fun _ => False) wx).alloc (.cells newCells.toArray 67)) (fun h => h) (fun h => h)
    have hrowZ := hrow.alloc (.cells newCells.toArray 67)
    have hrrZ := hrr.alloc (by omega) (.cells newCells.toArray 67)
    have htZ := ht.alloc (.cells newCells.toArray 67)
    have HLN := Lib.hid hlen
    have HFU := HT.out.full
    clear hAr hlen hra hrow hR hrr ht
    go_upto_block 2 with (go_at_call 22; refine (init_any Z Z (A + 1) _ l _ _ _ _ 0 0 _ hD hAr2 (by omega) (by rw [HLN.out]; exact Nat.le_refl _) (by rw [HLN.out]; omega) HFU).mono ?_; rintro e w6 ⟨rfl, hY, ht6⟩)
    have hlt6 : ∀ x, x = g1 ∨ x = g2 ∨ x = gt → x < Z := fun x h => by rcases h with h | h | h <;> omega
    have hR6 := hRZ.turn ht6 (by omega) (by omega)
    have hrow6 := hrowZ.turn ht6 (by omega)
    have hrr6 := rd_turn hrrZ ht6 (by omega) (fun k hk h => by omega)
    have htZ6 : Turn (fun x => x = g1 ∨ x = g2 ∨ x = gt ∨ A ≤ x) w w6 := htZ.trans (ht6.mono (fun k _ h => by omega))
    have HB0 := Lib.hid HT.out.body
    have HS6 : Hid (Same (List.replicate ls.length 0) ls 0) := ⟨by simp, fun j h => by omega⟩
    have HY := Lib.hid hY
    have HF := Lib.hid HFU
    have hs6 : Z + 1 ≤ w6.heap.size := by have := ht6.size; omega
    clear hRZ hrowZ hrrZ htZ ht6 hY HFU hD hAr2 hnew hnn hsz2
    go_wp2
    go_loopw [14, 15, 16, 17, 18] (fun v14 _ _ _ _ wr => ∃ (k p : Nat) (t : List Nat), v14 = .int .i64 (k : Int) ∧ k ≤ ls.length ∧ Hid (Path (BS ls l d) k p ls.length e) ∧ Hid (Same t ls k) ∧ Rdr wr base g1 g2 sl d p 22 ∧ Row .u8 wr tb 5 gt ls.length t ∧ Turn (fun x => x = g1 ∨ x = g2 ∨ x = gt) w6 wr)
      (fun v14 _ _ _ _ _ => ls.length - (intOf v14).toNat)
    case atStart => exact ⟨0, q, _, rfl, by omega, HB0, HS6, hR6, hrow6, Turn.refl _ _⟩
    case round =>
      obtain ⟨k, p, t, rfl, hk, HP, HSM, hR, hrow, ht⟩ := hrel
      rename World => wy
      by_cases hlt : k < ls.length
      · obtain ⟨k1, p1, ⟨s, m, hsg, hpos, rfl, hc, hm, rfl⟩, hpa⟩ := HP.out.front hlt
        have hp1 := hpa.le BS.up
        have hrr := rd_turn hrr6 ht (by omega) (fun k hk h => by rcases h with h | h | h <;> omega)
        have hs20 := hsg.s20
        have hsg_le := hsg.le
        have hback := hsg.back
        have hval := hsg.val
        have hmore := hsg.more
        have hYw := HY.out.turn ht (fun k h1 _ h => by have := hlt6 k h; omega)
        have hS := sym_any base Z Z w6.heap.size g1 g2 B s p sl l d wy hYw hR hrr hB1 hB2 (by omega) (by omega) (by rw [HLN.out]; omega) HF.out (by rw [HLN.out]; exact hs20) hpos hc (by omega) hd HBY.out
        clear hYw hc hsg
        by_cases h16 : s < 16
        · have hcn : cnt s m = 1 := by unfold cnt; rw [if_pos h16]
          have hb0 : bts s = 0 := by unfold bts; rw [if_pos h16]
          rw [hcn] at hval hpa hp1 hsg_le
          rw [hb0, Nat.add_zero] at hpa hp1
          have hvs : ls.getD k 0 = s := by rw [hval k (by omega) (by omega)]; unfold told; rw [if_pos h16]
          have hs16 : decide ((s : Int) < 16) = true := decide_eq_true (by omega)
          have hs8 : IntKind.u8.wrap (s : Int) = (s : Int) := by rw [IntKind.wrap_u8]; omega
          have HPA := Lib.hid hpa
          have HVS := Lib.hid hvs
          clear hcn hb0 hpa hval hmore hvs hm hback
          go_wp2_with (go_at_call 23; (with_reducible refine hS.mono ?_); rintro e5 w7 ⟨rfl, hR7, ht7⟩; have hrow7 := hrow.turn ht7 (by omega); have ck := hrow7.cell (j := k) (by rw [HSM.out.1]; exact hlt); have fk := hrow7.frozen k)
          have ht8 : Turn (fun x => x = g1 ∨ x = g2 ∨ x = gt) w6 w7 := ht.trans (ht7.mono (fun k _ h => by rcases h with h | h; exact .inl h; exact .inr (.inl h)))
          have hR8 := hR7.turn ((Turn.refl (fun x => x = gt) w7).setCell (p := ⟨gt, k, none⟩) rfl (.int .u8 (s : Int))) (by omega) (by omega)
          have hsm : Same (t.set k s) ls (k + 1) := HSM.out.set hlt HVS.out
          have hrow8 := hrow7.set k s rfl
          have ht9 := ht8.setCell (p := ⟨gt, k, none⟩) (.inr (.inr rfl)) (.int .u8 (s : Int))
          go_roundw
          case rel => first | exact ⟨k + 1, p + l.getD s 0, t.set k s, by go_num, by omega, HPA, hsm, hR8, hrow8, ht9⟩ | ((repeat apply Exists.intro); refine ⟨?_, rfl⟩; exact ⟨k + 1, p + l.getD s 0, t.set k s, by go_num, by omega, HPA, hsm, hR8, hrow8, ht9⟩)
          case measure => simp [intOf]; omega
        · rcases (by omega : s = 16 ∨ s = 17 ∨ s = 18 ∨ s = 19) with rfl | rfl | rfl | rfl
          · as_aux_lemma =>
              have hcn : cnt 16 m = m + 3 := rfl
              have hb2 : bts 16 = 3 := rfl
              rw [hcn] at hsg_le hval hpa hp1
              rw [hb2] at hm hpa hp1
              have hml : m < 8 := by have h := hmore; rw [hb2] at h; exact h
              have HPA := Lib.hid hpa
              have HVAL := Lib.hid hval
              clear hcn hb2 hpa hval hmore
              go_wp2_with (go_at_call 23; (with_reducible refine hS.mono ?_); rintro e5 w7 ⟨rfl, hR7, ht7⟩)
              have hrr7 := rd_turn hrr ht7 (by have := ht.size; omega) (fun k hk h => by rcases h with h | h <;> omega)
              have hB := bits_any base g1 g2 B 3 (p + l.getD 16 0) 22 sl d w7 hR7 hrr7 hB1 hB2 (by omega) (by omega) (by omega) hd HBY.out
              rw [hm, show ((3 : Nat) : Int) = 3 from rfl] at hB
              clear hS hm
              have hk0 : 0 < k := hback (by decide)
              have hkz : ((k : Int) == 0) = false := decide_eq_false (by omega)
              have hkw : (k : Int) - 1 < ls.length := by omega
              have hkm0 : (1 : Int) ≤ (k : Int) := by omega
              have hkmt : ((k : Int) - 1).toNat = k - 1 := by omega
              obtain ⟨x, hx⟩ : ∃ x, x = ls.getD (k - 1) 0 := ⟨_, rfl⟩
              have htx : t.getD (k - 1) 0 = x := by rw [hx]; exact HSM.out.2 (k - 1) (by omega)
              have hvx : ∀ j, k ≤ j → j < k + (m + 3) → ls.getD j 0 = x := fun j h1 h2 => by rw [HVAL.out j h1 h2, hx]; rfl
              have hx14 : x ≤ 14 := by rw [hx]; exact H14.out (k - 1)
              have HVX := Lib.hid hvx
              have HTX := Lib.hid htx
              clear hx htx hvx
              go_wp2_with (go_at_call 43; (with_reducible refine hB.mono ?_); rintro e5 w8 ⟨rfl, hR8, ht8⟩; have hrow8 := (hrow.turn ht7 (by omega)).turn ht8 (by omega); have ckm := hrow8.cell (j := k - 1) (by rw [HSM.out.1]; omega); rw [HTX.out] at ckm)
              have ht9 : Turn (fun x => x = g1 ∨ x = g2 ∨ x = gt) w6 w8 := (ht.trans (ht7.mono (fun k _ h => by rcases h with h | h; exact .inl h; exact .inr (.inl h)))).trans (ht8.mono (fun k _ h => by rcases h with h | h; exact .inl h; exact .inr (.inl h)))
              have HR8 : Rdr w8 base g1 g2 sl d (p + l.getD 16 0 + 3) 22 := hR8.more (by omega)
              clear hB hR7 hR8 ht7 ht8 hR hrow hrr hrr7 ckm
              go_loopw [14, 17] (fun v14 v17 wr => ∃ (j r : Nat) (t : List Nat), v14 = .int .i64 (j : Int) ∧ v17 = .int .i64 (r : Int) ∧ k ≤ j ∧ j + r = k + (m + 3) ∧ Hid (Same t ls j) ∧ Row .u8 wr tb 5 gt ls.length t ∧ Rdr wr base g1 g2 sl d (p + l.getD 16 0 + 3) 22 ∧ Turn (fun x => x = g1 ∨ x = g2 ∨ x = gt) w6 wr)
                (fun _ v17 _ => (intOf v17).toNat)
              case atStart => exact ⟨k, m + 3, t, rfl, by go_num, by omega, by omega, HSM, hrow8, HR8, ht9⟩
              case round =>
                obtain ⟨j, r, t, rfl, rfl, hkj, hjr, HST, hrw, hRw, htw⟩ := hrel
                rename World => wv
                by_cases hr0 : 0 < r
                · have hri : decide ((0 : Int) < (r : Int)) = true := decide_eq_true (by omega)
                  have hji : (j : Int) < ls.length := by omega
                  have ck := hrw.cell (j := j) (by rw [HST.out.1]; omega)
                  have fk := hrw.frozen j
                  have hr1 : (1 : Int) ≤ (r : Int) := by omega
                  go_wp2
                  refine ⟨⟨j + 1, r - 1, t.set j x, by go_num, ?_, by omega, by omega, ?_, hrw.set j x rfl, ?_, htw.setCell (.inr (.inr rfl)) _⟩, by simp [intOf]; omega⟩
                  · rw [show ((r - 1 : Nat) : Int) = (r : Int) - 1 by omega]
                  · exact HST.out.set (by omega) (HVX.out j hkj (by omega))
                  · exact hRw.turn ((Turn.refl (fun x => x = gt) wv).setCell rfl _) (by omega) (by omega)
                · obtain rfl : r = 0 := by omega
                  obtain rfl : j = k + (m + 3) := by omega
                  go_wp2
                  go_roundw
                  case rel => first | exact ⟨k + (m + 3), p + l.getD 16 0 + 3, t, by go_num, by omega, HPA, HST, hRw, hrw, htw⟩ | ((repeat apply Exists.intro); refine ⟨?_, rfl⟩; exact ⟨k + (m + 3), p + l.getD 16 0 + 3, t, by go_num, by omega, HPA, HST, hRw, hrw, htw⟩)
                  case measure => simp [intOf]; omega
          · as_aux_lemma =>
              have hcn : cnt 17 m = m + 11 := rfl
              have hb2 : bts 17 = 7 := rfl
              rw [hcn] at hsg_le hval hpa hp1
              rw [hb2] at hm hpa hp1
              have hml : m < 128 := by have h := hmore; rw [hb2] at h; exact h
              have HPA := Lib.hid hpa
              have HVAL := Lib.hid hval
              clear hcn hb2 hpa hval hmore
              go_wp2_with (go_at_call 23; (with_reducible refine hS.mono ?_); rintro e5 w7 ⟨rfl, hR7, ht7⟩)
              have hrr7 := rd_turn hrr ht7 (by have := ht.size; omega) (fun k hk h => by rcases h with h | h <;> omega)
              have hB := bits_any base g1 g2 B 7 (p + l.getD 17 0) 22 sl d w7 hR7 hrr7 hB1 hB2 (by omega) (by omega) (by omega) hd HBY.out
              rw [hm, show ((7 : Nat) : Int) = 7 from rfl] at hB
              clear hS hm
              have hk0 : 0 < k := hback (by decide)
              have hkz : ((k : Int) == 0) = false := decide_eq_false (by omega)
              have hkw : (k : Int) - 1 < ls.length := by omega
              have hkm0 : (1 : Int) ≤ (k : Int) := by omega
              have hkmt : ((k : Int) - 1).toNat = k - 1 := by omega
              obtain ⟨x, hx⟩ : ∃ x, x = ls.getD (k - 1) 0 := ⟨_, rfl⟩
              have htx : t.getD (k - 1) 0 = x := by rw [hx]; exact HSM.out.2 (k - 1) (by omega)
              have hvx : ∀ j, k ≤ j → j < k + (m + 11) → ls.getD j 0 = x := fun j h1 h2 => by rw [HVAL.out j h1 h2, hx]; rfl
              have hx14 : x ≤ 14 := by rw [hx]; exact H14.out (k - 1)
              have HVX := Lib.hid hvx
              have HTX := Lib.hid htx
              clear hx htx hvx
              go_wp2_with (go_at_call 43; (with_reducible refine hB.mono ?_); rintro e5 w8 ⟨rfl, hR8, ht8⟩; have hrow8 := (hrow.turn ht7 (by omega)).turn ht8 (by omega); have ckm := hrow8.cell (j := k - 1) (by rw [HSM.out.1]; omega); rw [HTX.out] at ckm)
              have ht9 : Turn (fun x => x = g1 ∨ x = g2 ∨ x = gt) w6 w8 := (ht.trans (ht7.mono (fun k _ h => by rcases h with h | h; exact .inl h; exact .inr (.inl h)))).trans (ht8.mono (fun k _ h => by rcases h with h | h; exact .inl h; exact .inr (.inl h)))
              have HR8 : Rdr w8 base g1 g2 sl d (p + l.getD 17 0 + 7) 22 := hR8.more (by omega)
              clear hB hR7 hR8 ht7 ht8 hR hrow hrr hrr7 ckm
              go_loopw [14, 17] (fun v14 v17 wr => ∃ (j r : Nat) (t : List Nat), v14 = .int .i64 (j : Int) ∧ v17 = .int .i64 (r : Int) ∧ k ≤ j ∧ j + r = k + (m + 11) ∧ Hid (Same t ls j) ∧ Row .u8 wr tb 5 gt ls.length t ∧ Rdr wr base g1 g2 sl d (p + l.getD 17 0 + 7) 22 ∧ Turn (fun x => x = g1 ∨ x = g2 ∨ x = gt) w6 wr)
                (fun _ v17 _ => (intOf v17).toNat)
              case atStart => exact ⟨k, m + 11, t, rfl, by go_num, by omega, by omega, HSM, hrow8, HR8, ht9⟩
              case round =>
                obtain ⟨j, r, t, rfl, rfl, hkj, hjr, HST, hrw, hRw, htw⟩ := hrel
                rename World => wv
                by_cases hr0 : 0 < r
                · have hri : decide ((0 : Int) < (r : Int)) = true := decide_eq_true (by omega)
                  have hji : (j : Int) < ls.length := by omega
                  have ck := hrw.cell (j := j) (by rw [HST.out.1]; omega)
                  have fk := hrw.frozen j
                  have hr1 : (1 : Int) ≤ (r : Int) := by omega
                  go_wp2
                  refine ⟨⟨j + 1, r - 1, t.set j x, by go_num, ?_, by omega, by omega, ?_, hrw.set j x rfl, ?_, htw.setCell (.inr (.inr rfl)) _⟩, by simp [intOf]; omega⟩
                  · rw [show ((r - 1 : Nat) : Int) = (r : Int) - 1 by omega]
                  · exact HST.out.set (by omega) (HVX.out j hkj (by omega))
                  · exact hRw.turn ((Turn.refl (fun x => x = gt) wv).setCell rfl _) (by omega) (by omega)
                · obtain rfl : r = 0 := by omega
                  obtain rfl : j = k + (m + 11) := by omega
                  go_wp2
                  go_roundw
                  case rel => first | exact ⟨k + (m + 11), p + l.getD 17 0 + 7, t, by go_num, by omega, HPA, HST, hRw, hrw, htw⟩ | ((repeat apply Exists.intro); refine ⟨?_, rfl⟩; exact ⟨k + (m + 11), p + l.getD 17 0 + 7, t, by go_num, by omega, HPA, HST, hRw, hrw, htw⟩)
                  case measure => simp [intOf]; omega
          · as_aux_lemma =>
              have hcn : cnt 18 m = m + 3 := rfl
              have hb2 : bts 18 = 3 := rfl
              rw [hcn] at hsg_le hval hpa hp1
              rw [hb2] at hm hpa hp1
              have hml : m < 8 := by have h := hmore; rw [hb2] at h; exact h
              have HPA := Lib.hid hpa
              have HVAL := Lib.hid hval
              clear hcn hb2 hpa hval hmore
              go_wp2_with (go_at_call 23; (with_reducible refine hS.mono ?_); rintro e5 w7 ⟨rfl, hR7, ht7⟩)
              have hrr7 := rd_turn hrr ht7 (by have := ht.size; omega) (fun k hk h => by rcases h with h | h <;> omega)
              have hB := bits_any base g1 g2 B 3 (p + l.getD 18 0) 22 sl d w7 hR7 hrr7 hB1 hB2 (by omega) (by omega) (by omega) hd HBY.out
              rw [hm, show ((3 : Nat) : Int) = 3 from rfl] at hB
              clear hS hm
              have hvx : ∀ j, k ≤ j → j < k + (m + 3) → ls.getD j 0 = 0 := fun j h1 h2 => by rw [HVAL.out j h1 h2]; rfl
              have HVX := Lib.hid hvx
              clear hvx
              go_wp2_with (go_at_call 43; (with_reducible refine hB.mono ?_); rintro e5 w8 ⟨rfl, hR8, ht8⟩; have hrow8 := (hrow.turn ht7 (by omega)).turn ht8 (by omega))
              have ht9 : Turn (fun x => x = g1 ∨ x = g2 ∨ x = gt) w6 w8 := (ht.trans (ht7.mono (fun k _ h => by rcases h with h | h; exact .inl h; exact .inr (.inl h)))).trans (ht8.mono (fun k _ h => by rcases h with h | h; exact .inl h; exact .inr (.inl h)))
              have HR8 : Rdr w8 base g1 g2 sl d (p + l.getD 18 0 + 3) 22 := hR8.more (by omega)
              clear hB hR7 hR8 ht7 ht8 hR hrow hrr hrr7
              go_loopw [14, 17] (fun v14 v17 wr => ∃ (j r : Nat) (t : List Nat), v14 = .int .i64 (j : Int) ∧ v17 = .int .i64 (r : Int) ∧ k ≤ j ∧ j + r = k + (m + 3) ∧ Hid (Same t ls j) ∧ Row .u8 wr tb 5 gt ls.length t ∧ Rdr wr base g1 g2 sl d (p + l.getD 18 0 + 3) 22 ∧ Turn (fun x => x = g1 ∨ x = g2 ∨ x = gt) w6 wr)
                (fun _ v17 _ => (intOf v17).toNat)
              case atStart => exact ⟨k, m + 3, t, rfl, by go_num, by omega, by omega, HSM, hrow8, HR8, ht9⟩
              case round =>
                obtain ⟨j, r, t, rfl, rfl, hkj, hjr, HST, hrw, hRw, htw⟩ := hrel
                rename World => wv
                by_cases hr0 : 0 < r
                · have hri : decide ((0 : Int) < (r : Int)) = true := decide_eq_true (by omega)
                  have hji : (j : Int) < ls.length := by omega
                  have ck := hrw.cell (j := j) (by rw [HST.out.1]; omega)
                  have fk := hrw.frozen j
                  have hr1 : (1 : Int) ≤ (r : Int) := by omega
                  go_wp2
                  refine ⟨⟨j + 1, r - 1, t.set j 0, by go_num, ?_, by omega, by omega, ?_, hrw.set j 0 rfl, ?_, htw.setCell (.inr (.inr rfl)) _⟩, by simp [intOf]; omega⟩
                  · rw [show ((r - 1 : Nat) : Int) = (r : Int) - 1 by omega]
                  · exact HST.out.set (by omega) (HVX.out j hkj (by omega))
                  · exact hRw.turn ((Turn.refl (fun x => x = gt) wv).setCell rfl _) (by omega) (by omega)
                · obtain rfl : r = 0 := by omega
                  obtain rfl : j = k + (m + 3) := by omega
                  go_wp2
                  go_roundw
                  case rel => first | exact ⟨k + (m + 3), p + l.getD 18 0 + 3, t, by go_num, by omega, HPA, HST, hRw, hrw, htw⟩ | ((repeat apply Exists.intro); refine ⟨?_, rfl⟩; exact ⟨k + (m + 3), p + l.getD 18 0 + 3, t, by go_num, by omega, HPA, HST, hRw, hrw, htw⟩)
                  case measure => simp [intOf]; omega
          · as_aux_lemma =>
              have hcn : cnt 19 m = m + 11 := rfl
              have hb2 : bts 19 = 7 := rfl
              rw [hcn] at hsg_le hval hpa hp1
              rw [hb2] at hm hpa hp1
              have hml : m < 128 := by have h := hmore; rw [hb2] at h; exact h
              have HPA := Lib.hid hpa
              have HVAL := Lib.hid hval
              clear hcn hb2 hpa hval hmore
              go_wp2_with (go_at_call 23; (with_reducible refine hS.mono ?_); rintro e5 w7 ⟨rfl, hR7, ht7⟩)
              have hrr7 := rd_turn hrr ht7 (by have := ht.size; omega) (fun k hk h => by rcases h with h | h <;> omega)
              have hB := bits_any base g1 g2 B 7 (p + l.getD 19 0) 22 sl d w7 hR7 hrr7 hB1 hB2 (by omega) (by omega) (by omega) hd HBY.out
              rw [hm, show ((7 : Nat) : Int) = 7 from rfl] at hB
              clear hS hm
              have hvx : ∀ j, k ≤ j → j < k + (m + 11) → ls.getD j 0 = 0 := fun j h1 h2 => by rw [HVAL.out j h1 h2]; rfl
              have HVX := Lib.hid hvx
              clear hvx
              go_wp2_with (go_at_call 43; (with_reducible refine hB.mono ?_); rintro e5 w8 ⟨rfl, hR8, ht8⟩; have hrow8 := (hrow.turn ht7 (by omega)).turn ht8 (by omega))
              have ht9 : Turn (fun x => x = g1 ∨ x = g2 ∨ x = gt) w6 w8 := (ht.trans (ht7.mono (fun k _ h => by rcases h with h | h; exact .inl h; exact .inr (.inl h)))).trans (ht8.mono (fun k _ h => by rcases h with h | h; exact .inl h; exact .inr (.inl h)))
              have HR8 : Rdr w8 base g1 g2 sl d (p + l.getD 19 0 + 7) 22 := hR8.more (by omega)
              clear hB hR7 hR8 ht7 ht8 hR hrow hrr hrr7
              go_loopw [14, 17] (fun v14 v17 wr => ∃ (j r : Nat) (t : List Nat), v14 = .int .i64 (j : Int) ∧ v17 = .int .i64 (r : Int) ∧ k ≤ j ∧ j + r = k + (m + 11) ∧ Hid (Same t ls j) ∧ Row .u8 wr tb 5 gt ls.length t ∧ Rdr wr base g1 g2 sl d (p + l.getD 19 0 + 7) 22 ∧ Turn (fun x => x = g1 ∨ x = g2 ∨ x = gt) w6 wr)
                (fun _ v17 _ => (intOf v17).toNat)
              case atStart => exact ⟨k, m + 11, t, rfl, by go_num, by omega, by omega, HSM, hrow8, HR8, ht9⟩
              case round =>
                obtain ⟨j, r, t, rfl, rfl, hkj, hjr, HST, hrw, hRw, htw⟩ := hrel
                rename World => wv
                by_cases hr0 : 0 < r
                · have hri : decide ((0 : Int) < (r : Int)) = true := decide_eq_true (by omega)
                  have hji : (j : Int) < ls.length := by omega
                  have ck := hrw.cell (j := j) (by rw [HST.out.1]; omega)
                  have fk := hrw.frozen j
                  have hr1 : (1 : Int) ≤ (r : Int) := by omega
                  go_wp2
                  refine ⟨⟨j + 1, r - 1, t.set j 0, by go_num, ?_, by omega, by omega, ?_, hrw.set j 0 rfl, ?_, htw.setCell (.inr (.inr rfl)) _⟩, by simp [intOf]; omega⟩
                  · rw [show ((r - 1 : Nat) : Int) = (r : Int) - 1 by omega]
                  · exact HST.out.set (by omega) (HVX.out j hkj (by omega))
                  · exact hRw.turn ((Turn.refl (fun x => x = gt) wv).setCell rfl _) (by omega) (by omega)
                · obtain rfl : r = 0 := by omega
                  obtain rfl : j = k + (m + 11) := by omega
                  go_wp2
                  go_roundw
                  case rel => first | exact ⟨k + (m + 11), p + l.getD 19 0 + 7, t, by go_num, by omega, HPA, HST, hRw, hrw, htw⟩ | ((repeat apply Exists.intro); refine ⟨?_, rfl⟩; exact ⟨k + (m + 11), p + l.getD 19 0 + 7, t, by go_num, by omega, HPA, HST, hRw, hrw, htw⟩)
                  case measure => simp [intOf]; omega
      · obtain rfl : k = ls.length := by omega
        have htt := HSM.out.all
        subst htt
        have hfin : Turn (fun k => k = g1 ∨ k = g2 ∨ k = gt) w wy := (htZ6.trans (ht.mono (fun k _ h => by omega))).mono (fun k hk h => by have := HA.out; omega)
        have HFI := Lib.hid hfin
        clear hfin
        go_wp2
        go_ret
        exact ⟨rfl, hrow, HFI.out⟩
end Go.Proofs.YtoicojdnaahimaaDoor.Tab
