/- The walks of the reference's table as bytes, and of the package's reading of it. -/
import Derived.Test.YtoicojdnaahimaaDoorTab
import Derived.Test.YtoicojdnaahimaaDoorRclt
import Derived.Test.YtoicojdnaahimaaDoorZz
import Derived.Laws.CopyRow
namespace Go.Proofs.YtoicojdnaahimaaDoor.Tab
open Go Go.RowKit Go.Proofs.YtoicojdnaahimaaDoor.Aid Go.Proofs.YtoicojdnaahimaaDoor.Base Go.Proofs.YtoicojdnaahimaaDoor.Len Go.Proofs.YtoicojdnaahimaaDoor.Cod Go.Proofs.YtoicojdnaahimaaDoor.Rdr Go.Proofs.YtoicojdnaahimaaDoor.Dec

set_option maxRecDepth 100000 in
set_option maxHeartbeats 1000000 in
theorem tableBytes_any (v1 : Value) (ls : List Nat) (runs : Bool) (B : Nat) (w : World) (hr1 : Rd w B v1 (nums .i64 ls)) (hB : B ≤ w.heap.size) (hl0 : 20 ≤ ls.length) (hl : ls.length ≤ 430) (h14 : ∀ i, ls.getD i 0 ≤ 14) :
    Calls Tryd.prog 8 #[v1, .bool runs] w fun r w' => ∃ (out sh : List Nat) (q pe : Nat) (vs : Value), r = .returned vs ∧ w'.ownsRow w.heap.size 5 1 vs out.length (nums .u8 out) ∧ Bits out pe ∧ Table ls sh out q pe ∧ pe ≤ 30000 ∧ Below w.heap.size w w' := by
  obtain ⟨H, hH⟩ : ∃ H, w.heap.size = H := ⟨_, rfl⟩
  have hst := St.made w 44 #[.slice none 0 0, .int .i64 0]
  rw [hH] at hst
  have hs1 : (w.alloc (.cells #[.slice none 0 0, .int .i64 0] 44)).heap.size = H + 1 := by rw [← hH]; simp
  have hr2 := hr1.alloc hB (.cells #[.slice none 0 0, .int .i64 0] 44)
  have hb0 : Below H w (w.alloc (.cells #[.slice none 0 0, .int .i64 0] 44)) := (Below.refl _ _).alloc (by omega) _
  have hBH : B ≤ H := by omega
  obtain ⟨A1, c1, hv, _⟩ := hr1
  subst hv
  have hT := table_any H B _ ls runs _ hst hr2 hBH hs1 hl0 hl h14
  have H14 := Lib.hid h14
  clear h14
  go_enter Tryd.func8, Tryd.ntmps8
  go_wp2_with (go_at_call 13; refine hT.mono ?_; rintro e w2 ⟨out, sh, q, pe, vs, rfl, hst2, hown, hbits, htab, hpe, ht2⟩; have c0 := hst2.cell (j := 0) rfl)
  go_ret
  obtain rfl := hH
  exact ⟨out, sh, q, pe, vs, rfl, hown, hbits, htab, hpe, hb0.trans (ht2.below (by rw [hs1]; omega) (fun k hk => hk))⟩

theorem sizeB : ((Tryd.prog.info? 5).map (·.size)).isSome = true := by kernel_rfl

set_option maxRecDepth 100000 in
set_option maxHeartbeats 1000000 in
theorem zzLens_any (v0 : Value) (ls sh d : List Nat) (B q e : Nat) (w : World) (hr : Rd w B v0 (nums .u8 d)) (hB : B ≤ w.heap.size) (hT : Table ls sh d q e) (he : e + 15 ≤ 8 * d.length) (hd : d.length ≤ 4000000) (hby : ∀ j, d.getD j 0 < 256) (hl0 : 20 ≤ ls.length) (hl : ls.length ≤ 430) (h14 : ∀ i, ls.getD i 0 ≤ 14) :
    Calls Tryd.prog 11 #[v0, .int .i64 (ls.length : Int), .slice none 0 0, .bool false] w fun r w' => r = .returned (.tuple #[.slice (some ⟨w.heap.size, 0, none⟩) ls.length ls.length, .nilIface]) ∧ Row .u8 w' w.heap.size 5 w.heap.size ls.length ls ∧ Below w.heap.size w w' := by
  obtain ⟨i5, hi5, hz50, hz51, hz52⟩ := info_parts infoB
  obtain ⟨H, hH⟩ : ∃ H, w.heap.size = H := ⟨_, rfl⟩
  have hmk := run_zeros (P := Tryd.prog) 28 5 i5 (.int .u8 0) 1 Tryd.underlying28 hi5 hz50 hz51 hz52 (by omega) rfl ls.length (by omega)
  have hcp := fun w => run_copy_nil (P := Tryd.prog) (ty := 3) w 28 28 5 ⟨H, 0, none⟩ ls.length ls.length Tryd.underlying28 sizeB
  have hrow0 := row_zeros .u8 w 5 ls.length (by omega)
  rw [hH] at hrow0
  have hs1 : (w.alloc (.cells (zeros (.int .u8 0) ls.length) 5)).heap.size = H + 1 := by rw [← hH]; simp
  have hb1 : Below H w (w.alloc (.cells (zeros (.int .u8 0) ls.length) 5)) := (Below.refl _ _).alloc (by omega) _
  have hr1 := hr.alloc hB (.cells (zeros (.int .u8 0) ls.length) 5)
  have hBH : B ≤ H := by omega
  obtain ⟨A1, n1, c1, rfl⟩ : ∃ A n c, v0 = .slice A n c := by
    obtain ⟨A, c, h, _⟩ := hr
    exact ⟨A, _, c, h⟩
  obtain rfl : n1 = d.length := by
    obtain ⟨A, c, h, _⟩ := hr
    cases h
    rw [nums_length]
  have HT := Lib.hid hT
  have HBY := Lib.hid hby
  have H14 := Lib.hid h14
  clear hT hby h14 hr
  have hne : ¬ ls = [] := fun e => by rw [e] at hl0; simp at hl0
  go_enter Tryd.func11, Tryd.ntmps11
  go_wp2_with fail
  generalize (w.alloc (.cells (zeros (.int .u8 0) ls.length) 5)) = w1 at hrow0 hs1 hb1 hr1 ⊢
  have hs2 : (w1.alloc (.cells #[.nilIface, .int .i64 0, .int .i64 0, .int .u8 0] 53)).heap.size = H + 2 := by simp [hs1]
  have hst1 : St ((w1.alloc (.cells #[.nilIface, .int .i64 0, .int .i64 0, .int .u8 0] 53)).alloc (.cells #[.slice A1 d.length c1, .int .i64 0, .int .i64 (-1)] 73)) (H + 1) 53 (H + 1) [.nilIface, .int .i64 0, .int .i64 0, .int .u8 0] := by
    have h := (St.made w1 53 #[.nilIface, .int .i64 0, .int .i64 0, .int .u8 0]).alloc (.cells #[.slice A1 d.length c1, .int .i64 0, .int .i64 (-1)] 73)
    rw [hs1] at h
    exact h
  have hst2 : St ((w1.alloc (.cells #[.nilIface, .int .i64 0, .int .i64 0, .int .u8 0] 53)).alloc (.cells #[.slice A1 d.length c1, .int .i64 0, .int .i64 (-1)] 73)) (H + 2) 73 (H + 2) [.slice A1 d.length c1, .int .i64 0, .int .i64 (-1)] := by
    have h := St.made (w1.alloc (.cells #[.nilIface, .int .i64 0, .int .i64 0, .int .u8 0] 53)) 73 #[.slice A1 d.length c1, .int .i64 0, .int .i64 (-1)]
    rw [hs2] at h
    exact h
  have htw : Turn (fun k => H + 1 ≤ k) w1 ((w1.alloc (.cells #[.nilIface, .int .i64 0, .int .i64 0, .int .u8 0] 53)).alloc (.cells #[.slice A1 d.length c1, .int .i64 0, .int .i64 (-1)] 73)) := ((Turn.refl _ _).alloc _).alloc _
  have hs3 : ((w1.alloc (.cells #[.nilIface, .int .i64 0, .int .i64 0, .int .u8 0] 53)).alloc (.cells #[.slice A1 d.length c1, .int .i64 0, .int .i64 (-1)] 73)).heap.size = H + 3 := by simp [hs1]
  clear hs2 hmk hcp
  go_wp2_with (go_at_call 19; refine (newReader_any A1 d.length c1 _).mono ?_; rintro e' w2 ⟨rfl, rfl⟩)
  generalize ((w1.alloc (.cells #[.nilIface, .int .i64 0, .int .i64 0, .int .u8 0] 53)).alloc (.cells #[.slice A1 d.length c1, .int .i64 0, .int .i64 (-1)] 73)) = w2 at hst1 hst2 htw hs3 ⊢
  go_wp2_with (go_at_call 18; refine (reset_any (H + 1) (H + 1) 53 _ _ _ _ (H + 2) w2 hst1).mono ?_; rintro e' w3 ⟨rfl, hst3, ht3⟩)
  go_wp2_with (go_at_call 20; refine (setLimit_any (H + 1) (H + 1) 53 _ _ _ _ ((d.length : Int) * 8) w3 hst3).mono ?_; rintro e' w4 ⟨rfl, hst4, ht4⟩)
  have htx : Turn (fun k => H + 1 ≤ k) w1 w4 := (htw.trans (ht3.mono (fun k _ h => by omega))).trans (ht4.mono (fun k _ h => by omega))
  have hst5 : St w4 (H + 2) 73 (H + 2) [.slice A1 d.length c1, .int .i64 0, .int .i64 (-1)] := (hst2.turn ht3 (by omega)).turn ht4 (by omega)
  have hR0 : Rdr w4 (H + 1) (H + 1) (H + 2) (.slice A1 d.length c1) d 0 22 := Rdr.new hst4 (hst5.low (by omega)) 22
  have hr4 := rd_turn hr1 htx (by omega) (fun k hk => by omega)
  have hrow4 := hrow0.turn htx (by omega)
  have hs4 : H + 3 ≤ w4.heap.size := by have := ht3.size; have := ht4.size; omega
  have hL := rclt_any (H + 1) H (H + 1) (H + 2) H B q e (.slice A1 d.length c1) ls sh d w4 hR0 hr4 (by omega) (by omega) hrow4 hBH (by omega) (by omega) (by omega) (by omega) HT.out he hd HBY.out hl0 hl H14.out
  have HH := Lib.hid hH
  clear hst1 hst2 hst3 hst4 hst5 ht3 ht4 htw hs3 hR0 hr4 hrow4 hr1 hrow0 hs1 hH hs4
  go_wp2_with (go_at_call 21; refine hL.mono ?_; rintro e' w5 ⟨rfl, hrow5, ht5⟩)
  go_ret2
  obtain rfl := HH.out
  have ht6 : Turn (fun k => w.heap.size ≤ k) w1 w5 := (htx.mono (fun k _ h => by have h : w.heap.size + 1 ≤ k := h; omega)).trans (ht5.mono (fun k _ h => by rcases h with h | h | h <;> omega))
  exact ⟨rfl, hrow5, hb1.trans (ht6.below hb1.size (fun k hk => hk))⟩
end Go.Proofs.YtoicojdnaahimaaDoor.Tab
