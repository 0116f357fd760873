/- The walk of the law of symbols. -/
import Derived.Test.YtoicojdnaahimaaDoorZz
import Derived.Test.YtoicojdnaahimaaDoorLawPlain
import Derived.Test.YtoicojdnaahimaaDoorMake
import Derived.BigQuiet
import Derived.Deep.QuietTactic
namespace Go.Proofs.YtoicojdnaahimaaDoor.Law
open Go Go.RowKit Go.Proofs.YtoicojdnaahimaaDoor.Aid Go.Proofs.YtoicojdnaahimaaDoor.Base Go.Proofs.YtoicojdnaahimaaDoor.Len Go.Proofs.YtoicojdnaahimaaDoor.Cod Go.Proofs.YtoicojdnaahimaaDoor.Rdr Go.Proofs.YtoicojdnaahimaaDoor.Dec

set_option maxRecDepth 100000 in
set_option maxHeartbeats 1000000 in
theorem implSyms_any (v0 v1 : Value) (ls d want : List Nat) (B : Nat) (w : World) (hr0 : Rd w B v0 (nums .u8 ls)) (hr1 : Rd w B v1 (nums .u8 d)) (hB : B ≤ w.heap.size) (hl0 : 20 ≤ ls.length) (hl : ls.length ≤ 430) (hf : Full ls) (hwl : want.length ≤ 1000)
    (hws : ∀ j, j < want.length → want.getD j 0 < ls.length ∧ 0 < ls.getD (want.getD j 0) 0) (htx : Texts ls want want.length d) (hpos : posOf ls want want.length + 15 ≤ 8 * d.length) (hd : d.length ≤ 4000000) (hby : ∀ j, d.getD j 0 < 256) :
    Calls Tryd.prog 9 #[v0, v1, .int .i64 (want.length : Int)] w fun e w' => ∃ v, e = .returned (.tuple #[v, .bool true]) ∧ w'.ownsRow w.heap.size 3 1 v want.length (nums .i64 want) ∧ Below w.heap.size w w' := by
  have HF := Lib.hid hf
  have HWS := Lib.hid hws
  have HTX := Lib.hid htx
  have HBY := Lib.hid hby
  clear hf hws htx hby
  go_enter Tryd.func9, Tryd.ntmps9
  go_wp2_with fail
  refine (clone_bytes v0 ls B w hr0 hB (by omega)).mono ?_
  rintro e w1 ⟨x0, rfl, hown0, hb1⟩
  go_wp2_with fail
  refine (clone_bytes v1 d w.heap.size w1 ((hr1.more hB).below hb1) hb1.size hd).mono ?_
  rintro e w2 ⟨x1, rfl, hown1, hb2⟩
  have hr2 := (Rd.own hown0).below hb2
  have hr3 := Rd.own hown1
  go_wp2_with fail
  refine (zz_any x0 x1 ls d want w2.heap.size w2 (hr2.more hb2.size) hr3 (Nat.le_refl _) hl0 hl HF.out hwl HWS.out HTX.out hpos hd HBY.out).mono ?_
  rintro e w3 ⟨x2, rfl, hown2, hb3⟩
  go_wp2_with (go_at_call 15; refine (clone_ints x2 want w3.heap.size w3 (Rd.own hown2) (Nat.le_refl _) (by omega)).mono ?_; rintro e w4 ⟨x3, rfl, hown3, hb4⟩)
  go_ret2
  have hs1 := hb1.size
  have hs2 := hb2.size
  have hs3 := hb3.size
  exact ⟨x3, rfl, own_low hown3 (by omega), hb1.trans ((hb2.mono hs1).trans ((hb3.mono (by omega)).trans (hb4.mono (by omega))))⟩

theorem rd_four (w : World) : Rd (w.alloc (.cells #[.int .u8 0, .int .u8 0, .int .u8 0, .int .u8 0] 5)) (w.heap.size + 1) (.slice (some ⟨w.heap.size, 0, none⟩) 4 4) (nums .u8 [0, 0, 0, 0]) := by
  have h : Row .u8 (w.alloc (.cells #[.int .u8 0, .int .u8 0, .int .u8 0, .int .u8 0] 5)) w.heap.size 5 w.heap.size 4 [0, 0, 0, 0] := World.ownsRow_lit w #[.int .u8 0, .int .u8 0, .int .u8 0, .int .u8 0] 4 (Nat.le_refl _) (by decide) (by simp)
  exact h.rdAt
theorem own_len {w : World} {base e n : Nat} {v : Value} {xs : List Value} (h : w.ownsRow base e 1 v n xs) : ∃ A c, v = .slice A n c := by
  rcases h.2 with ⟨h, h0⟩ | ⟨g, cap, cur, h, _⟩
  · rw [h0]; exact ⟨none, 0, h⟩
  · exact ⟨_, cap, h⟩
theorem st_ne_row {w : World} {base base' e e' g g' cap cap' : Nat} {k k' : IntKind} {l l' : List Nat} (h : Row k w base e g cap l) (h' : Row k' w base' e' g' cap' l') (he : e ≠ e') : g ≠ g' := by
  intro hg
  subst hg
  rcases h.2 with ⟨b, _⟩ | ⟨_, _, _, b, _, b2, _⟩
  · cases b
  · rcases h'.2 with ⟨a, _⟩ | ⟨_, _, _, a, _, a2, _⟩
    · cases a
    · cases a; cases b; rw [a2] at b2; cases b2; exact he rfl

set_option maxRecDepth 100000 in
set_option maxHeartbeats 2000000 in
theorem walkSymbols (a0 : Option Addr) (len0 cap0 : Nat) (z0 : List Int) (a1 a2 : Int) (a3 : Option Addr) (len3 cap3 : Nat) (z3 : List Int) (w : World) (w0 : IsRow .u16 w a0 len0 cap0 z0) (w1 : (Lit.int .u16 a1).wf = true) (w2 : (Lit.int .u8 a2).wf = true) (w3 : IsRow .u16 w a3 len3 cap3 z3) :
    Calls Tryd.prog 4 #[.slice a0 len0 cap0, .int .u16 a1, .int .u8 a2, .slice a3 len3 cap3] w fun e w' => e = .returned (.bool true) ∧ Below w.heap.size w w' := by
  obtain ⟨b1, b1'⟩ := bounds_u16 w1
  obtain ⟨b2, b2'⟩ := bounds_u8 w2
  obtain ⟨used, hl0, hub, hru⟩ := rd_of_row16 w0
  obtain ⟨text, hl3, htb, hrt⟩ := rd_of_row16 w3
  have hlc0 := (isRow_cells w0).1
  have hlc3 := (isRow_cells w3).1
  clear w0 w1 w2 w3
  by_cases hbig : 2147483647 < len0
  · clear hru hrt hl0 hl3
    go_enter Tryd.func4, Tryd.ntmps4
    go_wp2
    go_ret
    exact ⟨rfl, Below.refl _ _⟩
  by_cases hbig3 : 2147483647 < len3
  · clear hru hrt hl0 hl3
    go_enter Tryd.func4, Tryd.ntmps4
    go_wp2
    go_ret
    exact ⟨rfl, Below.refl _ _⟩
  by_cases hmid : 1000 < len0
  · clear hru hrt hl0 hl3
    go_enter Tryd.func4, Tryd.ntmps4
    go_wp2
    go_ret
    exact ⟨rfl, Below.refl _ _⟩
  by_cases hmid3 : 1000 < len3
  · clear hru hrt hl0 hl3
    go_enter Tryd.func4, Tryd.ntmps4
    go_wp2
    go_ret
    exact ⟨rfl, Below.refl _ _⟩
  obtain ⟨n, hn⟩ : ∃ n : Nat, 20 + a1 % 411 = (n : Int) := ⟨(20 + a1 % 411).toNat, by omega⟩
  obtain ⟨ways, hways⟩ : ∃ ways : Nat, a2 % 6 = (ways : Int) := ⟨(a2 % 6).toNat, by omega⟩
  have hn20 : 20 ≤ n := by omega
  have hn430 : n ≤ 430 := by omega
  have hw5 : ways ≤ 5 := by omega
  subst hl0
  subst hl3
  have HUB := Lib.hid hub
  have HTB := Lib.hid htb
  clear hub htb
  go_enter Tryd.func4, Tryd.ntmps4
  go_wp2_with fail
  refine (used_any (.slice a0 used.length cap0) used n w hru (by omega) HUB.out (by omega) hn430).mono ?_
  rintro e w1 ⟨us, rfl, hus, hmk, hb1⟩
  have hr1 := hmk.rd
  rw [hus] at hr1
  have HUS := Lib.hid hus
  clear hus
  go_wp2_with fail
  rw [hways]
  refine (len_any _ us n ways w1.heap.size w1 hr1 (Nat.le_refl _) HUS.out (by omega) hn430 hw5).mono ?_
  rintro e w2 ⟨ls, m, rfl, hm, hgood, hrow, hb2⟩
  have hf := full_of hgood hw5 hm hn430
  have hln := hgood.len
  obtain ⟨L, hL⟩ : ∃ L, L = w1.heap.size := ⟨_, rfl⟩
  rw [← hL] at hrow hb2 ⊢
  have hbx : Below w.heap.size w w2 := hb1.trans (hb2.mono (by rw [hL]; exact hb1.size))
  have hwL : w.heap.size ≤ L := by rw [hL]; exact hb1.size
  have hrt2 := hrt.below hbx
  have hLw2 := hrow.lt
  obtain ⟨M, hM⟩ : ∃ M, w2.heap.size = M := ⟨_, rfl⟩
  rw [hM] at hLw2
  have HF := Lib.hid hf
  have h1000 : used.length ≤ 1000 := by omega
  have h3000 : text.length ≤ 1000 := by omega
  obtain rfl : n = ls.length := hln.symm
  have hra := (row_nil .i64 w2 3).alloc (.cells #[] 5)
  have hrb := row_nil .u8 (w2.alloc (.cells #[] 3)) 5
  rw [show (w2.alloc (.cells #[] 3)).heap.size = M + 1 by rw [← hM]; simp] at hrb
  rw [hM] at hra
  have hrow2 := (hrow.alloc (.cells #[] 3)).alloc (.cells #[] 5)
  have htu : Turn (fun k => M ≤ k) w2 ((w2.alloc (.cells #[] 3)).alloc (.cells #[] 5)) := ((Turn.refl _ _).alloc _).alloc _
  have hs3 : M + 2 ≤ ((w2.alloc (.cells #[] 3)).alloc (.cells #[] 5)).heap.size := by rw [← hM]; simp
  obtain ⟨i3, hi3, hz30, hz31, hz32⟩ := info_parts infoI
  obtain ⟨i5, hi5, hz50, hz51, hz52⟩ := info_parts infoB
  clear hr1 hmk hb1 hb2 hL hf hgood hm hru hln HUS HUB hn hways hw5 hrow b1 b1' b2 b2'
  go_wp2_with fail
  have HM := Lib.hid hM
  clear hM
  generalize ((w2.alloc (.cells #[] 3)).alloc (.cells #[] 5)) = w3 at hra hrb hrow2 htu hs3 ⊢
  go_loopw [11, 12, 13, 14, 52] (fun va vb _ _ vj wr => ∃ (j ga ca gb cb : Nat), vj = .int .i64 (j : Int) ∧ va = .slice (some ⟨ga, 0, none⟩) (th ls j).length ca ∧ vb = .slice (some ⟨gb, 0, none⟩) j cb ∧ j ≤ ls.length ∧
      Row .i64 wr M 3 ga ca (th ls j) ∧ Row .u8 wr M 5 gb cb (ls.take j) ∧ Row .i64 wr L 3 L ls.length ls ∧ M + 2 ≤ wr.heap.size ∧ Turn (fun k => M ≤ k) w2 wr)
    (fun _ _ _ _ vj _ => ls.length - (intOf vj).toNat)
  case atStart => exact ⟨0, M, 0, M + 1, 0, rfl, rfl, rfl, by omega, hra, hrb.low (by omega), hrow2, hs3, htu⟩
  case round =>
    obtain ⟨j, ga, ca, gb, cb, rfl, rfl, rfl, hj, hra, hrb, hrow, hsz, ht⟩ := hrel
    have hab : ga ≠ gb := st_ne_row hra hrb (by decide)
    by_cases hlt : j < ls.length
    · have hc := hrow.cell (j := j) hlt
      obtain ⟨x, hx⟩ : ∃ x, x = ls.getD j 0 := ⟨_, rfl⟩
      rw [← hx] at hc
      have hx14 : x ≤ 14 := by rw [hx]; exact HF.out.most j
      have hx8 : IntKind.u8.wrap (x : Int) = (x : Int) := by rw [IntKind.wrap_u8]; omega
      have hl2 : (ls.take j).length = j := by rw [List.length_take]; omega
      have hown1 : wr.ownsRow M 5 1 (.slice (some ⟨gb, 0, none⟩) j cb) (ls.take j).length (nums .u8 (ls.take j)) := by
        have h := hrb
        unfold Row at h
        rw [hl2] at h ⊢
        exact h
      have HL2 := Lib.hid hl2
      have HX := Lib.hid hx
      clear hl2 hx
      by_cases h0 : x = 0
      · have H0 := Lib.hid h0
        have hx0 : decide ((0 : Int) < (x : Int)) = false := decide_eq_false (by omega)
        have hx1 : ¬ 0 < x := by omega
        clear h0
        go_wp2_with (at_builtin; refine wpList_append_push _ rfl _ _ 28 rfl .u8 M 5 i5 (.int .u8 0) 1 Tryd.underlying28 hi5 hz50 hz51 hz52 rfl (by omega) (.slice (some ⟨gb, 0, none⟩) j cb) (ls.take j) rfl (World.ownsRow.alloc hown1 _) _ _ [x] rfl (rd_num wr .u8 x 5) (by simp) ?_ ?_ ?_)
        case refine_1 => rw [HL2.out]; simp; omega
        case refine_2 => simp; omega
        case refine_3 =>
          intro g2 c2 w4 hrb4 hgr hat
          have ht4 : Turn (fun k => k = gb) wr w4 := ((Turn.refl (fun k => k = gb) wr).alloc _).grown hgr (fun k hk _ => by simp [Value.ownBlock] at hk; exact hk.symm)
          have e2 : ls.take j ++ [x] = ls.take (j + 1) := by rw [HX.out]; exact take_nums ls j hlt
          rw [e2] at hrb4
          have hbM := hrb.base_le
          have hra4 := hra.turn ht4 (fun e => hab e)
          have hrow4 := hrow.turn ht4 (by omega)
          have hs4 : M + 2 ≤ w4.heap.size := by have := ht4.size; omega
          have ht5 : Turn (fun k => M ≤ k) w2 w4 := ht.trans (ht4.mono (fun k _ h => by omega))
          have eth : th ls (j + 1) = th ls j := th_skip (by rw [← HX.out]; exact H0.out)
          have hra5 : Row .i64 w4 M 3 ga ca (th ls (j + 1)) := by rw [eth]; exact hra4
          have HE := Lib.hid eth
          clear hgr hat e2 eth hra4
          go_wp2
          go_roundw
          case rel => exact ⟨j + 1, ga, ca, g2, c2, by go_num, by rw [HE.out], rfl, by omega, hra5, hrb4, hrow4, hs4, ht5⟩
          case measure => simp [intOf]; omega
      · have hxp : 0 < x := by omega
        have hx0 : decide ((0 : Int) < (x : Int)) = true := decide_eq_true (by omega)
        clear h0
        go_wp2_with (at_builtin; refine wpList_append_push _ rfl _ _ 28 rfl .u8 M 5 i5 (.int .u8 0) 1 Tryd.underlying28 hi5 hz50 hz51 hz52 rfl (by omega) (.slice (some ⟨gb, 0, none⟩) j cb) (ls.take j) rfl (World.ownsRow.alloc hown1 _) _ _ [x] rfl (rd_num wr .u8 x 5) (by simp) ?_ ?_ ?_)
        case refine_1 => rw [HL2.out]; simp; omega
        case refine_2 => simp; omega
        case refine_3 =>
          intro g2 c2 w4 hrb4 hgr hat
          have ht4 : Turn (fun k => k = gb) wr w4 := ((Turn.refl (fun k => k = gb) wr).alloc _).grown hgr (fun k hk _ => by simp [Value.ownBlock] at hk; exact hk.symm)
          have e2 : ls.take j ++ [x] = ls.take (j + 1) := by rw [HX.out]; exact take_nums ls j hlt
          rw [e2] at hrb4
          have hbM := hrb.base_le
          have haM := hra.base_le
          have hra4 := hra.turn ht4 (fun e => hab e)
          have hrow4 := hrow.turn ht4 (by omega)
          have hs4 : M + 2 ≤ w4.heap.size := by have := ht4.size; omega
          have ht5 : Turn (fun k => M ≤ k) w2 w4 := ht.trans (ht4.mono (fun k _ h => by omega))
          have eth : th ls (j + 1) = th ls j ++ [j] := th_add (by rw [← HX.out]; exact hxp)
          have htl := th_len ls j
          have HE := Lib.hid eth
          have hab4 : ga ≠ g2 := st_ne_row hra4 hrb4 (by decide)
          clear hgr hat e2 eth hra hrb hown1 hc hrow ht ht4
          go_wp2_with (at_builtin; refine wpList_append_push _ rfl _ _ 24 rfl .i64 M 3 i3 (.int .i64 0) 8 Tryd.underlying24 hi3 hz30 hz31 hz32 rfl (by omega) (.slice (some ⟨ga, 0, none⟩) (th ls j).length ca) (th ls j) rfl (World.ownsRow.alloc hra4 _) _ _ [j] rfl (rd_num w4 .i64 j 3) (by simp) ?_ ?_ ?_)
          case refine_1 => simp; omega
          case refine_2 => simp; omega
          case refine_3 =>
            intro g3 c3 w6 hra6 hgr hat
            have ht6 : Turn (fun k => k = ga) w4 w6 := ((Turn.refl (fun k => k = ga) w4).alloc _).grown hgr (fun k hk _ => by simp [Value.ownBlock] at hk; exact hk.symm)
            rw [← HE.out] at hra6
            have hrb6 := hrb4.turn ht6 (fun e => hab4 e.symm)
            have hrow6 := hrow4.turn ht6 (by omega)
            have hs6 : M + 2 ≤ w6.heap.size := by have := ht6.size; omega
            have ht7 : Turn (fun k => M ≤ k) w2 w6 := ht5.trans (ht6.mono (fun k _ h => by omega))
            have e4 : (th ls (j + 1)).length = (th ls j).length + 1 := by rw [HE.out, List.length_append]; rfl
            have HE4 := Lib.hid e4
            clear hgr hat e4 ht5 ht6 hra4 hrb4 hrow4
            go_wp2
            go_roundw
            case rel => exact ⟨j + 1, g3, c3, g2, c2, by go_num, by rw [HE4.out], rfl, by omega, hra6, hrb6, hrow6, hs6, ht7⟩
            case measure => simp [intOf]; omega
    · obtain rfl : j = ls.length := by omega
      rename World => wq
      have htp := th_pos HF.out
      have htl := th_len ls ls.length
      obtain ⟨t, htd⟩ : ∃ t, t = th ls ls.length := ⟨_, rfl⟩
      rw [← htd] at hra htp htl ⊢
      have HT := Lib.hid htd
      have eta : ls.take ls.length = ls := List.take_length
      rw [eta] at hrb
      clear htd eta htu hrow2 hs3
      obtain ⟨N, hN⟩ : ∃ N, wq.heap.size = N := ⟨_, rfl⟩
      have hrc := row_nil .i64 wq 3
      rw [hN] at hrc
      have hra2 := hra.alloc (.cells #[] 3)
      have hrb2 := hrb.alloc (.cells #[] 3)
      have hrow2 := hrow.alloc (.cells #[] 3)
      have hbw := ht.below (B := M) (by rw [HM.out]; exact Nat.le_refl _) (fun k hk => hk)
      have hrt3 := hrt2.keep (w' := wq) (fun p hp => hbw.cell (by omega))
      have haN := hra.lt
      have hbN := hrb.lt
      have hLN := hrow.lt
      rw [hN] at haN hbN hLN
      have hwN : w.heap.size ≤ N := by omega
      have hs5 : N + 1 ≤ (wq.alloc (.cells #[] 3)).heap.size := by rw [← hN]; simp
      have ht5 : Turn (fun k => N ≤ k) wq (wq.alloc (.cells #[] 3)) := (Turn.refl _ _).alloc _
      obtain ⟨A3, cc3, hv3, hA1, hA2, hA3⟩ := hrt3
      rw [nums_length] at hv3 hA1 hA3
      obtain ⟨rfl, rfl⟩ : A3 = a3 ∧ cc3 = cap3 := by cases hv3; exact ⟨rfl, rfl⟩
      have HA3 := Lib.hid hA3
      have hw0 : Row .i64 (wq.alloc (.cells #[] 3)) N 3 N 0 (wants t (text.take 0)) := hrc
      have hbxr : Below w.heap.size w wq := hbx.trans (hbw.mono (by omega))
      clear hv3 hA1 hA2 hA3 hrt2 hrt hbw ht hrc hra2 hrb2 hrow2 hbx
      go_wp2
      have HN := Lib.hid hN
      clear hN
      generalize wq.alloc (.cells #[] 3) = w5 at hs5 ht5 hw0 ⊢
      go_loopw [15, 17, 72] (fun va _ vj wx => ∃ (j gw cw : Nat), vj = .int .i64 (j : Int) ∧ va = .slice (some ⟨gw, 0, none⟩) j cw ∧ j ≤ text.length ∧ Row .i64 wx N 3 gw cw (wants t (text.take j)) ∧ N + 1 ≤ wx.heap.size ∧ Turn (fun k => N ≤ k) wq wx)
        (fun _ _ vj _ => text.length - (intOf vj).toNat)
      case atStart => exact ⟨0, N, 0, rfl, rfl, by omega, hw0, hs5, ht5⟩
      case round =>
        obtain ⟨j, gw, cw, rfl, rfl, hj, hrw, hsz, ht⟩ := hrel
        by_cases hlt : j < text.length
        · obtain ⟨g3, o3, rfl, hg3, hcell⟩ := HA3.out (by omega)
          have hc := (ht.cell (p := ⟨g3, o3 + j, none⟩) (by show g3 < wq.heap.size; rw [HN.out]; omega) (by show ¬ N ≤ g3; omega)).trans (hcell j _ (nums_get hlt))
          obtain ⟨y, hy⟩ : ∃ y, y = text.getD j 0 := ⟨_, rfl⟩
          rw [← hy] at hc
          have hy0 : y < 65536 := by rw [hy]; exact HTB.out j
          obtain ⟨r, hr⟩ : ∃ r, r = y % t.length := ⟨_, rfl⟩
          have hrt : r < t.length := by rw [hr]; exact Nat.mod_lt _ htp
          have hrI : ((y : Int) % (t.length : Int)) = (r : Int) := by rw [hr]; omega
          have hct := (hra.turn ht (by omega)).cell (j := r) hrt
          obtain ⟨sv, hsv⟩ : ∃ sv, sv = t.getD r 0 := ⟨_, rfl⟩
          rw [← hsv] at hct
          have hl2 : (wants t (text.take j)).length = j := by rw [wants_len, List.length_take]; omega
          have hown1 : wr.ownsRow N 3 1 (.slice (some ⟨gw, 0, none⟩) j cw) (wants t (text.take j)).length (nums .i64 (wants t (text.take j))) := by
            have h := hrw
            unfold Row at h
            rw [hl2] at h ⊢
            exact h
          have e2 : wants t (text.take j) ++ [sv] = wants t (text.take (j + 1)) := by rw [hsv, hr, hy]; exact wants_take t text hlt
          have HL2 := Lib.hid hl2
          have HE2 := Lib.hid e2
          have hri : (r : Int) < t.length := by omega
          clear hl2 hy hr hsv e2 hcell
          go_wp2_with (at_builtin; refine wpList_append_push _ rfl _ _ 24 rfl .i64 N 3 i3 (.int .i64 0) 8 Tryd.underlying24 hi3 hz30 hz31 hz32 rfl (by omega) (.slice (some ⟨gw, 0, none⟩) j cw) (wants t (text.take j)) rfl (World.ownsRow.alloc hown1 _) _ _ [sv] rfl (rd_num wr .i64 sv 3) (by simp) ?_ ?_ ?_)
          case refine_1 => rw [HL2.out]; simp; omega
          case refine_2 => simp; omega
          case refine_3 =>
            intro g2 c2 w7 hrw7 hgr hat
            have hbase := hrw.base_le
            have ht7 : Turn (fun k => N ≤ k) wq w7 := ht.trans (((Turn.refl (fun k => N ≤ k) wr).alloc _).grown hgr (fun k hk _ => by simp [Value.ownBlock] at hk; omega))
            rw [HE2.out] at hrw7
            have hs7 : N + 1 ≤ w7.heap.size := by have := hgr.size; simp at this; omega
            clear hgr hat hrw ht hc hct hown1
            go_wp2
            go_roundw
            case rel => exact ⟨j + 1, g2, c2, by go_num, by rw [HL2.out], by omega, hrw7, hs7, ht7⟩
            case measure => simp [intOf]; omega
        · obtain rfl : j = text.length := by omega
          rename World => wp
          have eta : text.take text.length = text := List.take_length
          rw [eta] at hrw
          obtain ⟨want, hwd⟩ : ∃ want, want = wants t text := ⟨_, rfl⟩
          rw [← hwd] at hrw
          have hwlen : want.length = text.length := by rw [hwd]; exact wants_len t text
          have hws : ∀ j, j < want.length → want.getD j 0 < ls.length ∧ 0 < ls.getD (want.getD j 0) 0 := fun j hj => by
            have h := wants_get HF.out (text := text) (j := j) (by omega)
            rw [← HT.out, ← hwd] at h
            exact h
          have hr0 := hrw.rd
          have hr1 := (hrow.turn ht (by omega)).rd
          have hrb2 := hrb.turn ht (by omega)
          have hlc := hrw.caps
          rw [hwlen] at hr0 hlc
          have hbw := ht.below (B := N) (by rw [HN.out]; exact Nat.le_refl _) (fun k hk => hk)
          have hbx2 : Below w.heap.size w wp := hbxr.trans (hbw.mono hwN)
          have HWS := Lib.hid hws
          have HWL := Lib.hid hwlen
          clear eta hwd hwlen hws hra hrb hrow ht hbw hbxr hsz
          have hT := text_any _ _ want ls wp.heap.size wp hr0 hr1 (Nat.le_refl _) (by omega) hn430 HF.out (by rw [HWL.out]; omega) HWS.out
          have hpos := posOf_le want HF.out want.length
          rw [show 14 * want.length = 14 * text.length by rw [HWL.out]] at hpos
          go_wp2_with (first
            | (go_at_call 10; refine hT.mono ?_; rintro e w8 ⟨out, vs, rfl, hout, hbits, htx, hb8⟩)
            | (at_builtin; refine wpList_append_push _ rfl _ _ 28 rfl .u8 wp.heap.size 5 i5 (.int .u8 0) 1 Tryd.underlying28 hi5 hz50 hz51 hz52 rfl (by omega) vs out rfl (World.ownsRow.alloc hout _) _ _ [0, 0, 0, 0] rfl (rd_four w8) (by simp) ?_ ?_ ?_))
          case refine_1 => have := hbits.len; simp; omega
          case refine_2 => have := hb8.size; simp; omega
          case refine_3 =>
            intro g4 c4 w9 hd4 hgr hat
            have hb9 : Below wp.heap.size wp w9 := hb8.trans (((Below.refl wp.heap.size w8).alloc hb8.size _).grown hgr (by have := hb8.size; simp; omega) (fun k hk => own_ge hout k hk))
            have hol := hbits.len
            have e4 : (out ++ [0, 0, 0, 0]).length = out.length + 4 := by simp
            have hr9 := hd4.rd
            rw [e4] at hr9
            have hrb9 := (hrb2.rd.below hb9).more hb9.size
            have hI := implSyms_any _ _ ls (out ++ [0, 0, 0, 0]) want w9.heap.size w9 hrb9 hr9 (Nat.le_refl _) hn20 hn430 HF.out (by rw [HWL.out]; omega) HWS.out (texts_more hbits htx) (by rw [e4]; omega) (by rw [e4]; omega) (four_bytes hbits.byte)
            rw [HWL.out] at hI
            have hr09 := (hr0.below hb9).more hb9.size
            have hbx9 := hbx2.trans (hb9.mono hbx2.size)
            clear hgr hat hbits htx hol hout hb8 e4 hr9 hrb9 hr0 hr1 hrb2 hrw hb9 hbx2 hT hd4
            go_wp2_with (go_at_call 9; refine hI.mono ?_; rintro e wa ⟨v, rfl, hown, hba⟩; obtain ⟨Av, cv, rfl⟩ := own_len hown)
            have hrg := Rd.own hown
            have hrw := (hr09.below hba).more hba.size
            have hbz := hbx9.trans (hba.mono hbx9.size)
            obtain ⟨Ag, cg, hvg, hG1, hG2, hG3⟩ := hrg
            rw [nums_length, HWL.out] at hvg hG1 hG3
            obtain ⟨rfl, rfl⟩ : Ag = Av ∧ cg = cv := by cases hvg; exact ⟨rfl, rfl⟩
            obtain ⟨Aw, cw2, hvw, hW1, hW2, hW3⟩ := hrw
            rw [nums_length, HWL.out] at hvw hW1 hW3
            obtain ⟨rfl, rfl⟩ : Aw = some ⟨gw, 0, none⟩ ∧ cw2 = cw := by cases hvw; exact ⟨rfl, rfl⟩
            have HG := Lib.hid hG3
            have HW := Lib.hid hW3
            clear hvg hvw hG3 hW3 hown hr09 hba hbx9 hI
            go_loopw [20, 111] (fun _ vj wr => ∃ j : Nat, vj = .int .i64 (j : Int) ∧ j ≤ text.length ∧ Turn (fun _ => False) wa wr) (fun _ vj _ => text.length - (intOf vj).toNat)
            case atStart => exact ⟨0, rfl, by omega, Turn.refl _ _⟩
            case round =>
              obtain ⟨j, rfl, hj, ht⟩ := hrel
              by_cases hlt : j < text.length
              · obtain ⟨gg, og, rfl, hgg, hgc⟩ := HG.out (by omega)
                obtain ⟨gv, ov, hgv, hgw, hwc⟩ := HW.out (by omega)
                obtain ⟨rfl, rfl⟩ : gv = gw ∧ ov = 0 := by cases hgv; exact ⟨rfl, rfl⟩
                have hnu := nums_get (k := .i64) (l := want) (j := j) (by rw [HWL.out]; exact hlt)
                have hc1 := (ht.cell (p := ⟨gg, og + j, none⟩) hgg (fun h => h)).trans (hgc j _ hnu)
                have hc2 := (ht.cell (p := ⟨gv, 0 + j, none⟩) hgw (fun h => h)).trans (hwc j _ hnu)
                rw [Nat.zero_add] at hc2
                obtain ⟨y, hy⟩ : ∃ y, y = want.getD j 0 := ⟨_, rfl⟩
                rw [← hy] at hc1 hc2
                clear hgc hwc hnu hy hgv
                go_wp2
                go_quiet (fail)
                go_wp2
                go_roundw
                case rel => exact ⟨j + 1, by go_num, by omega, ht.drewN _⟩
                case measure => simp [intOf]; omega
              · go_wp2
                go_ret
                exact ⟨rfl, hbz.trans ((ht.below (B := wa.heap.size) (Nat.le_refl _) (fun k hk => hk.elim)).mono hbz.size)⟩
end Go.Proofs.YtoicojdnaahimaaDoor.Law
