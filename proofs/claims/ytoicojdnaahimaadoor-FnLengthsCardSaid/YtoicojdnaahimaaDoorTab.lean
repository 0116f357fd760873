/- The walk of the reference's table of lengths. -/
import Derived.Test.YtoicojdnaahimaaDoorSgn
import Derived.Test.YtoicojdnaahimaaDoorWord
import Derived.Test.YtoicojdnaahimaaDoorCodes
import Derived.Test.YtoicojdnaahimaaDoorLen
import Derived.Test.YtoicojdnaahimaaDoorMake
import Derived.StillTailTactics
import Derived.BigQuiet
import Derived.Deep.QuietTactic
import Derived.Deep.CutRange
import Derived.Deep.CutBlock
namespace Go.Proofs.YtoicojdnaahimaaDoor.Tab
open Go Go.RowKit Go.Proofs.YtoicojdnaahimaaDoor.Aid Go.Proofs.YtoicojdnaahimaaDoor.Base Go.Proofs.YtoicojdnaahimaaDoor.Len Go.Proofs.YtoicojdnaahimaaDoor.Cod Go.Proofs.YtoicojdnaahimaaDoor.Law

theorem le_alloc {w : World} {n : Nat} (o : Obj) (h : n ≤ w.heap.size) : n ≤ (w.alloc o).heap.size := by simp; omega

/-- The writer at block H: its bytes lie in vs; p bits are written. -/
def Wv (w : World) (H : Nat) (vs : Value) (out : List Nat) (p : Nat) : Prop :=
  St w H 44 H [vs, .int .i64 (p : Int)] ∧ w.ownsRow H 5 1 vs out.length (nums .u8 out) ∧ vs.ownBlock ≠ some H ∧ Bits out p
theorem Wv.turn {S : Nat → Prop} {w w' : World} {H : Nat} {vs : Value} {out : List Nat} {p : Nat} (h : Wv w H vs out p) (ht : Turn S w w') (h1 : ¬ S H) (h2 : ∀ k, vs.ownBlock = some k → ¬ S k) : Wv w' H vs out p :=
  ⟨h.1.turn ht h1, own_turn h.2.1 ht h2, h.2.2.1, h.2.2.2⟩
set_option maxRecDepth 100000 in
theorem word_v (H v n a0 : Nat) (vs : Value) (out0 : List Nat) (w : World) (hw : Wv w H vs out0 a0) (hn : n ≤ 15) (hv : v < 2 ^ n) (ha : a0 ≤ 30000) :
    Calls Tryd.prog 17 #[.pointer (some ⟨H, 0, none⟩), .int .i64 (v : Int), .int .i64 (n : Int)] w fun e w' => ∃ out vs', e = .returned (.tuple #[]) ∧ Wv w' H vs' out (a0 + n) ∧ (∀ k, vs'.ownBlock = some k → vs.ownBlock = some k ∨ w.heap.size ≤ k) ∧
      (∀ p, p < a0 → bitAt out p = bitAt out0 p) ∧ win out a0 n = v ∧ Turn (fun k => k = H ∨ vs.ownBlock = some k ∨ w.heap.size ≤ k) w w' := by
  refine (word_any (fun k => k = H ∨ vs.ownBlock = some k ∨ w.heap.size ≤ k) H H v n a0 out0 w ⟨vs, hw.1, hw.2.1, hw.2.2.1, .inl rfl, fun k hk => .inr (.inl hk), hw.2.2.2⟩ (fun k hk => .inr (.inr hk)) hn hv ha).mono ?_
  rintro e w' ⟨out, rfl, ⟨vs', h1, h2, h3, _, h5, h6⟩, h7, h8, h9⟩
  refine ⟨out, vs', rfl, ⟨h1, h2, h3, h6⟩, fun k hk => ?_, h7, h8, h9⟩
  rcases h5 k hk with h | h | h
  · exact absurd (by rw [← h]; exact hk) h3
  · exact .inl h
  · exact .inr h

set_option maxRecDepth 100000 in
set_option maxHeartbeats 16000000 in
theorem table_any (H B : Nat) (v1 : Value) (ls : List Nat) (runs : Bool) (w : World) (hst : St w H 44 H [.slice none 0 0, .int .i64 0]) (hr1 : Rd w B v1 (nums .i64 ls)) (hB : B ≤ H) (hH : w.heap.size = H + 1) (hl0 : 20 ≤ ls.length) (hl : ls.length ≤ 430) (h14 : ∀ i, ls.getD i 0 ≤ 14) :
    Calls Tryd.prog 13 #[.pointer (some ⟨H, 0, none⟩), v1, .bool runs] w fun e w' => ∃ (out sh : List Nat) (q pe : Nat) (vs : Value), e = .returned (.tuple #[]) ∧ St w' H 44 H [vs, .int .i64 (pe : Int)] ∧ w'.ownsRow H 5 1 vs out.length (nums .u8 out) ∧ Bits out pe ∧ Table ls sh out q pe ∧ pe ≤ 30000 ∧ Turn (fun k => H ≤ k) w w' := by
  obtain ⟨A1, cap1, hv1, hA4, hA5, hA6⟩ := hr1
  rw [nums_length] at hv1 hA4 hA6
  subst hv1
  obtain ⟨g1, o1, rfl, hg1, hcell1⟩ := hA6 (by omega)
  have HC1 := Lib.hid hcell1
  have H14 := Lib.hid h14
  clear hA6 hcell1 h14
  go_enter Tryd.func13, Tryd.ntmps13
  have hl0' := World.ownsRow_lit (e := 62) w #[] (size := 3) 0 (Nat.le_refl _) (by decide) (by simp)
  rw [hH] at hl0'
  have hs1 : H + 2 ≤ (w.alloc (.cells #[] 62)).heap.size := by simp [hH]
  have ht1 : Turn (fun k => H + 1 ≤ k) w (w.alloc (.cells #[] 62)) := (Turn.refl _ _).alloc _
  have HH := Lib.hid hH
  go_upto_block 0 with (fail)
  clear hH
  generalize w.alloc (.cells #[] 62) = w1 at hl0' hs1 ht1 ⊢
  have hS0 : Hid (Signs ls [] 0) := Signs.nil ls
  go_cut [6] from 18 (fun v6 wc => ∃ (L : List (Nat × Nat)) (c g : Nat), v6 = .slice (some ⟨g, 0, none⟩) L.length c ∧ Hid (Signs ls L ls.length) ∧ wc.ownsRow (H + 1) 62 3 (.slice (some ⟨g, 0, none⟩) L.length c) L.length (sc L) ∧ H + 2 ≤ wc.heap.size ∧ Turn (fun k => H + 1 ≤ k) w wc)
  case first =>
    go_wp2
    go_loopw [6, 7, 8] (fun v6 v7 _ wr => ∃ (L : List (Nat × Nat)) (k c g : Nat), v6 = .slice (some ⟨g, 0, none⟩) L.length c ∧ v7 = .int .i64 (k : Int) ∧ k ≤ ls.length ∧ Hid (Signs ls L k) ∧ wr.ownsRow (H + 1) 62 3 (.slice (some ⟨g, 0, none⟩) L.length c) L.length (sc L) ∧ H + 2 ≤ wr.heap.size ∧ Turn (fun k => H + 1 ≤ k) w wr)
      (fun _ v7 _ _ => ls.length - (intOf v7).toNat)
    case atStart => exact ⟨[], 0, 0, H + 1, rfl, rfl, by omega, hS0, hl0', hs1, ht1⟩
    case round =>
      obtain ⟨L, k, c, g, rfl, rfl, hk, HS, hrow, hsz, ht⟩ := hrel
      rename World => wo
      by_cases hlt : k < ls.length
      · obtain ⟨x, hx⟩ : ∃ x, x = ls.getD k 0 := ⟨_, rfl⟩
        have hx14 : x ≤ 14 := by rw [hx]; exact H14.out k
        have HX := Lib.hid hx
        clear hx
        go_upto_block 2 with (fail)
        go_cut [8] from 19 to 156 (fun v8 wc => ∃ n : Nat, v8 = .int .i64 (n : Int) ∧ 1 ≤ n ∧ k + n ≤ ls.length ∧ Hid (∀ j, k ≤ j → j < k + n → ls.getD j 0 = x) ∧ Turn (fun _ => False) wo wc)
        case first =>
          go_wp2
          go_loopw [8] (fun v8 wr => ∃ n : Nat, v8 = .int .i64 (n : Int) ∧ 1 ≤ n ∧ k + n ≤ ls.length ∧ Hid (∀ j, k ≤ j → j < k + n → ls.getD j 0 = x) ∧ Turn (fun _ => False) wo wr) (fun v8 _ => ls.length - (intOf v8).toNat)
          case atStart => exact ⟨1, rfl, by omega, by omega, fun j h1 h2 => by rw [show j = k by omega]; exact HX.out.symm, Turn.refl _ _⟩
          case round =>
            obtain ⟨n, rfl, hn1, hn2, HN, htn⟩ := hrel
            rename World => wi
            go_wp2_with fail
            have hck := (htn.cell (p := ⟨g1, o1 + k, none⟩) (by show g1 < wo.heap.size; omega) (fun h => h)).trans ((ht.cell (p := ⟨g1, o1 + k, none⟩) (by show g1 < w.heap.size; rw [HH.out]; omega) (by show ¬ H + 1 ≤ g1; omega)).trans (HC1.out k _ (nums_get hlt)))
            rw [← HX.out] at hck
            have hwr : IntKind.i64.wrap ((k : Int) + (n : Int)) = (k : Int) + n := by rw [IntKind.wrap_i64]; omega
            have hkn0 : 0 ≤ (k : Int) + (n : Int) := by omega
            have hknt : ((k : Int) + (n : Int)).toNat = k + n := by omega
            by_cases hg : k + n < ls.length
            · have hckn := (htn.cell (p := ⟨g1, o1 + (k + n), none⟩) (by show g1 < wo.heap.size; omega) (fun h => h)).trans ((ht.cell (p := ⟨g1, o1 + (k + n), none⟩) (by show g1 < w.heap.size; rw [HH.out]; omega) (by show ¬ H + 1 ≤ g1; omega)).trans (HC1.out (k + n) _ (nums_get hg)))
              obtain ⟨y, hy⟩ : ∃ y, y = ls.getD (k + n) 0 := ⟨_, rfl⟩
              rw [← hy] at hckn
              have hgi : (k : Int) + (n : Int) < (ls.length : Int) := by omega
              have HY := Lib.hid hy
              clear hy
              by_cases hxy : y = x
              · have hb : ((y : Int) == (x : Int)) = true := by rw [hxy]; simp
                have HXY := Lib.hid hxy
                clear hxy
                go_quiet (fail)
                clear hwr hknt hb
                go_wp2
                refine ⟨⟨n + 1, by go_num, by omega, by omega, ?_, htn.drewN _⟩, by simp [intOf]; omega⟩
                intro j h1 h2
                by_cases e : j = k + n
                · rw [e, ← HY.out]; exact HXY.out
                · exact HN.out j h1 (by omega)
              · have hb : ((y : Int) == (x : Int)) = false := decide_eq_false (by omega)
                go_quiet (fail)
                clear hwr hknt hb
                go_wp2
                go_meet
                case rel => exact ⟨n, rfl, hn1, hn2, HN, htn.drewN _⟩
            · have hgi : decide ((k : Int) + (n : Int) < (ls.length : Int)) = false := decide_eq_false (by omega)
              go_quiet (fail)
              clear hwr hknt
              go_wp2
              go_meet
              case rel => exact ⟨n, rfl, hn1, hn2, HN, htn.drewN _⟩
        case rest =>
          obtain ⟨n, rfl, hn1, hn2, HN, htn⟩ := hcut
          have hck := (htn.cell (p := ⟨g1, o1 + k, none⟩) (by show g1 < wo.heap.size; omega) (fun h => h)).trans ((ht.cell (p := ⟨g1, o1 + k, none⟩) (by show g1 < w.heap.size; rw [HH.out]; omega) (by show ¬ H + 1 ≤ g1; omega)).trans (HC1.out k _ (nums_get hlt)))
          rw [← HX.out] at hck
          have hrow2 := own_turn hrow htn (fun _ _ h => h)
          have ht2 : Turn (fun k => H + 1 ≤ k) w wc := ht.trans (htn.mono (fun _ _ h => h.elim))
          have hsz2 : H + 2 ≤ wc.heap.size := by have := htn.size; omega
          have hLl : L.length ≤ 1000 := by have := HS.out.len; omega
          have HS2 : Hid (∀ s m n', Sgn ls k s m → cnt s m = n' → Signs ls (L ++ [(s, m)]) (k + n')) := fun s m n' h e => by rw [← e]; exact HS.out.add h
          have HN2 : Hid (∀ j n', n' ≤ n → k ≤ j → j < k + n' → ls.getD j 0 = ls.getD k 0) := fun j n' h1 h2 h3 => by rw [← HX.out]; exact HN.out j h2 (by omega)
          have htn2 := Lib.hid ht2
          have hbw : H + 1 ≤ wc.heap.size := by omega
          clear hrow ht hsz htn
          go_upto_block 4 with (fail)
          go_cut [6, 8] from 19 to 156 (fun v6 v8 wd => ∃ (L' : List (Nat × Nat)) (c' g' n' : Nat), v6 = .slice (some ⟨g', 0, none⟩) L'.length c' ∧ v8 = .int .i64 (n' : Int) ∧ 1 ≤ n' ∧ k + n' ≤ ls.length ∧ Hid (Signs ls L' (k + n')) ∧ wd.ownsRow (H + 1) 62 3 (.slice (some ⟨g', 0, none⟩) L'.length c') L'.length (sc L') ∧ H + 2 ≤ wd.heap.size ∧ Turn (fun k => H + 1 ≤ k) w wd)
          case first =>
            cases runs
            · as_aux_lemma =>
              go_wp2_with fail
              go_quiet (fail)
              go_wp2_with fail
              go_quiet (fail)
              
              have he : ((x : Int) : Int) = ((x : Nat) : Int) ∧ (0 : Int) = ((0 : Nat) : Int) ∧ (0 : Int) = ((bts x : Nat) : Int) := ⟨rfl, rfl, by unfold bts; rw [if_pos (by omega)]; rfl⟩
              have HQ := Lib.hid he
              clear he
              go_wp2_with (at_builtin; (refine wpList_append_sign _ rfl _ _ rfl (H + 1) _ L rfl (World.ownsRow.alloc hrow2 _) _ rfl ((x : Int)) (0) (0) (three rfl) x 0 HQ.out hLl (le_alloc _ hbw) ?_))
              intro g' c' w' hown hgr
              have hbase := (World.ownsRow.lt hrow2 g rfl).1
              have ht3 : Turn (fun k => H + 1 ≤ k) w w' := ht2.trans (((((Turn.refl (fun k => H + 1 ≤ k) wc).drewN _).alloc _).grown hgr (fun k hk _ => by simp [Value.ownBlock] at hk; omega)))
              have hs3 : H + 2 ≤ w'.heap.size := by have := hgr.size; simp at this; omega
              have e : (L ++ [(x, 0)]).length = L.length + 1 := by rw [List.length_append]; rfl
              rw [← e] at hown
              have HE := Lib.hid e
              have hsg : Signs ls (L ++ [(x, 0)]) (k + 1) := by
                    have h := Sgn.one (ls := ls) (k := k) hlt (by rw [← HX.out]; omega)
                    rw [← HX.out] at h
                    exact HS2.out x 0 1 h (by unfold cnt; rw [if_pos (by omega)])
              clear e hgr
              go_wp2_with fail
              go_meet
              case rel => exact ⟨L ++ [(x, 0)], c', g', 1, by rw [HE.out], rfl, by omega, by omega, hsg, hown, hs3, ht3⟩
            · by_cases hx0 : x = 0
              · have hb0 : ((x : Int) == 0) = true := by rw [hx0]; rfl
                have HX0 := Lib.hid hx0
                clear hx0
                by_cases hn11 : 11 ≤ n
                · by_cases hn138 : n ≤ 138
                  · as_aux_lemma =>
                    have he : (19 : Int) = ((19 : Nat) : Int) ∧ ((n : Int) - 11 : Int) = (((n - 11) : Nat) : Int) ∧ (7 : Int) = ((bts 19 : Nat) : Int) := ⟨rfl, by omega, rfl⟩
                    have HQ := Lib.hid he
                    clear he
                    have hmin : ¬ (138 : Int) < (n : Int) := by omega
                    go_wp2_with (at_builtin; (refine wpList_append_sign _ rfl _ _ rfl (H + 1) _ L rfl (World.ownsRow.alloc hrow2 _) _ rfl (19) ((n : Int) - 11) (7) (three rfl) 19 (n - 11) HQ.out hLl (le_alloc _ hbw) ?_))
                    intro g' c' w' hown hgr
                    have hbase := (World.ownsRow.lt hrow2 g rfl).1
                    have ht3 : Turn (fun k => H + 1 ≤ k) w w' := ht2.trans (((((Turn.refl (fun k => H + 1 ≤ k) wc)).alloc _).grown hgr (fun k hk _ => by simp [Value.ownBlock] at hk; omega)))
                    have hs3 : H + 2 ≤ w'.heap.size := by have := hgr.size; simp at this; omega
                    have e : (L ++ [(19, (n - 11))]).length = L.length + 1 := by rw [List.length_append]; rfl
                    rw [← e] at hown
                    have HE := Lib.hid e
                    have hsg : Signs ls (L ++ [(19, (n - 11))]) (k + n) := by
                          have h := Sgn.run (ls := ls) (k := k) (n := n) (s := 19) (m := (n - 11)) (.inr (.inr (.inr ⟨rfl, by omega, by omega⟩))) (by omega) (fun j h1 h2 => HN2.out j n (by omega) h1 h2) (fun _ => by rw [← HX.out]; exact HX0.out) (fun h => by omega)
                          exact HS2.out 19 (n - 11) n h.2 h.1
                    clear e hgr
                    go_wp2_with fail
                    go_meet
                    case rel => exact ⟨L ++ [(19, (n - 11))], c', g', n, by rw [HE.out], rfl, by omega, by omega, hsg, hown, hs3, ht3⟩
                  · as_aux_lemma =>
                    have he : (19 : Int) = ((19 : Nat) : Int) ∧ (127 : Int) = ((127 : Nat) : Int) ∧ (7 : Int) = ((bts 19 : Nat) : Int) := ⟨rfl, by omega, rfl⟩
                    have HQ := Lib.hid he
                    clear he
                    have hmin : (138 : Int) < (n : Int) := by omega
                    go_wp2_with (at_builtin; (refine wpList_append_sign _ rfl _ _ rfl (H + 1) _ L rfl (World.ownsRow.alloc hrow2 _) _ rfl (19) (127) (7) (three rfl) 19 127 HQ.out hLl (le_alloc _ hbw) ?_))
                    intro g' c' w' hown hgr
                    have hbase := (World.ownsRow.lt hrow2 g rfl).1
                    have ht3 : Turn (fun k => H + 1 ≤ k) w w' := ht2.trans (((((Turn.refl (fun k => H + 1 ≤ k) wc)).alloc _).grown hgr (fun k hk _ => by simp [Value.ownBlock] at hk; omega)))
                    have hs3 : H + 2 ≤ w'.heap.size := by have := hgr.size; simp at this; omega
                    have e : (L ++ [(19, 127)]).length = L.length + 1 := by rw [List.length_append]; rfl
                    rw [← e] at hown
                    have HE := Lib.hid e
                    have hsg : Signs ls (L ++ [(19, 127)]) (k + 138) := by
                          have h := Sgn.run (ls := ls) (k := k) (n := 138) (s := 19) (m := 127) (.inr (.inr (.inr ⟨rfl, by omega, by omega⟩))) (by omega) (fun j h1 h2 => HN2.out j 138 (by omega) h1 h2) (fun _ => by rw [← HX.out]; exact HX0.out) (fun h => by omega)
                          exact HS2.out 19 127 138 h.2 h.1
                    clear e hgr
                    go_wp2_with fail
                    go_meet
                    case rel => exact ⟨L ++ [(19, 127)], c', g', 138, by rw [HE.out], rfl, by omega, by omega, hsg, hown, hs3, ht3⟩
                · by_cases hn3 : 3 ≤ n
                  · as_aux_lemma =>
                    have hn10 : n ≤ 10 := by omega
                    have he : (18 : Int) = ((18 : Nat) : Int) ∧ ((n : Int) - 3 : Int) = (((n - 3) : Nat) : Int) ∧ (3 : Int) = ((bts 18 : Nat) : Int) := ⟨rfl, by omega, rfl⟩
                    have HQ := Lib.hid he
                    clear he
                    have hmin : ¬ (10 : Int) < (n : Int) := by omega
                    go_wp2_with (at_builtin; (refine wpList_append_sign _ rfl _ _ rfl (H + 1) _ L rfl (World.ownsRow.alloc hrow2 _) _ rfl (18) ((n : Int) - 3) (3) (three rfl) 18 (n - 3) HQ.out hLl (le_alloc _ hbw) ?_))
                    intro g' c' w' hown hgr
                    have hbase := (World.ownsRow.lt hrow2 g rfl).1
                    have ht3 : Turn (fun k => H + 1 ≤ k) w w' := ht2.trans (((((Turn.refl (fun k => H + 1 ≤ k) wc)).alloc _).grown hgr (fun k hk _ => by simp [Value.ownBlock] at hk; omega)))
                    have hs3 : H + 2 ≤ w'.heap.size := by have := hgr.size; simp at this; omega
                    have e : (L ++ [(18, (n - 3))]).length = L.length + 1 := by rw [List.length_append]; rfl
                    rw [← e] at hown
                    have HE := Lib.hid e
                    have hsg : Signs ls (L ++ [(18, (n - 3))]) (k + n) := by
                          have h := Sgn.run (ls := ls) (k := k) (n := n) (s := 18) (m := (n - 3)) (.inr (.inr (.inl ⟨rfl, by omega, by omega⟩))) (by omega) (fun j h1 h2 => HN2.out j n (by omega) h1 h2) (fun _ => by rw [← HX.out]; exact HX0.out) (fun h => by omega)
                          exact HS2.out 18 (n - 3) n h.2 h.1
                    clear e hgr
                    go_wp2_with fail
                    go_meet
                    case rel => exact ⟨L ++ [(18, (n - 3))], c', g', n, by rw [HE.out], rfl, by omega, by omega, hsg, hown, hs3, ht3⟩
                  · have hn11i : ¬ (11 : Int) ≤ n := by omega
                    have hn3i : ¬ (3 : Int) ≤ n := by omega
                    by_cases hk0 : 0 < k
                    · have hkw : IntKind.i64.wrap ((k : Int) - 1) = (k : Int) - 1 := by rw [IntKind.wrap_i64]; omega
                      have hk1 : (1 : Int) ≤ (k : Int) := by omega
                      have hkm0 : 0 ≤ (k : Int) - 1 := by omega
                      have hkmt : ((k : Int) - 1).toNat = k - 1 := by omega
                      have hkb : decide ((0 : Int) < (k : Int)) = true := decide_eq_true (by omega)
                      have hckm := (htn2.out.cell (p := ⟨g1, o1 + (k - 1), none⟩) (by show g1 < w.heap.size; rw [HH.out]; omega) (by show ¬ H + 1 ≤ g1; omega)).trans (HC1.out (k - 1) _ (nums_get (by omega)))
                      obtain ⟨y, hy⟩ : ∃ y, y = ls.getD (k - 1) 0 := ⟨_, rfl⟩
                      rw [← hy] at hckm
                      have hkml : (k : Int) - 1 < ls.length := by omega
                      have HY := Lib.hid hy
                      clear hy
                      by_cases hxy : y = x
                      · have hb1 : ((y : Int) == (x : Int)) = true := by rw [hxy]; simp
                        have HXY := Lib.hid hxy
                        clear hxy
                        as_aux_lemma =>
                          go_wp2_with fail
                          go_quiet (fail)
                          go_wp2_with fail
                          go_quiet (fail)
                          clear hkw hk1 hkm0 hkmt
                          have he : ((x : Int) : Int) = ((x : Nat) : Int) ∧ (0 : Int) = ((0 : Nat) : Int) ∧ (0 : Int) = ((bts x : Nat) : Int) := ⟨rfl, rfl, by unfold bts; rw [if_pos (by omega)]; rfl⟩
                          have HQ := Lib.hid he
                          clear he
                          go_wp2_with (at_builtin; (refine wpList_append_sign _ rfl _ _ rfl (H + 1) _ L rfl (World.ownsRow.alloc hrow2 _) _ rfl ((x : Int)) (0) (0) (three rfl) x 0 HQ.out hLl (le_alloc _ hbw) ?_))
                          intro g' c' w' hown hgr
                          have hbase := (World.ownsRow.lt hrow2 g rfl).1
                          have ht3 : Turn (fun k => H + 1 ≤ k) w w' := ht2.trans (((((Turn.refl (fun k => H + 1 ≤ k) wc).drewN _).alloc _).grown hgr (fun k hk _ => by simp [Value.ownBlock] at hk; omega)))
                          have hs3 : H + 2 ≤ w'.heap.size := by have := hgr.size; simp at this; omega
                          have e : (L ++ [(x, 0)]).length = L.length + 1 := by rw [List.length_append]; rfl
                          rw [← e] at hown
                          have HE := Lib.hid e
                          have hsg : Signs ls (L ++ [(x, 0)]) (k + 1) := by
                                have h := Sgn.one (ls := ls) (k := k) hlt (by rw [← HX.out]; omega)
                                rw [← HX.out] at h
                                exact HS2.out x 0 1 h (by unfold cnt; rw [if_pos (by omega)])
                          clear e hgr
                          go_wp2_with fail
                          go_meet
                          case rel => exact ⟨L ++ [(x, 0)], c', g', 1, by rw [HE.out], rfl, by omega, by omega, hsg, hown, hs3, ht3⟩
                      · have hb1 : ((y : Int) == (x : Int)) = false := decide_eq_false (by omega)
                        as_aux_lemma =>
                          go_wp2_with fail
                          go_quiet (fail)
                          go_wp2_with fail
                          go_quiet (fail)
                          clear hkw hk1 hkm0 hkmt
                          have he : ((x : Int) : Int) = ((x : Nat) : Int) ∧ (0 : Int) = ((0 : Nat) : Int) ∧ (0 : Int) = ((bts x : Nat) : Int) := ⟨rfl, rfl, by unfold bts; rw [if_pos (by omega)]; rfl⟩
                          have HQ := Lib.hid he
                          clear he
                          go_wp2_with (at_builtin; (refine wpList_append_sign _ rfl _ _ rfl (H + 1) _ L rfl (World.ownsRow.alloc hrow2 _) _ rfl ((x : Int)) (0) (0) (three rfl) x 0 HQ.out hLl (le_alloc _ hbw) ?_))
                          intro g' c' w' hown hgr
                          have hbase := (World.ownsRow.lt hrow2 g rfl).1
                          have ht3 : Turn (fun k => H + 1 ≤ k) w w' := ht2.trans (((((Turn.refl (fun k => H + 1 ≤ k) wc).drewN _).alloc _).grown hgr (fun k hk _ => by simp [Value.ownBlock] at hk; omega)))
                          have hs3 : H + 2 ≤ w'.heap.size := by have := hgr.size; simp at this; omega
                          have e : (L ++ [(x, 0)]).length = L.length + 1 := by rw [List.length_append]; rfl
                          rw [← e] at hown
                          have HE := Lib.hid e
                          have hsg : Signs ls (L ++ [(x, 0)]) (k + 1) := by
                                have h := Sgn.one (ls := ls) (k := k) hlt (by rw [← HX.out]; omega)
                                rw [← HX.out] at h
                                exact HS2.out x 0 1 h (by unfold cnt; rw [if_pos (by omega)])
                          clear e hgr
                          go_wp2_with fail
                          go_meet
                          case rel => exact ⟨L ++ [(x, 0)], c', g', 1, by rw [HE.out], rfl, by omega, by omega, hsg, hown, hs3, ht3⟩
                    · have hkb : decide ((0 : Int) < (k : Int)) = false := decide_eq_false (by omega)
                      as_aux_lemma =>
                        go_wp2_with fail
                        go_quiet (fail)
                        go_wp2_with fail
                        go_quiet (fail)
                        
                        have he : ((x : Int) : Int) = ((x : Nat) : Int) ∧ (0 : Int) = ((0 : Nat) : Int) ∧ (0 : Int) = ((bts x : Nat) : Int) := ⟨rfl, rfl, by unfold bts; rw [if_pos (by omega)]; rfl⟩
                        have HQ := Lib.hid he
                        clear he
                        go_wp2_with (at_builtin; (refine wpList_append_sign _ rfl _ _ rfl (H + 1) _ L rfl (World.ownsRow.alloc hrow2 _) _ rfl ((x : Int)) (0) (0) (three rfl) x 0 HQ.out hLl (le_alloc _ hbw) ?_))
                        intro g' c' w' hown hgr
                        have hbase := (World.ownsRow.lt hrow2 g rfl).1
                        have ht3 : Turn (fun k => H + 1 ≤ k) w w' := ht2.trans (((((Turn.refl (fun k => H + 1 ≤ k) wc).drewN _).alloc _).grown hgr (fun k hk _ => by simp [Value.ownBlock] at hk; omega)))
                        have hs3 : H + 2 ≤ w'.heap.size := by have := hgr.size; simp at this; omega
                        have e : (L ++ [(x, 0)]).length = L.length + 1 := by rw [List.length_append]; rfl
                        rw [← e] at hown
                        have HE := Lib.hid e
                        have hsg : Signs ls (L ++ [(x, 0)]) (k + 1) := by
                              have h := Sgn.one (ls := ls) (k := k) hlt (by rw [← HX.out]; omega)
                              rw [← HX.out] at h
                              exact HS2.out x 0 1 h (by unfold cnt; rw [if_pos (by omega)])
                        clear e hgr
                        go_wp2_with fail
                        go_meet
                        case rel => exact ⟨L ++ [(x, 0)], c', g', 1, by rw [HE.out], rfl, by omega, by omega, hsg, hown, hs3, ht3⟩
              · have hb0 : ((x : Int) == 0) = false := decide_eq_false (by omega)
                by_cases hk0 : 0 < k
                · have hkw : IntKind.i64.wrap ((k : Int) - 1) = (k : Int) - 1 := by rw [IntKind.wrap_i64]; omega
                  have hk1 : (1 : Int) ≤ (k : Int) := by omega
                  have hkm0 : 0 ≤ (k : Int) - 1 := by omega
                  have hkmt : ((k : Int) - 1).toNat = k - 1 := by omega
                  have hkb : decide ((0 : Int) < (k : Int)) = true := decide_eq_true (by omega)
                  have hckm := (htn2.out.cell (p := ⟨g1, o1 + (k - 1), none⟩) (by show g1 < w.heap.size; rw [HH.out]; omega) (by show ¬ H + 1 ≤ g1; omega)).trans (HC1.out (k - 1) _ (nums_get (by omega)))
                  obtain ⟨y, hy⟩ : ∃ y, y = ls.getD (k - 1) 0 := ⟨_, rfl⟩
                  rw [← hy] at hckm
                  have hkml : (k : Int) - 1 < ls.length := by omega
                  have HY := Lib.hid hy
                  clear hy
                  by_cases hxy : y = x
                  · have hb1 : ((y : Int) == (x : Int)) = true := by rw [hxy]; simp
                    have HXY := Lib.hid hxy
                    clear hxy
                    by_cases hn11 : 11 ≤ n
                    · by_cases hn138 : n ≤ 138
                      · as_aux_lemma =>
                        go_wp2_with fail
                        go_quiet (fail)
                        clear hkw hk1 hkm0 hkmt
                        have he : (17 : Int) = ((17 : Nat) : Int) ∧ ((n : Int) - 11 : Int) = (((n - 11) : Nat) : Int) ∧ (7 : Int) = ((bts 17 : Nat) : Int) := ⟨rfl, by omega, rfl⟩
                        have HQ := Lib.hid he
                        clear he
                        have hmin : ¬ (138 : Int) < (n : Int) := by omega
                        go_wp2_with (at_builtin; (refine wpList_append_sign _ rfl _ _ rfl (H + 1) _ L rfl (World.ownsRow.alloc hrow2 _) _ rfl (17) ((n : Int) - 11) (7) (three rfl) 17 (n - 11) HQ.out hLl (le_alloc _ hbw) ?_))
                        intro g' c' w' hown hgr
                        have hbase := (World.ownsRow.lt hrow2 g rfl).1
                        have ht3 : Turn (fun k => H + 1 ≤ k) w w' := ht2.trans (((((Turn.refl (fun k => H + 1 ≤ k) wc).drewN _).alloc _).grown hgr (fun k hk _ => by simp [Value.ownBlock] at hk; omega)))
                        have hs3 : H + 2 ≤ w'.heap.size := by have := hgr.size; simp at this; omega
                        have e : (L ++ [(17, (n - 11))]).length = L.length + 1 := by rw [List.length_append]; rfl
                        rw [← e] at hown
                        have HE := Lib.hid e
                        have hsg : Signs ls (L ++ [(17, (n - 11))]) (k + n) := by
                              have h := Sgn.run (ls := ls) (k := k) (n := n) (s := 17) (m := (n - 11)) (.inr (.inl ⟨rfl, by omega, by omega⟩)) (by omega) (fun j h1 h2 => HN2.out j n (by omega) h1 h2) (fun h => by omega) (fun _ => ⟨hk0, HY.out.symm.trans (HXY.out.trans HX.out)⟩)
                              exact HS2.out 17 (n - 11) n h.2 h.1
                        clear e hgr
                        go_wp2_with fail
                        go_meet
                        case rel => exact ⟨L ++ [(17, (n - 11))], c', g', n, by rw [HE.out], rfl, by omega, by omega, hsg, hown, hs3, ht3⟩
                      · as_aux_lemma =>
                        go_wp2_with fail
                        go_quiet (fail)
                        clear hkw hk1 hkm0 hkmt
                        have he : (17 : Int) = ((17 : Nat) : Int) ∧ (127 : Int) = ((127 : Nat) : Int) ∧ (7 : Int) = ((bts 17 : Nat) : Int) := ⟨rfl, by omega, rfl⟩
                        have HQ := Lib.hid he
                        clear he
                        have hmin : (138 : Int) < (n : Int) := by omega
                        go_wp2_with (at_builtin; (refine wpList_append_sign _ rfl _ _ rfl (H + 1) _ L rfl (World.ownsRow.alloc hrow2 _) _ rfl (17) (127) (7) (three rfl) 17 127 HQ.out hLl (le_alloc _ hbw) ?_))
                        intro g' c' w' hown hgr
                        have hbase := (World.ownsRow.lt hrow2 g rfl).1
                        have ht3 : Turn (fun k => H + 1 ≤ k) w w' := ht2.trans (((((Turn.refl (fun k => H + 1 ≤ k) wc).drewN _).alloc _).grown hgr (fun k hk _ => by simp [Value.ownBlock] at hk; omega)))
                        have hs3 : H + 2 ≤ w'.heap.size := by have := hgr.size; simp at this; omega
                        have e : (L ++ [(17, 127)]).length = L.length + 1 := by rw [List.length_append]; rfl
                        rw [← e] at hown
                        have HE := Lib.hid e
                        have hsg : Signs ls (L ++ [(17, 127)]) (k + 138) := by
                              have h := Sgn.run (ls := ls) (k := k) (n := 138) (s := 17) (m := 127) (.inr (.inl ⟨rfl, by omega, by omega⟩)) (by omega) (fun j h1 h2 => HN2.out j 138 (by omega) h1 h2) (fun h => by omega) (fun _ => ⟨hk0, HY.out.symm.trans (HXY.out.trans HX.out)⟩)
                              exact HS2.out 17 127 138 h.2 h.1
                        clear e hgr
                        go_wp2_with fail
                        go_meet
                        case rel => exact ⟨L ++ [(17, 127)], c', g', 138, by rw [HE.out], rfl, by omega, by omega, hsg, hown, hs3, ht3⟩
                    · by_cases hn3 : 3 ≤ n
                      · as_aux_lemma =>
                        have hn10 : n ≤ 10 := by omega
                        go_wp2_with fail
                        go_quiet (fail)
                        go_wp2_with fail
                        go_quiet (fail)
                        clear hkw hk1 hkm0 hkmt
                        have he : (16 : Int) = ((16 : Nat) : Int) ∧ ((n : Int) - 3 : Int) = (((n - 3) : Nat) : Int) ∧ (3 : Int) = ((bts 16 : Nat) : Int) := ⟨rfl, by omega, rfl⟩
                        have HQ := Lib.hid he
                        clear he
                        have hmin : ¬ (10 : Int) < (n : Int) := by omega
                        go_wp2_with (at_builtin; (refine wpList_append_sign _ rfl _ _ rfl (H + 1) _ L rfl (World.ownsRow.alloc hrow2 _) _ rfl (16) ((n : Int) - 3) (3) (three rfl) 16 (n - 3) HQ.out hLl (le_alloc _ hbw) ?_))
                        intro g' c' w' hown hgr
                        have hbase := (World.ownsRow.lt hrow2 g rfl).1
                        have ht3 : Turn (fun k => H + 1 ≤ k) w w' := ht2.trans (((((Turn.refl (fun k => H + 1 ≤ k) wc).drewN _).alloc _).grown hgr (fun k hk _ => by simp [Value.ownBlock] at hk; omega)))
                        have hs3 : H + 2 ≤ w'.heap.size := by have := hgr.size; simp at this; omega
                        have e : (L ++ [(16, (n - 3))]).length = L.length + 1 := by rw [List.length_append]; rfl
                        rw [← e] at hown
                        have HE := Lib.hid e
                        have hsg : Signs ls (L ++ [(16, (n - 3))]) (k + n) := by
                              have h := Sgn.run (ls := ls) (k := k) (n := n) (s := 16) (m := (n - 3)) (.inl ⟨rfl, by omega, by omega⟩) (by omega) (fun j h1 h2 => HN2.out j n (by omega) h1 h2) (fun h => by omega) (fun _ => ⟨hk0, HY.out.symm.trans (HXY.out.trans HX.out)⟩)
                              exact HS2.out 16 (n - 3) n h.2 h.1
                        clear e hgr
                        go_wp2_with fail
                        go_meet
                        case rel => exact ⟨L ++ [(16, (n - 3))], c', g', n, by rw [HE.out], rfl, by omega, by omega, hsg, hown, hs3, ht3⟩
                      · as_aux_lemma =>
                        go_wp2_with fail
                        go_quiet (fail)
                        go_wp2_with fail
                        go_quiet (fail)
                        clear hkw hk1 hkm0 hkmt
                        have he : ((x : Int) : Int) = ((x : Nat) : Int) ∧ (0 : Int) = ((0 : Nat) : Int) ∧ (0 : Int) = ((bts x : Nat) : Int) := ⟨rfl, rfl, by unfold bts; rw [if_pos (by omega)]; rfl⟩
                        have HQ := Lib.hid he
                        clear he
                        go_wp2_with (at_builtin; (refine wpList_append_sign _ rfl _ _ rfl (H + 1) _ L rfl (World.ownsRow.alloc hrow2 _) _ rfl ((x : Int)) (0) (0) (three rfl) x 0 HQ.out hLl (le_alloc _ hbw) ?_))
                        intro g' c' w' hown hgr
                        have hbase := (World.ownsRow.lt hrow2 g rfl).1
                        have ht3 : Turn (fun k => H + 1 ≤ k) w w' := ht2.trans (((((Turn.refl (fun k => H + 1 ≤ k) wc).drewN _).alloc _).grown hgr (fun k hk _ => by simp [Value.ownBlock] at hk; omega)))
                        have hs3 : H + 2 ≤ w'.heap.size := by have := hgr.size; simp at this; omega
                        have e : (L ++ [(x, 0)]).length = L.length + 1 := by rw [List.length_append]; rfl
                        rw [← e] at hown
                        have HE := Lib.hid e
                        have hsg : Signs ls (L ++ [(x, 0)]) (k + 1) := by
                              have h := Sgn.one (ls := ls) (k := k) hlt (by rw [← HX.out]; omega)
                              rw [← HX.out] at h
                              exact HS2.out x 0 1 h (by unfold cnt; rw [if_pos (by omega)])
                        clear e hgr
                        go_wp2_with fail
                        go_meet
                        case rel => exact ⟨L ++ [(x, 0)], c', g', 1, by rw [HE.out], rfl, by omega, by omega, hsg, hown, hs3, ht3⟩
                  · have hb1 : ((y : Int) == (x : Int)) = false := decide_eq_false (by omega)
                    as_aux_lemma =>
                      go_wp2_with fail
                      go_quiet (fail)
                      go_wp2_with fail
                      go_quiet (fail)
                      clear hkw hk1 hkm0 hkmt
                      have he : ((x : Int) : Int) = ((x : Nat) : Int) ∧ (0 : Int) = ((0 : Nat) : Int) ∧ (0 : Int) = ((bts x : Nat) : Int) := ⟨rfl, rfl, by unfold bts; rw [if_pos (by omega)]; rfl⟩
                      have HQ := Lib.hid he
                      clear he
                      go_wp2_with (at_builtin; (refine wpList_append_sign _ rfl _ _ rfl (H + 1) _ L rfl (World.ownsRow.alloc hrow2 _) _ rfl ((x : Int)) (0) (0) (three rfl) x 0 HQ.out hLl (le_alloc _ hbw) ?_))
                      intro g' c' w' hown hgr
                      have hbase := (World.ownsRow.lt hrow2 g rfl).1
                      have ht3 : Turn (fun k => H + 1 ≤ k) w w' := ht2.trans (((((Turn.refl (fun k => H + 1 ≤ k) wc).drewN _).alloc _).grown hgr (fun k hk _ => by simp [Value.ownBlock] at hk; omega)))
                      have hs3 : H + 2 ≤ w'.heap.size := by have := hgr.size; simp at this; omega
                      have e : (L ++ [(x, 0)]).length = L.length + 1 := by rw [List.length_append]; rfl
                      rw [← e] at hown
                      have HE := Lib.hid e
                      have hsg : Signs ls (L ++ [(x, 0)]) (k + 1) := by
                            have h := Sgn.one (ls := ls) (k := k) hlt (by rw [← HX.out]; omega)
                            rw [← HX.out] at h
                            exact HS2.out x 0 1 h (by unfold cnt; rw [if_pos (by omega)])
                      clear e hgr
                      go_wp2_with fail
                      go_meet
                      case rel => exact ⟨L ++ [(x, 0)], c', g', 1, by rw [HE.out], rfl, by omega, by omega, hsg, hown, hs3, ht3⟩
                · have hkb : decide ((0 : Int) < (k : Int)) = false := decide_eq_false (by omega)
                  as_aux_lemma =>
                    go_wp2_with fail
                    go_quiet (fail)
                    go_wp2_with fail
                    go_quiet (fail)
                    
                    have he : ((x : Int) : Int) = ((x : Nat) : Int) ∧ (0 : Int) = ((0 : Nat) : Int) ∧ (0 : Int) = ((bts x : Nat) : Int) := ⟨rfl, rfl, by unfold bts; rw [if_pos (by omega)]; rfl⟩
                    have HQ := Lib.hid he
                    clear he
                    go_wp2_with (at_builtin; (refine wpList_append_sign _ rfl _ _ rfl (H + 1) _ L rfl (World.ownsRow.alloc hrow2 _) _ rfl ((x : Int)) (0) (0) (three rfl) x 0 HQ.out hLl (le_alloc _ hbw) ?_))
                    intro g' c' w' hown hgr
                    have hbase := (World.ownsRow.lt hrow2 g rfl).1
                    have ht3 : Turn (fun k => H + 1 ≤ k) w w' := ht2.trans (((((Turn.refl (fun k => H + 1 ≤ k) wc).drewN _).alloc _).grown hgr (fun k hk _ => by simp [Value.ownBlock] at hk; omega)))
                    have hs3 : H + 2 ≤ w'.heap.size := by have := hgr.size; simp at this; omega
                    have e : (L ++ [(x, 0)]).length = L.length + 1 := by rw [List.length_append]; rfl
                    rw [← e] at hown
                    have HE := Lib.hid e
                    have hsg : Signs ls (L ++ [(x, 0)]) (k + 1) := by
                          have h := Sgn.one (ls := ls) (k := k) hlt (by rw [← HX.out]; omega)
                          rw [← HX.out] at h
                          exact HS2.out x 0 1 h (by unfold cnt; rw [if_pos (by omega)])
                    clear e hgr
                    go_wp2_with fail
                    go_meet
                    case rel => exact ⟨L ++ [(x, 0)], c', g', 1, by rw [HE.out], rfl, by omega, by omega, hsg, hown, hs3, ht3⟩
          case rest =>
            obtain ⟨L2, c2, g2, n2, rfl, rfl, hn3, hn4, HS3, hrow3, hsz3, ht3⟩ := hcut
            go_wp2
            go_roundw
            case rel => first | exact ⟨L2, k + n2, c2, g2, rfl, by go_num, by omega, HS3, hrow3, hsz3, ht3⟩ | ((repeat apply Exists.intro); refine ⟨?_, rfl⟩; exact ⟨L2, k + n2, c2, g2, rfl, by go_num, by omega, HS3, hrow3, hsz3, ht3⟩)
            case measure => simp [intOf]; omega
      · obtain rfl : k = ls.length := by omega
        go_wp2
        go_meet
        case rel => exact ⟨L, c, g, rfl, HS, hrow, hsz, ht⟩
  case rest =>
    obtain ⟨L, c, g, rfl, HSG, hrow, hsz, ht⟩ := hcut
    clear hl0' hs1 ht1 hS0
    obtain ⟨i4, hi4, hz40, hz41, hz42⟩ := info_parts infoT
    obtain ⟨M, hM⟩ : ∃ M, wc.heap.size = M := ⟨_, rfl⟩
    have hmk := run_zeros (P := Tryd.prog) 26 4 i4 (.bool false) 1 Tryd.underlying26 hi4 hz40 hz41 hz42 (by omega) rfl 20 (by omega)
    have hmk' : ∀ w, (Instr.makeSlice 26 (.int .i64 20) (.int .i64 20)).run Tryd.prog w = .ok (.slice (some ⟨w.heap.size, 0, none⟩) 20 20) (w.alloc (.cells (zeros (.bool false) 20) 4)) := hmk
    have hm0 := marks_new wc 4 20 (by omega)
    rw [hM] at hm0
    have hs2 : M + 1 ≤ (wc.alloc (.cells (zeros (.bool false) 20) 4)).heap.size := by rw [← hM]; simp
    have ht2 : Turn (fun k => M ≤ k) wc (wc.alloc (.cells (zeros (.bool false) 20) 4)) := (Turn.refl _ _).alloc _
    have hLl : L.length ≤ 430 := by have := HSG.out.len; omega
    have hgM : g < M := by rw [← hM]; exact (World.ownsRow.lt hrow g rfl).2
    have hgH : H + 1 ≤ g := (World.ownsRow.lt hrow g rfl).1
    have hcc : ∀ i, i < L.length → wc.cell? ⟨g, i * 3, none⟩ = some (.int .i64 (gs L i : Nat)) ∧ wc.cell? ⟨g, i * 3 + 1, none⟩ = some (.int .i64 (gm L i : Nat)) ∧ wc.cell? ⟨g, i * 3 + 2, none⟩ = some (.int .i64 (bts (gs L i) : Nat)) := fun i hi => by
      obtain ⟨h1, h2, h3⟩ := sc_get L i hi
      exact ⟨(World.ownsRow.cellAt hrow _ (by omega)).trans h1, (World.ownsRow.cellAt hrow _ (by omega)).trans h2, (World.ownsRow.cellAt hrow _ (by omega)).trans h3⟩
    have HCC := Lib.hid hcc
    go_wp2
    have HM := Lib.hid hM
    clear hM hcc hmk hmk'
    generalize (wc.alloc (.cells (zeros (.bool false) 20) 4)) = w2 at hm0 hs2 ht2 ⊢
    go_loopw [11, 160] (fun _ vj wr => ∃ (j : Nat) (us : List Bool), vj = .int .i64 (j : Int) ∧ j ≤ L.length ∧ us.length = 20 ∧ Hid (∀ i, i < j → us.getD (gs L i) false = true) ∧ Marks wr M 4 M 20 us ∧ M + 1 ≤ wr.heap.size ∧ Turn (fun k => M ≤ k) wc wr) (fun _ vj _ => L.length - (intOf vj).toNat)
    case atStart => exact ⟨0, List.replicate 20 false, rfl, by omega, by simp, fun i h => by omega, hm0, hs2, ht2⟩
    case round =>
      obtain ⟨j, us, rfl, hj, hus, HU, hm, hsz2, htm⟩ := hrel
      rename World => wl
      by_cases hlt : j < L.length
      · obtain ⟨c0, c1, c2⟩ := HCC.out j hlt
        have k0 := (htm.cell (p := ⟨g, j * 3, none⟩) (by show g < wc.heap.size; rw [HM.out]; omega) (by show ¬ M ≤ g; omega)).trans c0
        have k1 := (htm.cell (p := ⟨g, j * 3 + 1, none⟩) (by show g < wc.heap.size; rw [HM.out]; omega) (by show ¬ M ≤ g; omega)).trans c1
        have k2 := (htm.cell (p := ⟨g, j * 3 + 2, none⟩) (by show g < wc.heap.size; rw [HM.out]; omega) (by show ¬ M ≤ g; omega)).trans c2
        obtain ⟨s, hs⟩ : ∃ s, s = gs L j := ⟨_, rfl⟩
        obtain ⟨mm, hmm⟩ : ∃ mm, mm = gm L j := ⟨_, rfl⟩
        obtain ⟨bb, hbb⟩ : ∃ bb, bb = bts (gs L j) := ⟨_, rfl⟩
        rw [← hs] at k0
        rw [← hmm] at k1
        rw [← hbb] at k2
        have hs20 : s < 20 := by rw [hs]; exact (HSG.out.all j hlt).s20
        have HSS := Lib.hid hs
        have hm2 : Marks (wl.alloc (.cells #[.int .i64 (s : Nat), .int .i64 (mm : Nat), .int .i64 (bb : Nat)] 62)) M 4 M 20 us := World.ownsRow.alloc hm _
        have hfr := hm2.frozen s
        have hcy := hm2.cell (j := s) (by omega)
        clear c0 c1 c2 hs hmm hbb
        go_wp2
        refine ⟨⟨j + 1, us.set s true, by go_num, by omega, by simpa using hus, ?_, hm2.set s true, by simp; omega, (htm.alloc _).setCell (by show M ≤ M; omega) _⟩, by simp [intOf]; omega⟩
        intro i hi
        by_cases e : gs L i = s
        · rw [e, Len.getD_set_same _ _ _ _ (by omega)]
        · rw [Len.getD_set_other _ _ _ _ _ (fun h => e h.symm)]
          exact HU.out i (Nat.lt_of_le_of_ne (by omega) (fun h => e (by rw [h, HSS.out])))
      · obtain rfl : j = L.length := by omega
        have hru := hm.rd
        rw [hus] at hru
        have hus' := Lib.hid hus
        clear hus
        go_upto_block 7 with (go_at_call 5; refine (len_any _ us 20 0 wl.heap.size wl hru (Nat.le_refl _) hus'.out (by omega) (by omega) (by omega)).mono ?_; rintro e w3 ⟨sh, m, rfl, hm20, hgood, hsh, hb3⟩; obtain ⟨C, hC⟩ : ∃ C, wl.heap.size = C := ⟨_, rfl⟩; rw [hC] at hsh hb3 ⊢)
        have hm4 : m ≤ 4 := Decidable.byContradiction fun h => by
          have : 2 ^ 5 ≤ 2 ^ m := Nat.pow_le_pow_right (by omega) (by omega)
          omega
        have hfull : Full sh := full_of (ways := 0) hgood (by omega) hm20 (by omega)
        have hlow : ∀ i, sh.getD i 0 ≤ 5 := fun i => by have := hgood.most i; omega
        have hpos : ∀ i, i < L.length → 0 < sh.getD (gs L i) 0 := fun i hi => hgood.used _ (HSG.out.all i hi).s20 (HU.out i hi)
        have hlen := hgood.len
        have hMC : M < C := by omega
        have ht3 : Turn (fun k => M ≤ k) wc w3 := htm.trans ((Turn.of_below hb3).mono (fun k _ h => by have h : C ≤ k := h; omega))
        have hst3 : St w3 H 44 H [.slice none 0 0, .int .i64 0] := (hst.turn ht (by omega)).turn ht3 (by omega)
        obtain ⟨P, hP⟩ : ∃ P, P = w3.heap.size := ⟨_, rfl⟩
        have hCP : C < P := by rw [hP]; exact hsh.lt
        have hwr0 : Hid (Wr (fun k => k = H ∨ P ≤ k) w3 H H [] 0) := ⟨.slice none 0 0, hst3, by simpa [nums] using World.ownsRow_nil w3 H 5 1, by simp [Value.ownBlock], .inl rfl, by simp [Value.ownBlock], Bits.nil⟩
        have HFU := Lib.hid hfull
        have HLO := Lib.hid hlow
        have HPO := Lib.hid hpos
        have HLN := Lib.hid hlen
        have HP := Lib.hid hP
        have ht4 : Turn (fun k => H + 1 ≤ k) w w3 := ht.trans (ht3.mono (fun k _ h => by have h : M ≤ k := h; omega))
        have hcs : ∀ i, i < 20 → w3.cell? ⟨C, i, none⟩ = some (.int .i64 ((sh.getD i 0 : Nat) : Int)) := fun i hi => hsh.cell (by omega)
        have hc3 : ∀ i, i < L.length → w3.cell? ⟨g, i * 3, none⟩ = some (.int .i64 (gs L i : Nat)) ∧ w3.cell? ⟨g, i * 3 + 1, none⟩ = some (.int .i64 (gm L i : Nat)) ∧ w3.cell? ⟨g, i * 3 + 2, none⟩ = some (.int .i64 (bts (gs L i) : Nat)) := fun i hi => by
          obtain ⟨c0, c1, c2⟩ := HCC.out i hi
          have hg3 : g < wc.heap.size := by rw [HM.out]; exact hgM
          exact ⟨(ht3.cell (p := ⟨g, i * 3, none⟩) hg3 (by show ¬ M ≤ g; omega)).trans c0, (ht3.cell (p := ⟨g, i * 3 + 1, none⟩) hg3 (by show ¬ M ≤ g; omega)).trans c1, (ht3.cell (p := ⟨g, i * 3 + 2, none⟩) hg3 (by show ¬ M ≤ g; omega)).trans c2⟩
        have HCS := Lib.hid hcs
        have HC3 := Lib.hid hc3
        clear hm hsz2 htm hru hus' hgood hm20 hm4 hfull hlow hpos hlen hb3 ht3 hst3 hP hC hcs hc3 hm0 hs2 ht2 ht hst hrow hsz
        go_cut [] from 171 (fun wd => ∃ (out : List Nat) (q : Nat), Hid (Wr (fun k => k = H ∨ P ≤ k) wd H H out q) ∧ Hid (Path (HS sh out) 0 0 20 q) ∧ q ≤ 160 ∧ Turn (fun k => k = H ∨ P ≤ k) w3 wd)
        case first =>
          go_wp2
          go_loopw [13, 14] (fun vk _ wr => ∃ (k p : Nat) (out : List Nat), vk = .int .i64 (k : Int) ∧ k ≤ 20 ∧ p ≤ 8 * k ∧ Hid (Wr (fun k => k = H ∨ P ≤ k) wr H H out p) ∧ Hid (Path (HS sh out) 0 0 k p) ∧ Turn (fun k => k = H ∨ P ≤ k) w3 wr) (fun vk _ _ => 20 - (intOf vk).toNat)
          case atStart => exact ⟨0, 0, [], rfl, by omega, by omega, hwr0, .nil 0 0, Turn.refl _ _⟩
          case round =>
            obtain ⟨k, p, out, rfl, hk, hp, HW, HPA, htr⟩ := hrel
            rename World => wy
            by_cases hlt : k < 20
            · go_upto_block 9 with (fail)
              go_cut [14] from 171 to 221 (fun v14 wz => wz = wy ∧ ∃ n : Nat, v14 = .int .i64 (n : Int) ∧ k + n ≤ 20 ∧ Hid (∀ j, k ≤ j → j < k + n → sh.getD j 0 = 0))
              case first =>
                go_wp2
                go_loop [14] (fun v14 => ∃ n : Nat, v14 = .int .i64 (n : Int) ∧ k + n ≤ 20 ∧ Hid (∀ j, k ≤ j → j < k + n → sh.getD j 0 = 0)) (fun v14 => 20 - (intOf v14).toNat)
                case atStart => exact ⟨0, rfl, by omega, fun j h1 h2 => by omega⟩
                case round =>
                  obtain ⟨n, rfl, hn, HZ⟩ := hrel
                  by_cases hkn : k + n < 20
                  · have hc := (htr.cell (p := ⟨C, k + n, none⟩) (by show C < w3.heap.size; rw [← HP.out]; exact hCP) (by show ¬ (C = H ∨ P ≤ C); omega)).trans (HCS.out (k + n) hkn)
                    obtain ⟨x, hx⟩ : ∃ x, x = sh.getD (k + n) 0 := ⟨_, rfl⟩
                    rw [← hx] at hc
                    have hkni : (k : Int) + (n : Int) < 20 := by omega
                    have HX := Lib.hid hx
                    clear hx
                    by_cases hx0 : x = 0
                    · have hb : ((x : Int) == 0) = true := by rw [hx0]; rfl
                      have HX0 := Lib.hid hx0
                      clear hx0
                      go_wp2
                      go_round
                      case rel =>
                        refine ⟨n + 1, by go_num, by omega, ?_⟩
                        intro j h1 h2
                        by_cases e : j = k + n
                        · rw [e, ← HX.out]; exact HX0.out
                        · exact HZ.out j h1 (by omega)
                      case measure => simp [intOf]; omega
                    · have hb : ((x : Int) == 0) = false := decide_eq_false (by omega)
                      go_wp2
                      go_meet
                      case rel => exact ⟨rfl, n, rfl, hn, HZ⟩
                  · have hkni : decide ((k : Int) + (n : Int) < 20) = false := decide_eq_false (by omega)
                    go_wp2
                    go_meet
                    case rel => exact ⟨rfl, n, rfl, hn, HZ⟩
              case rest =>
                obtain ⟨rfl, n, rfl, hn, HZ⟩ := hcut
                by_cases h3 : 3 ≤ n
                · by_cases h17 : n ≤ 17
                  · as_aux_lemma =>
                      have hmin : ¬ (17 : Int) < (n : Int) := by omega
                      have hW1 := word_any (fun k => k = H ∨ P ≤ k) H H 15 4 p out wc HW.out (fun k hk => .inr (by have := htr.size; have := HP.out; have hk : wc.heap.size ≤ k := hk; omega)) (by omega) (by decide) (by omega)
                      rw [show ((15 : Nat) : Int) = 15 from rfl, show ((4 : Nat) : Int) = 4 from rfl] at hW1
                      go_wp2_with (go_at_call 17; (with_reducible refine hW1.mono ?_); rintro e w5 ⟨out5, rfl, hwr5, hold5, hwin5, ht5⟩)
                      have htr5 := htr.trans ht5
                      have hW2 := word_any (fun k => k = H ∨ P ≤ k) H H (n - 2) 4 (p + 4) out5 w5 hwr5 (fun k hk => .inr (by have := htr5.size; have := HP.out; have hk : w5.heap.size ≤ k := hk; omega)) (by omega) (by show _ < 16; omega) (by omega)
                      rw [show ((n - 2 : Nat) : Int) = (n : Int) - 2 by omega, show ((4 : Nat) : Int) = 4 from rfl] at hW2
                      clear hW1 ht5
                      go_wp2_with (go_at_call 17; (with_reducible refine hW2.mono ?_); rintro e w6 ⟨out6, rfl, hwr6, hold6, hwin6, ht6⟩)
                      have hold : ∀ q, q < p → bitAt out6 q = bitAt out q := fun q hq => (hold6 q (by omega)).trans (hold5 q hq)
                      have hpa : Path (HS sh out6) 0 0 (k + n) (p + 4 + 4) :=
                        (head_keep HPA.out hold (Nat.le_refl _)).snoc (.inr ⟨n, by omega, by omega, rfl, by omega, rfl, by rw [win_keep hold6 (by omega)]; exact hwin5, hwin6, fun j h1 h2 => HZ.out j h1 (by omega)⟩)
                      have htr6 := htr5.trans ht6
                      have HPA6 := Lib.hid hpa
                      have HWR6 := Lib.hid hwr6
                      clear hW2 ht6 hpa hwr6 hwr5 hold hold5 hold6 hwin5 hwin6
                      go_wp2
                      go_roundw
                      case rel => first | exact ⟨k + n, p + 4 + 4, out6, by go_num, by omega, by omega, HWR6, HPA6, htr6⟩ | ((repeat apply Exists.intro); refine ⟨?_, rfl⟩; exact ⟨k + n, p + 4 + 4, out6, by go_num, by omega, by omega, HWR6, HPA6, htr6⟩)
                      case measure => simp [intOf]; omega
                  · as_aux_lemma =>
                      have hmin : (17 : Int) < (n : Int) := by omega
                      have hW1 := word_any (fun k => k = H ∨ P ≤ k) H H 15 4 p out wc HW.out (fun k hk => .inr (by have := htr.size; have := HP.out; have hk : wc.heap.size ≤ k := hk; omega)) (by omega) (by decide) (by omega)
                      rw [show ((15 : Nat) : Int) = 15 from rfl, show ((4 : Nat) : Int) = 4 from rfl] at hW1
                      go_wp2_with (go_at_call 17; (with_reducible refine hW1.mono ?_); rintro e w5 ⟨out5, rfl, hwr5, hold5, hwin5, ht5⟩)
                      have htr5 := htr.trans ht5
                      have hW2 := word_any (fun k => k = H ∨ P ≤ k) H H (17 - 2) 4 (p + 4) out5 w5 hwr5 (fun k hk => .inr (by have := htr5.size; have := HP.out; have hk : w5.heap.size ≤ k := hk; omega)) (by omega) (by show _ < 16; omega) (by omega)
                      rw [show ((17 - 2 : Nat) : Int) = 15 by omega, show ((4 : Nat) : Int) = 4 from rfl] at hW2
                      clear hW1 ht5
                      go_wp2_with (go_at_call 17; (with_reducible refine hW2.mono ?_); rintro e w6 ⟨out6, rfl, hwr6, hold6, hwin6, ht6⟩)
                      have hold : ∀ q, q < p → bitAt out6 q = bitAt out q := fun q hq => (hold6 q (by omega)).trans (hold5 q hq)
                      have hpa : Path (HS sh out6) 0 0 (k + 17) (p + 4 + 4) :=
                        (head_keep HPA.out hold (Nat.le_refl _)).snoc (.inr ⟨17, by omega, by omega, rfl, by omega, rfl, by rw [win_keep hold6 (by omega)]; exact hwin5, hwin6, fun j h1 h2 => HZ.out j h1 (by omega)⟩)
                      have htr6 := htr5.trans ht6
                      have HPA6 := Lib.hid hpa
                      have HWR6 := Lib.hid hwr6
                      clear hW2 ht6 hpa hwr6 hwr5 hold hold5 hold6 hwin5 hwin6
                      go_wp2
                      go_roundw
                      case rel => first | exact ⟨k + 17, p + 4 + 4, out6, by go_num, by omega, by omega, HWR6, HPA6, htr6⟩ | ((repeat apply Exists.intro); refine ⟨?_, rfl⟩; exact ⟨k + 17, p + 4 + 4, out6, by go_num, by omega, by omega, HWR6, HPA6, htr6⟩)
                      case measure => simp [intOf]; omega
                · have h3i : ¬ (3 : Int) ≤ (n : Int) := by omega
                  have hc := (htr.cell (p := ⟨C, k, none⟩) (by show C < w3.heap.size; rw [← HP.out]; exact hCP) (by show ¬ (C = H ∨ P ≤ C); omega)).trans (HCS.out k hlt)
                  obtain ⟨x, hx⟩ : ∃ x, x = sh.getD k 0 := ⟨_, rfl⟩
                  rw [← hx] at hc
                  have hx5 : x ≤ 5 := by rw [hx]; exact HLO.out k
                  have hx15 : ((x : Int) == 15) = false := decide_eq_false (by omega)
                  have HX := Lib.hid hx
                  clear hx
                  have hW1 := word_any (fun k => k = H ∨ P ≤ k) H H x 4 p out wc HW.out (fun k hk => .inr (by have := htr.size; have := HP.out; have hk : wc.heap.size ≤ k := hk; omega)) (by omega) (by show _ < 16; omega) (by omega)
                  rw [show ((4 : Nat) : Int) = 4 from rfl] at hW1
                  go_wp2_with (go_at_call 17; (with_reducible refine hW1.mono ?_); rintro e w5 ⟨out5, rfl, hwr5, hold5, hwin5, ht5⟩)
                  have htr5 := htr.trans ht5
                  have hpa : Path (HS sh out5) 0 0 (k + 1) (p + 4) :=
                    (head_keep HPA.out hold5 (Nat.le_refl _)).snoc (.inl ⟨hlt, rfl, rfl, by rw [hwin5]; exact HX.out, HLO.out k⟩)
                  have HPA5 := Lib.hid hpa
                  have HWR5 := Lib.hid hwr5
                  clear hW1 ht5 hpa hwr5 hold5 hwin5
                  go_roundw
                  case rel => first | exact ⟨k + 1, p + 4, out5, by go_num, by omega, by omega, HWR5, HPA5, htr5⟩ | ((repeat apply Exists.intro); refine ⟨?_, rfl⟩; exact ⟨k + 1, p + 4, out5, by go_num, by omega, by omega, HWR5, HPA5, htr5⟩)
                  case measure => simp [intOf]; omega
            · obtain rfl : k = 20 := by omega
              go_wp2
              go_meet
              case rel => exact ⟨out, p, HW, HPA, by omega, htr⟩
        case rest =>
          obtain ⟨out, q, HW, HPA, hq, htr⟩ := hcut
          rename World => wx
          obtain ⟨D, hD⟩ : ∃ D, wx.heap.size = D := ⟨_, rfl⟩
          have hPD : P ≤ D := by have := htr.size; have := HP.out; omega
          have hshx := (hsh.turn htr (by omega : ¬ (C = H ∨ P ≤ C))).rd
          rw [HLN.out, hD] at hshx
          have HFU2 := HFU.out
          have hCo := codes_any (.slice (some ⟨C, 0, none⟩) 20 20) sh D wx hshx (by rw [hD]; exact Nat.le_refl _) (by rw [HLN.out]; omega) (by rw [HLN.out]; omega) HFU2
          rw [HLN.out, hD] at hCo
          clear hshx HFU2
          go_wp2_with (go_at_call 16; (with_reducible refine hCo.mono ?_); rintro e wd ⟨cs, rfl, hT, hcrow, hbd⟩)
          have htd : Turn (fun k => D ≤ k) wx wd := Turn.of_below hbd
          obtain ⟨vs, hstw, hownw, hvg, hSg, hvS, hbits⟩ := HW.out
          have hstd : St wd H 44 H [vs, .int .i64 (q : Int)] := hstw.turn htd (by omega)
          have hownd := own_turn hownw htd (fun k hk => by have := (World.ownsRow.lt hownw k hk).2; omega)
          have hDd : D < wd.heap.size := hcrow.lt
          have hvD : ∀ k, vs.ownBlock = some k → P ≤ k ∧ k ≠ D := fun k hk => by
            have h1 := (World.ownsRow.lt hownw k hk).2
            have h2 := hvS k hk
            have h3 : k ≠ H := fun e => hvg (by rw [← e]; exact hk)
            omega
          have hcd : ∀ s, s < 20 → wd.cell? ⟨D, s, none⟩ = some (.int .i64 ((cs.getD s 0 : Nat) : Int)) := fun s hs => by
            have hcl := hT.len
            rw [HLN.out] at hcl
            have h := hcrow.cell (j := s) (by rw [hcl]; exact hs)
            exact h
          have HCD := Lib.hid hcd
          have HT := Lib.hid hT
          have HD := Lib.hid hD
          have hwv : Hid (Wv wd H vs out q) := ⟨hstd, hownd, hvg, hbits⟩
          have hp0 : Hid (Path (BS ls sh out) 0 q (kof (L.take 0)) q) := .nil 0 q
          clear hcd hT hD hCo hstw hownw hvg hSg hvS hbits hstd hownd hcrow
          go_loopw [17, 226] (fun _ vj wr => ∃ (j p : Nat) (out : List Nat) (vs : Value), vj = .int .i64 (j : Int) ∧ j ≤ L.length ∧ p ≤ 160 + 12 * j ∧ q ≤ p ∧ Hid (Wv wr H vs out p) ∧ Hid (∀ k, vs.ownBlock = some k → P ≤ k ∧ k ≠ D) ∧ Hid (Path (HS sh out) 0 0 20 q) ∧ Hid (Path (BS ls sh out) 0 q (kof (L.take j)) p) ∧ D < wr.heap.size ∧ Turn (fun k => k = H ∨ (P ≤ k ∧ k ≠ D)) wd wr)
            (fun _ vj _ => L.length - (intOf vj).toNat)
          case atStart => exact ⟨0, q, out, vs, rfl, by omega, by omega, by omega, hwv, hvD, HPA, hp0, hDd, Turn.refl _ _⟩
          case round =>
            obtain ⟨j, p, out, vs, rfl, hj, hp, hqp, HWV, HVD, HPH, HPB, hDs, htz⟩ := hrel
            rename World => wl
            by_cases hlt : j < L.length
            · obtain ⟨c0, c1, c2⟩ := HC3.out j hlt
              have lift : ∀ b o v, b < P → b ≠ H → w3.cell? ⟨b, o, none⟩ = some v → wl.cell? ⟨b, o, none⟩ = some v := fun b o v hb hbH hc => by
                have e1 := htr.cell (p := ⟨b, o, none⟩) (by show b < w3.heap.size; rw [← HP.out]; exact hb) (by show ¬ (b = H ∨ P ≤ b); omega)
                have e2 := htd.cell (p := ⟨b, o, none⟩) (by show b < wx.heap.size; rw [HD.out]; omega) (by show ¬ D ≤ b; omega)
                have e3 := htz.cell (p := ⟨b, o, none⟩) (by show b < wd.heap.size; omega) (by show ¬ (b = H ∨ (P ≤ b ∧ b ≠ D)); omega)
                exact e3.trans (e2.trans (e1.trans hc))
              have k0 := lift g (j * 3) _ (by omega) (by omega) c0
              have k1 := lift g (j * 3 + 1) _ (by omega) (by omega) c1
              have k2 := lift g (j * 3 + 2) _ (by omega) (by omega) c2
              have hsg := HSG.out.all j hlt
              have hs20 := hsg.s20
              have hlpos := HPO.out j hlt
              obtain ⟨s, hs⟩ : ∃ s, s = gs L j := ⟨_, rfl⟩
              obtain ⟨mm, hmm⟩ : ∃ mm, mm = gm L j := ⟨_, rfl⟩
              obtain ⟨bb, hbb⟩ : ∃ bb, bb = bts s := ⟨_, rfl⟩
              rw [← hs] at k0 k2 hs20 hlpos hsg
              rw [← hmm] at k1 hsg
              rw [← hbb] at k2
              have hbb7 : bb ≤ 7 := by rw [hbb]; exact bts_le s
              have hmlt : mm < 2 ^ bb := by rw [hbb]; exact hsg.more
              have ksh := lift C s _ (by omega) (by omega) (HCS.out s hs20)
              have kco := (htz.cell (p := ⟨D, s, none⟩) (by show D < wd.heap.size; exact hDd) (by show ¬ (D = H ∨ (P ≤ D ∧ D ≠ D)); omega)).trans (HCD.out s hs20)
              obtain ⟨l, hl⟩ : ∃ l, l = sh.getD s 0 := ⟨_, rfl⟩
              obtain ⟨cd, hcd⟩ : ∃ cd, cd = cs.getD s 0 := ⟨_, rfl⟩
              have hcode : cd = code sh s := by rw [hcd]; exact HT.out.told s (by rw [HLN.out]; exact hs20) hlpos (.inl (by have := HLO.out s; omega))
              rw [← hl] at ksh hlpos
              rw [← hcd] at kco
              have hl5 : l ≤ 5 := by rw [hl]; exact HLO.out s
              have hclt : cd < 2 ^ l := by rw [hcode, hl]; exact code_lt HFU.out (by rw [HLN.out]; exact hs20) (by rw [← hl]; exact hlpos)
              have hs20i : (s : Int) < 20 := by omega
              have HSS := Lib.hid hs
              have HMM := Lib.hid hmm
              have HBB := Lib.hid hbb
              have HL := Lib.hid hl
              have HCO := Lib.hid hcode
              have HSN := Lib.hid hsg
              obtain ⟨X, hX⟩ : ∃ X, wl.heap.size = X := ⟨_, rfl⟩
              clear lift c0 c1 c2 hs hmm hbb hl hcd hcode hsg
              go_upto_region 48 with (fail)
              have hXP : P ≤ X ∧ D < X := by omega
              have hn3 := three (w := wl) (a := .int .i64 (s : Int)) (b := .int .i64 (mm : Int)) (c := .int .i64 (bb : Int)) (e := 62) hX.symm
              have ksh2 := (World.cell?_alloc_lt wl (.cells #[.int .i64 (s : Int), .int .i64 (mm : Int), .int .i64 (bb : Int)] 62) ⟨C, s, none⟩ (by show C < wl.heap.size; omega)).trans ksh
              have kco2 := (World.cell?_alloc_lt wl (.cells #[.int .i64 (s : Int), .int .i64 (mm : Int), .int .i64 (bb : Int)] 62) ⟨D, s, none⟩ (by show D < wl.heap.size; omega)).trans kco
              have hwv2 : Wv (wl.alloc (.cells #[.int .i64 (s : Int), .int .i64 (mm : Int), .int .i64 (bb : Int)] 62)) H vs out p := HWV.out.turn ((Turn.refl (fun _ => False) wl).alloc _) (fun h => h) (fun _ _ h => h)
              have htz2 := htz.alloc (.cells #[.int .i64 (s : Int), .int .i64 (mm : Int), .int .i64 (bb : Int)] 62)
              have hszA : (wl.alloc (.cells #[.int .i64 (s : Int), .int .i64 (mm : Int), .int .i64 (bb : Int)] 62)).heap.size = X + 1 := by rw [← hX]; simp
              have hvX : ∀ k, vs.ownBlock = some k → k < X := fun k hk => by rw [← hX]; exact (World.ownsRow.lt HWV.out.2.1 k hk).2
              obtain ⟨n0, n1, n2⟩ := hn3
              clear k0 k1 k2 ksh kco htz
              generalize (wl.alloc (.cells #[.int .i64 (s : Int), .int .i64 (mm : Int), .int .i64 (bb : Int)] 62)) = wA at n0 n1 n2 ksh2 kco2 hwv2 htz2 hszA ⊢
              have hW1 := word_v H cd l p vs out wA.drew hwv2 (by omega) hclt (by omega)
              have HSA := Lib.hid hszA
              have HVX := Lib.hid hvX
              clear hX hszA hvX hwv2 HWV
              go_still_tail 11, (by kernel_rfl)
              change wpList _ _ _ _ _ wA.drew
              go_wp2_with (go_at_call 17; (with_reducible refine hW1.mono ?_); rintro e w5 ⟨out5, vs5, rfl, hwv5, hvs5, hold5, hwin5, ht5⟩; have m1 := (ht5.cell (p := ⟨X, 1, none⟩) (by show X < wA.heap.size; rw [HSA.out]; omega) (by show ¬ (X = H ∨ vs.ownBlock = some X ∨ wA.heap.size ≤ X); rw [HSA.out]; intro h; rcases h with h | h | h; (· omega); (· have := HVX.out X h; omega); (· omega))).trans n1; have m2 := (ht5.cell (p := ⟨X, 2, none⟩) (by show X < wA.heap.size; rw [HSA.out]; omega) (by show ¬ (X = H ∨ vs.ownBlock = some X ∨ wA.heap.size ≤ X); rw [HSA.out]; intro h; rcases h with h | h | h; (· omega); (· have := HVX.out X h; omega); (· omega))).trans n2)
              have hW2 := word_v H mm bb (p + l) vs5 out5 w5 hwv5 (by omega) hmlt (by omega)
              have hs5 := ht5.size
              clear hW1 m1 m2 hwv5 ksh2 kco2 n0 n1 n2
              go_wp2_with (go_at_call 17; (with_reducible refine hW2.mono ?_); rintro e w6 ⟨out6, vs6, rfl, hwv6, hvs6, hold6, hwin6, ht6⟩)
              have hA5 : X + 1 ≤ w5.heap.size := by have := HSA.out; have h : wA.heap.size ≤ w5.heap.size := hs5; omega
              have hs6 := ht6.size
              have hv5 : ∀ k, vs5.ownBlock = some k → P ≤ k ∧ k ≠ D := fun k hk => by
                rcases hvs5 k hk with h | h
                · exact HVD.out k h
                · have := HSA.out; have h : wA.heap.size ≤ k := h; omega
              have hv6 : ∀ k, vs6.ownBlock = some k → P ≤ k ∧ k ≠ D := fun k hk => by
                rcases hvs6 k hk with h | h
                · exact hv5 k h
                · omega
              have htz5 : Turn (fun k => k = H ∨ (P ≤ k ∧ k ≠ D)) wd w5 := htz2.drew.trans (ht5.mono (fun k _ h => by
                rcases h with h | h | h
                · exact .inl h
                · exact .inr (HVD.out k h)
                · have := HSA.out; have h : wA.heap.size ≤ k := h; exact .inr (by omega)))
              have htz6 : Turn (fun k => k = H ∨ (P ≤ k ∧ k ≠ D)) wd w6 := htz5.trans (ht6.mono (fun k _ h => by
                rcases h with h | h | h
                · exact .inl h
                · exact .inr (hv5 k h)
                · exact .inr (by omega)))
              have hold : ∀ x, x < p → bitAt out6 x = bitAt out x := fun x hx => (hold6 x (by omega)).trans (hold5 x hx)
              have hph : Path (HS sh out6) 0 0 20 q := head_keep HPH.out hold hqp
              have hstep : BS ls sh out6 (kof (L.take j)) p (kof (L.take j) + cnt s mm) (p + l + bb) := by
                refine ⟨s, mm, HSN.out, by rw [← HL.out]; exact hlpos, rfl, ?_, ?_, ?_⟩
                · rw [← HL.out, win_keep hold6 (Nat.le_refl _), hwin5]; exact HCO.out
                · rw [← HL.out, ← HBB.out]; exact hwin6
                · rw [← HL.out, ← HBB.out]
              have hpb : Path (BS ls sh out6) 0 q (kof (L.take (j + 1))) (p + l + bb) := by
                rw [kof_take L hlt, ← HSS.out, ← HMM.out]
                exact (body_keep HPB.out hold (Nat.le_refl _)).snoc hstep
              have HPH6 := Lib.hid hph
              have HPB6 := Lib.hid hpb
              have HWV6 := Lib.hid hwv6
              have HVD6 := Lib.hid hv6
              clear hW2 hph hpb hwv6 hv6 hv5 hvs5 hvs6 hold hold5 hold6 hwin5 hwin6 htz5 ht5 ht6 hstep htz2
              go_wp2
              go_roundw
              case rel => first | exact ⟨j + 1, p + l + bb, out6, vs6, by go_num, by omega, by omega, by omega, HWV6, HVD6, HPH6, HPB6, by omega, htz6⟩ | ((repeat apply Exists.intro); refine ⟨?_, rfl⟩; exact ⟨j + 1, p + l + bb, out6, vs6, by go_num, by omega, by omega, by omega, HWV6, HVD6, HPH6, HPB6, by omega, htz6⟩)
              case measure => simp [intOf]; omega
            · obtain rfl : j = L.length := by omega
              have hpb := HPB.out
              rw [List.take_length, HSG.out.sum] at hpb
              have htab : Table ls sh out q p := ⟨HLN.out, HFU.out, HLO.out, HPH.out, hpb⟩
              have HTAB := Lib.hid htab
              have HTT : Turn (fun k => H ≤ k) w wl := ((((ht4.mono (fun k _ h => by have h : H + 1 ≤ k := h; omega)).trans (htr.mono (fun k _ h => by rcases h with h | h <;> omega))).trans (htd.mono (fun k _ h => by have h : D ≤ k := h; omega))).trans (htz.mono (fun k _ h => by rcases h with h | h <;> omega)))
              have HTU := Lib.hid HTT
              clear hpb htab HTT htz htr htd ht4
              go_wp2
              go_end0
              obtain ⟨a1, a2, a3, a4⟩ := HWV.out
              exact ⟨out, sh, q, p, vs, rfl, a1, a2, a4, HTAB.out, by omega, HTU.out⟩
end Go.Proofs.YtoicojdnaahimaaDoor.Tab
