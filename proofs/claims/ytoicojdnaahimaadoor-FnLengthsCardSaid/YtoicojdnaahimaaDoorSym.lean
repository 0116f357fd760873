/- The walk of the decoder's reading of one symbol. -/
import Derived.Test.YtoicojdnaahimaaDoorSymPlain
import Derived.Test.YtoicojdnaahimaaDoorReader
import Derived.StillTailTactics
import Derived.BigQuiet
import Derived.Deep.QuietTactic
namespace Go.Proofs.YtoicojdnaahimaaDoor.Dec
open Go Go.RowKit Go.Proofs.YtoicojdnaahimaaDoor.Aid Go.Proofs.YtoicojdnaahimaaDoor.Base Go.Proofs.YtoicojdnaahimaaDoor.Len Go.Proofs.YtoicojdnaahimaaDoor.Cod Go.Proofs.YtoicojdnaahimaaDoor.Rdr

theorem meth_bits (g1 : Nat) (w : World) : (method 204 59 (.pointer (some ⟨g1, 0, none⟩)) "loop.example/pub-g03437/pub/rardecode.readBits").run Tryd.prog w = .ok (43, .pointer (some ⟨g1, 0, none⟩)) w := by kernel_rfl
theorem meth_unread (g1 : Nat) (w : World) : (method 204 59 (.pointer (some ⟨g1, 0, none⟩)) "loop.example/pub-g03437/pub/rardecode.unreadBits").run Tryd.prog w = .ok (44, .pointer (some ⟨g1, 0, none⟩)) w := by kernel_rfl
theorem ahead_unread (g1 : Nat) (w : World) : (nilAhead 204 59 (.pointer (some ⟨g1, 0, none⟩)) "loop.example/pub-g03437/pub/rardecode.unreadBits").run Tryd.prog w = .ok (some false) w := by kernel_rfl

set_option maxRecDepth 100000 in
set_option maxHeartbeats 1000000 in
theorem sym_any (base base' g hi g1 g2 B s p : Nat) (sl : Value) (ls d : List Nat) (w : World) (hY : Ready w base' hi g ls) (hR : Rdr w base g1 g2 sl d p 22) (hr : Rd w B sl (nums .u8 d)) (hB1 : B ≤ g1) (hB2 : B ≤ g2) (hg1 : g1 < g ∨ hi ≤ g1) (hg2 : g2 < g ∨ hi ≤ g2)
    (hl : ls.length ≤ 430) (hf : Full ls) (hs : s < ls.length) (h0 : 0 < ls.getD s 0) (hw : win d p (ls.getD s 0) = code ls s) (hpk : p + 15 ≤ 8 * d.length) (hd : d.length ≤ 4000000) (hby : ∀ j, d.getD j 0 < 256) :
    Calls Tryd.prog 23 #[.pointer (some ⟨g, 0, none⟩), .iface 59 (.pointer (some ⟨g1, 0, none⟩))] w fun e w' => e = .returned (.tuple #[.int .i64 (s : Int), .nilIface]) ∧ Rdr w' base g1 g2 sl d (p + ls.getD s 0) 22 ∧ Turn (fun b => b = g1 ∨ b = g2) w w' := by
  have hit := Hit.of hf hs h0 hw
  obtain ⟨lim, pos, cs, sy, G, mn, qb, ql, qs, hD, hsy, hgG, hGh, hL, hS, hT⟩ := hY
  obtain ⟨l, hld⟩ : ∃ l, l = ls.getD s 0 := ⟨_, rfl⟩
  obtain ⟨r, hrd⟩ : ∃ r, r = Cod.rank ls s := ⟨_, rfl⟩
  obtain ⟨V, hVd⟩ : ∃ V, V = win d p 15 := ⟨_, rfl⟩
  rw [← hld, ← hrd, ← hVd] at hit
  have hV15 : V < 32768 := by rw [hVd]; exact win_lt d p 15
  rw [← hld]
  have HV := Lib.hid hVd
  have HIT := Lib.hid hit
  have HL := Lib.hid hL
  have HS := Lib.hid hS
  have HF := Lib.hid hf
  have HBY := Lib.hid hby
  have hm1 := meth_bits g1
  have hl1 : 1 ≤ l := hit.l0
  have hl14 : l ≤ 14 := hit.l14
  have hslen : sy.length = ls.length := hS.slen
  have HSL := Lib.hid hslen
  obtain ⟨E, hqE, hq1, hq2, hQ⟩ : ∃ E, qb + E = 15 ∧ 7 ≤ qb ∧ qb ≤ 10 ∧ Quicks ls sy E (2 ^ qb) ql qs := by
    rcases hT with ⟨rfl, h⟩ | ⟨rfl, h⟩
    · exact ⟨5, rfl, by omega, by omega, h⟩
    · exact ⟨8, rfl, by omega, by omega, h⟩
  have HQ := Lib.hid hQ
  have HE := Lib.hid hqE
  have hs430 : s < 430 := by omega
  clear hVd hld hrd hit hL hS hf hby h0 hw hs hT hQ hqE hslen
  go_enter Tryd.func23, Tryd.ntmps23
  go_wp2_with (go_at_call 43; refine (bits_any base g1 g2 B 15 p 22 sl d w hR hr hB1 hB2 (by omega) (by omega) hpk hd HBY.out).mono ?_; rintro e w1 ⟨rfl, hR1, ht1⟩; rw [← HV.out])
  have hD1 := hD.turn ht1 (by omega : ¬ (g = g1 ∨ g = g2))
  have hsy1 := hsy.turn ht1 (by omega : ¬ (G = g1 ∨ G = g2))
  clear hR hD hsy
  have c34 := hD1.cQb
  have clq := hD1.cLim (j := qb) (by omega)
  obtain ⟨a, had⟩ : ∃ a, lim qb = a := ⟨_, rfl⟩
  rw [had] at clq
  have hal : a = Cod.lim ls qb := by rw [← had]; exact HL.out.lim qb (by omega)
  have hal2 : a ≤ 32768 := by rw [hal]; exact HF.out.lim_le qb (by omega)
  have HAL := Lib.hid hal
  clear had hal
  have hqi : (qb : Int) < 16 := by omega
  by_cases hva : V < a
  · go_quiet (fail)
    obtain ⟨J, hJd⟩ : ∃ J, J = V / 2 ^ E := ⟨_, rfl⟩
    have hJI : (V : Int) / 2 ^ (15 - qb) = (J : Int) := by
      rw [hJd, show 15 - qb = E by have := HE.out; omega]
      push_cast
      rfl
    have hlq : l ≤ qb := Decidable.byContradiction fun h => by
      have := HIT.out.lim_le (i := qb) (by omega)
      have := HAL.out
      omega
    have hJ2 : J < 2 ^ qb := by
      rw [hJd, Nat.div_lt_iff_lt_mul (Nat.two_pow_pos _), ← Nat.pow_add, HE.out]
      omega
    have hJ10 : J < 1024 := by
      have : 2 ^ qb ≤ 2 ^ 10 := Nat.pow_le_pow_right (by omega) hq2
      omega
    obtain ⟨hb1, hb2⟩ := HIT.out.quick HS.out (HQ.out.all J hJ2) hJd (by have := HE.out; omega)
    have cql := hD1.cQl hJ10
    have cqs := hD1.cQs hJ10
    rw [hb1] at cql
    rw [hb2] at cqs
    have cql' := cql
    have Hb1 := Lib.hid hb1
    have Hb2 := Lib.hid hb2
    have hJi : (J : Int) < 1024 := by omega
    clear hb1 hb2 hJd hJ2
    go_wp2
    have hD2 := hD1.drewN nq
    have hR2 : Rdr (w1.drewN nq) base g1 g2 sl d (p + 15) (max 7 (22 - 15)) := hR1
    have ht2 := ht1.drewN nq
    clear hD1 hR1 hsy1 ht1 c34 clq cql cqs cql'
    obtain ⟨w2, hw2⟩ : ∃ w2, w2 = w1.drewN nq := ⟨_, rfl⟩
    rw [← hw2] at hD2 hR2 ht2 ⊢
    clear hw2
    have cql := hD2.cQl hJ10
    rw [Hb1.out] at cql
    have hm2 := meth_unread g1
    have ha2 := ahead_unread g1
    go_still_tail 11, (by kernel_rfl)
    change wpList _ _ _ _ _ w2.drew
    have hR3 : Rdr w2.drew base g1 g2 sl d (p + 15) 7 := hR2
    have hU := unread_any base g1 g2 (15 - l) (p + 15) 7 sl d w2.drew hR3 (by omega) (by omega)
    rw [show ((15 - l : Nat) : Int) = 15 - (l : Int) by omega] at hU
    go_wp2_with (go_at_call 44; refine hU.mono ?_; rintro e w3 ⟨rfl, hR4, ht3⟩; have hD3 := (hD2.drew).turn ht3 (by omega : ¬ g = g1); have cqs := hD3.cQs hJ10; rw [Hb2.out] at cqs)
    go_ret2
    have e1 : p + 15 - (15 - l) = p + l := by omega
    rw [e1] at hR4
    exact ⟨rfl, hR4.more (by omega), ht2.drew.trans (ht3.mono (fun k _ h => .inl h))⟩
  · go_quiet (fail)
    have hD2 := hD1.drewN nq
    have hR2 : Rdr (w1.drewN nq) base g1 g2 sl d (p + 15) 7 := hR1
    have hsy2 := hsy1.drewN nq
    have ht2 := ht1.drewN nq
    clear hD1 hR1 hsy1 ht1 c34 clq
    obtain ⟨w2, hw2⟩ : ∃ w2, w2 = w1.drewN nq := ⟨_, rfl⟩
    rw [← hw2] at hD2 hR2 hsy2 ht2 ⊢
    clear hw2
    have c33 := hD2.cMn
    obtain ⟨hmn1, hmn2, HMN⟩ : 1 ≤ mn ∧ mn ≤ l ∧ Hid (∀ j, j < mn → Cod.lim ls j = 0) := by
      rcases HL.out.mn with ⟨_, h⟩ | ⟨h1, h2, h3⟩
      · have h14 := HF.out.lim14
        rw [h 14 (by omega)] at h14
        omega
      · refine ⟨by omega, Decidable.byContradiction fun hlt => ?_, h3⟩
        have h4 := h3 l (by omega)
        have h5 := HIT.out.lim_lt (i := l) (Nat.le_refl _)
        omega
    have hm2 := meth_unread g1
    go_wp2
    go_loop [6] (fun vb => ∃ b : Nat, vb = .int .u8 (b : Int) ∧ 1 ≤ b ∧ b ≤ l) (fun vb => 15 - (intOf vb).toNat)
    case atStart => exact ⟨mn, rfl, by omega, hmn2⟩
    case round =>
      obtain ⟨b, rfl, hb1, hbl⟩ := hrel
      have cl := hD2.cLim (j := b) (by omega)
      obtain ⟨e, hed⟩ : ∃ e, lim b = e := ⟨_, rfl⟩
      rw [hed] at cl
      have hel : e = Cod.lim ls b := by rw [← hed]; exact HL.out.lim b (by omega)
      have hel2 : e ≤ 32768 := by rw [hel]; exact HF.out.lim_le b (by omega)
      by_cases hlt : b < l
      · have hve : e ≤ V := by rw [hel]; exact HIT.out.lim_le hlt
        clear hed hel
        go_wp2
        go_round
        case rel => exact ⟨b + 1, by go_num, by omega, by omega⟩
        case measure => simp [intOf]; omega
      · obtain rfl : b = l := by omega
        have hve : V < e := by rw [hel]; exact HIT.out.lim_lt (Nat.le_refl _)
        clear hed hel
        obtain ⟨q, rfl⟩ : ∃ q, b = q + 1 := ⟨b - 1, by omega⟩
        obtain ⟨a0, ha0⟩ : ∃ a0, lim q = a0 := ⟨_, rfl⟩
        have ha0l : a0 = Cod.lim ls q := by rw [← ha0]; exact HL.out.lim q (by omega)
        obtain ⟨e0, he0⟩ : ∃ e0, pos (q + 1) = e0 := ⟨_, rfl⟩
        have he0l : e0 = ps ls (q + 1) := by rw [← he0]; exact HL.out.pos (q + 1) (by omega)
        have hlow := HIT.out.low
        rw [show q + 1 - 1 = q by omega, ← ha0l] at hlow
        have ha0V : a0 ≤ V := by omega
        have hds := HIT.out.dist (u := V) HIT.out.low (Nat.le_refl _)
        rw [show q + 1 - 1 = q by omega, show 15 - (q + 1) = 14 - q by omega, ← ha0l] at hds
        have hDI : ((V : Int) - a0) / 2 ^ (14 - q) = (r : Int) := by
          have : (V : Int) - a0 = ((V - a0 : Nat) : Int) := by omega
          rw [this, ← hds]
          push_cast
          rfl
        have hpl := HIT.out.place_lt
        rw [← he0l] at hpl
        have hplace := HIT.out.place HS.out
        rw [← he0l] at hplace
        have HPL := Lib.hid hplace
        have HA0 := Lib.hid ha0
        have HE0 := Lib.hid he0
        have hpl2 : (e0 : Int) + r < ls.length := by omega
        have hed0 : 0 ≤ (e0 : Int) + r := by omega
        have htn : ((e0 : Int) + r).toNat = e0 + r := by omega
        have hU := unread_any base g1 g2 (15 - (q + 1)) (p + 15) 7 sl d w2 hR2 (by omega) (by omega)
        rw [show ((15 - (q + 1) : Nat) : Int) = 15 - ((q : Int) + 1) by omega] at hU
        clear ha0 ha0l he0 he0l hlow hds hplace
        go_wp2_with (go_at_call 44; refine hU.mono ?_; rintro e w3 ⟨rfl, hR4, ht3⟩; have hD3 := hD2.turn ht3 (by omega : ¬ g = g1); have hsy3 := hsy2.turn ht3 (by omega : ¬ G = g1); have clq := hD3.cLim (j := q) (by omega); rw [HA0.out] at clq; have cps := hD3.cPos (j := q + 1) (by omega); rw [HE0.out] at cps; have c32 := hD3.cSym; have hsc := hsy3.cell (j := e0 + r) (by have := HSL.out; omega); rw [HPL.out] at hsc)
        go_ret2
        have e1 : p + 15 - (15 - (q + 1)) = p + (q + 1) := by omega
        rw [e1] at hR4
        exact ⟨rfl, hR4.more (by omega), ht2.trans (ht3.mono (fun k _ h => .inl h))⟩
end Go.Proofs.YtoicojdnaahimaaDoor.Dec
