/- The walk of the package's reader of bits. -/
import Derived.Test.YtoicojdnaahimaaDoorCodePlain
import Derived.Test.YtoicojdnaahimaaDoorMake
import Derived.BigQuiet
import Derived.Deep.QuietTactic
import Derived.Test.YtoicojdnaahimaaDoorWide
namespace Go.Proofs.YtoicojdnaahimaaDoor.Rdr
open Go Go.RowKit Go.Proofs.YtoicojdnaahimaaDoor.Aid Go.Proofs.YtoicojdnaahimaaDoor.Base Go.Proofs.YtoicojdnaahimaaDoor.Cod

set_option maxRecDepth 100000 in
set_option maxHeartbeats 1000000 in
theorem byte_any (base g2 B i x : Nat) (pr : Int) (sl : Value) (d : List Nat) (w : World) (hst : St w base 73 g2 [sl, .int .i64 (i : Int), .int .i64 pr]) (hr : Rd w B sl (nums .u8 d)) (hB : B ≤ g2) (hi : i < d.length) (hd : d.length ≤ 4000000) (hx : d.getD i 0 = x) :
    Calls Tryd.prog 41 #[.pointer (some ⟨g2, 0, none⟩)] w fun e w' => e = .returned (.tuple #[.int .u8 (x : Int), .nilIface]) ∧ St w' base 73 g2 [sl, .int .i64 ((i + 1 : Nat) : Int), .int .i64 (-1)] ∧ Turn (fun k => k = g2) w w' := by
  obtain ⟨A, cap, hv, hA1, hA2, hA3⟩ := hr
  rw [nums_length] at hv hA1 hA3
  subst hv
  obtain ⟨g, o, rfl, hg, hcell0⟩ := hA3 (by omega)
  have hci := hcell0 i _ (nums_get hi)
  rw [hx] at hci
  clear hx hcell0 hA3
  have c0 := hst.cell (j := 0) rfl
  have c1 := hst.cell (j := 1) rfl
  have c2 := hst.cell (j := 2) rfl
  have f0 := hst.frozen 0
  have f1 := hst.frozen 1
  have f2 := hst.frozen 2
  have hgl := hst.lt
  have hne : g ≠ g2 := by omega
  go_enter Tryd.func41, Tryd.ntmps41
  go_wp2
  go_quiet (fail)
  go_wp2
  go_quiet (fail)
  go_wp2
  go_ret2
  exact ⟨rfl, ((hst.set 2 (.int .i64 (-1))).drewN _).set 1 (.int .i64 ((i : Int) + 1)), (((Turn.refl (fun k => k = g2) _).setCell rfl _).drewN _).setCell rfl _⟩

/-- The reader at block g1 over the library's reader at block g2: p bits are read of d, at most N bits wait. -/
def Rdr (w : World) (base g1 g2 : Nat) (sl : Value) (d : List Nat) (p N : Nat) : Prop :=
  ∃ (v pr : Int) (i n : Nat), St w base 53 g1 [.iface 55 (.pointer (some ⟨g2, 0, none⟩)), .int .i64 v, .int .i64 (8 * ((d.length : Int) - i)), .int .u8 (n : Int)] ∧
    St w base 73 g2 [sl, .int .i64 (i : Int), .int .i64 pr] ∧ i ≤ d.length ∧ 8 * i = p + n ∧ n ≤ N ∧ v % 4294967296 = ((win d 0 (8 * i) : Nat) : Int) % 4294967296 ∧ -9223372036854775808 ≤ v ∧ v ≤ 9223372036854775807

theorem Rdr.more {w : World} {base g1 g2 : Nat} {sl : Value} {d : List Nat} {p N N' : Nat} (h : Rdr w base g1 g2 sl d p N) (hN : N ≤ N') : Rdr w base g1 g2 sl d p N' := by
  obtain ⟨v, pr, i, n, h1, h2, h3, h4, h5, h6⟩ := h
  exact ⟨v, pr, i, n, h1, h2, h3, h4, by omega, h6⟩
theorem Rdr.turn {S : Nat → Prop} {w w' : World} {base g1 g2 : Nat} {sl : Value} {d : List Nat} {p N : Nat} (h : Rdr w base g1 g2 sl d p N) (ht : Turn S w w') (h1 : ¬ S g1) (h2 : ¬ S g2) : Rdr w' base g1 g2 sl d p N := by
  obtain ⟨v, pr, i, n, a, b, c⟩ := h
  exact ⟨v, pr, i, n, a.turn ht h1, b.turn ht h2, c⟩

set_option maxRecDepth 100000 in
set_option maxHeartbeats 1000000 in
theorem unread_any (base g1 g2 u p N : Nat) (sl : Value) (d : List Nat) (w : World) (hR : Rdr w base g1 g2 sl d p N) (hu : u ≤ p) (hN : N + u ≤ 200) :
    Calls Tryd.prog 44 #[.pointer (some ⟨g1, 0, none⟩), .int .u8 (u : Int)] w fun e w' => e = .returned (.tuple #[]) ∧ Rdr w' base g1 g2 sl d (p - u) (N + u) ∧ Turn (fun k => k = g1) w w' := by
  obtain ⟨v, pr, i, n, hst, hst2, hi, hp, hn, hv⟩ := hR
  have c3 := hst.cell (j := 3) rfl
  have f3 := hst.frozen 3
  have hV := Lib.hid hv
  have HP := Lib.hid hp
  clear hv hp
  by_cases hg : g1 = g2
  · exfalso
    subst hg
    have h0 := hst.cell (j := 1) rfl
    have a := hst2.2
    have b := hst.2
    rcases a with ⟨a, _⟩ | ⟨_, _, _, a, _, a2, _⟩
    · cases a
    · rcases b with ⟨b, _⟩ | ⟨_, _, _, b, _, b2, _⟩
      · cases b
      · cases a; cases b; rw [a2] at b2; cases b2
  go_enter Tryd.func44, Tryd.ntmps44
  go_wp2
  go_end0
  refine ⟨rfl, ⟨v, pr, i, n + u, ?_, hst2.other (by show g1 ≠ g2; exact hg) _, hi, by have := HP.out; omega, by omega, hV.out⟩, (Turn.refl (fun k => k = g1) _).setCell rfl _⟩
  have := hst.set 3 (.int .u8 ((n : Int) + u))
  exact this

theorem st_ne {w : World} {base base' e e' g g' : Nat} {xs ys : List Value} (h : St w base e g xs) (h' : St w base' e' g' ys) (he : e ≠ e') : g ≠ g' := by
  intro hg
  subst hg
  rcases h.2 with ⟨b, _⟩ | ⟨_, _, _, b, _, b2, _⟩
  · cases b
  · rcases h'.2 with ⟨a, _⟩ | ⟨_, _, _, a, _, a2, _⟩
    · cases a
    · cases a; cases b; rw [a2] at b2; cases b2; exact he rfl

theorem meth_byte (g2 : Nat) (w : World) : (method 204 55 (.pointer (some ⟨g2, 0, none⟩)) "ReadByte").run Tryd.prog w = .ok (41, .pointer (some ⟨g2, 0, none⟩)) w := by kernel_rfl

set_option maxRecDepth 100000 in
set_option maxHeartbeats 1000000 in
theorem bits_any (base g1 g2 B k p N : Nat) (sl : Value) (d : List Nat) (w : World) (hR : Rdr w base g1 g2 sl d p N) (hr : Rd w B sl (nums .u8 d)) (hB1 : B ≤ g1) (hB2 : B ≤ g2) (hk : k ≤ 15) (hN : N ≤ 22) (hpk : p + k ≤ 8 * d.length) (hd : d.length ≤ 4000000) (hby : ∀ j, d.getD j 0 < 256) :
    Calls Tryd.prog 43 #[.pointer (some ⟨g1, 0, none⟩), .int .u8 (k : Int)] w fun e w' => e = .returned (.tuple #[.int .i64 ((win d p k : Nat) : Int), .nilIface]) ∧ Rdr w' base g1 g2 sl d (p + k) (max 7 (N - k)) ∧ Turn (fun b => b = g1 ∨ b = g2) w w' := by
  obtain ⟨v0, pr0, i0, n0, hst0, hst20, hi0, hp0, hn0, hv0⟩ := hR
  have hne := st_ne hst0 hst20 (by decide)
  have hV0 := Lib.hid hv0
  have HBY := Lib.hid hby
  clear hv0 hby
  go_enter Tryd.func43, Tryd.ntmps43
  go_wp2
  go_loopw [4] (fun vz wr => vz = .int .i64 0 ∧ ∃ (v pr : Int) (i n : Nat), St wr base 53 g1 [.iface 55 (.pointer (some ⟨g2, 0, none⟩)), .int .i64 v, .int .i64 (8 * ((d.length : Int) - i)), .int .u8 (n : Int)] ∧
      St wr base 73 g2 [sl, .int .i64 (i : Int), .int .i64 pr] ∧ i ≤ d.length ∧ 8 * i = p + n ∧ n ≤ 22 ∧ (n ≤ N ∨ n < k + 8) ∧ Hid (v % 4294967296 = ((win d 0 (8 * i) : Nat) : Int) % 4294967296 ∧ -9223372036854775808 ≤ v ∧ v ≤ 9223372036854775807) ∧ Turn (fun b => b = g1 ∨ b = g2) w wr)
    (fun _ wr => 60 - (intOf ((wr.cell? ⟨g1, 3, none⟩).getD (.int .u8 0))).toNat)
  case atStart => exact ⟨rfl, v0, pr0, i0, n0, hst0, hst20, hi0, hp0, by omega, .inl hn0, hV0, Turn.refl _ _⟩
  case round =>
    obtain ⟨rfl, v, pr, i, n, hst, hst2, hi, hp, hn, hnk, hV, ht⟩ := hrel
    have c0 := hst.cell (j := 0) rfl
    have c1 := hst.cell (j := 1) rfl
    have c2 := hst.cell (j := 2) rfl
    have c3 := hst.cell (j := 3) rfl
    have f1 := hst.frozen 1
    have f2 := hst.frozen 2
    have f3 := hst.frozen 3
    have hV1 := hV.out.2
    have HP := Lib.hid hp
    by_cases hlt : n < k
    · have hil : i < d.length := by omega
      have hl0 : ((8 * ((d.length : Int) - i)) == 0) = false := decide_eq_false (by omega)
      have hm := meth_byte g2
      obtain ⟨x, hx⟩ : ∃ x, d.getD i 0 = x := ⟨_, rfl⟩
      have hx256 : x < 256 := by rw [← hx]; exact HBY.out i
      have HX := Lib.hid hx
      obtain ⟨V, hor, hVm, hVb⟩ : ∃ V, bits .or .i64 (wrap64 (v * 256)) (x : Int) = V ∧ V % 4294967296 = (v * 256 + x) % 4294967296 ∧ -9223372036854775808 ≤ V ∧ V ≤ 9223372036854775807 := by
        have hw : wrap64 (v * 256) % 256 = 0 := by unfold wrap64; omega
        have hw2 : -9223372036854775808 ≤ wrap64 (v * 256) ∧ wrap64 (v * 256) ≤ 9223372036854775807 := by unfold wrap64; omega
        refine ⟨_, or_low (wrap64 (v * 256)) x hw2.1 hw2.2 hw (by omega) (by omega), ?_, by omega, by omega⟩
        unfold wrap64
        omega
      have HVM := Lib.hid hVm
      have HVB := Lib.hid hVb
      clear hp hx hVm hVb
      go_wp2_with (go_at_call 41; refine (byte_any base g2 B i x pr sl d wr hst2 (rd_turn hr ht (by have := hst0.lt; omega) (by intro k hk h; rcases h with h | h <;> omega)) hB2 hil hd HX.out).mono ?_; rintro e w2 ⟨rfl, hst3, ht3⟩; have hst4 := hst.turn ht3 hne; have c0 := hst4.cell (j := 0) rfl; have c1 := hst4.cell (j := 1) rfl; have c2 := hst4.cell (j := 2) rfl; have c3 := hst4.cell (j := 3) rfl; have f1 := hst4.frozen 1; have f2 := hst4.frozen 2; have f3 := hst4.frozen 3)
      have hst5 : St _ base 53 g1 _ := ((hst4.set 1 (.int .i64 V)).set 3 (.int .u8 ((n : Int) + 8))).set 2 (.int .i64 (8 * ((d.length : Int) - i) - 8))
      have c3' := hst5.cell (j := 3) (u := .int .u8 ((n : Int) + 8)) rfl
      have hwin : win d 0 (8 * (i + 1)) = win d 0 (8 * i) * 256 + x := by
        have h1 := win_add d 0 (8 * i) 8
        rw [Nat.zero_add, win_byte d i (HBY.out i), HX.out] at h1
        exact h1
      refine ⟨⟨rfl, V, -1, i + 1, n + 8, ?_, ((hst3.other (by show g1 ≠ g2; exact hne) _).other (by show g1 ≠ g2; exact hne) _).other (by show g1 ≠ g2; exact hne) _, by omega, by have := HP.out; omega, by omega, .inr (by omega), ?_, ?_⟩, ?_⟩
      · have e1 : (8 * ((d.length : Int) - ((i + 1 : Nat) : Int))) = 8 * ((d.length : Int) - i) - 8 := by omega
        rw [e1]
        exact hst5
      · refine ⟨?_, HVB.out⟩
        rw [HVM.out, hwin]
        have := hV.out.1
        omega
      · exact (((ht.trans (ht3.mono (fun k _ h => .inr h))).setCell (.inl rfl) _).setCell (.inl rfl) _).setCell (.inl rfl) _
      · rw [c3']
        have c3 := hst.cell (j := 3) rfl
        rw [c3]
        simp [intOf]
        omega
    · have hz : bits .and .i64 (v / 2 ^ (n - k)) (2 ^ k - 1) = (win d p k : Nat) := by
        rw [and_mask _ k hk, pick v _ (n - k) k hV.out.1 (by omega)]
        have h1 := win_add d 0 (p + k) (n - k)
        rw [show p + k + (n - k) = 8 * i by omega, Nat.zero_add] at h1
        have h2 := win_lt d (p + k) (n - k)
        have h3 := win_add d 0 p k
        rw [Nat.zero_add] at h3
        have h4 := win_lt d p k
        have h5 : win d 0 (8 * i) / 2 ^ (n - k) = win d 0 (p + k) := by
          rw [h1, Nat.mul_comm, Nat.mul_add_div (Nat.two_pow_pos _), Nat.div_eq_of_lt h2, Nat.add_zero]
        have h6 : win d 0 (p + k) % 2 ^ k = win d p k := by
          rw [h3, Nat.mul_comm, Nat.mul_add_mod, Nat.mod_eq_of_lt h4]
        have h7 : (((win d 0 (8 * i) / 2 ^ (n - k)) % 2 ^ k : Nat) : Int) = (win d p k : Nat) := by rw [h5, h6]
        push_cast at h7
        exact h7
      have hnk2 : k ≤ n := by omega
      obtain ⟨T, hT⟩ : ∃ T : Nat, (2 : Int) ^ k = (T : Int) := ⟨2 ^ k, by push_cast; rfl⟩
      have hT1 : 1 ≤ T ∧ T ≤ 32768 := by
        have h1 : ((2 ^ k : Nat) : Int) = T := by push_cast; exact hT
        have h2 : 2 ^ k ≤ 2 ^ 15 := Nat.pow_le_pow_right (by omega) hk
        have h3 : 0 < 2 ^ k := Nat.two_pow_pos k
        omega
      rw [hT] at hz
      go_wp2
      go_quiet (fail)
      go_wp2
      go_ret2
      have hst5 := (hst.set 3 (.int .u8 ((n : Int) - k))).drewN nq
      refine ⟨rfl, ⟨v, pr, i, n - k, ?_, (hst2.other (by show g1 ≠ g2; exact hne) _).drewN _, hi, by omega, by omega, hV.out⟩, (ht.setCell (.inl rfl) _).drewN _⟩
      have e1 : ((n - k : Nat) : Int) = (n : Int) - k := by omega
      rw [e1]
      exact hst5
end Go.Proofs.YtoicojdnaahimaaDoor.Rdr
