import Derived.Test.Qxb6605363aScript
namespace Go.Proofs.Qxb6605363a.Swap
open Go.RowKit Go.Proofs.Qxb6605363a.Aid Go.Proofs.Qxb6605363a.Tr
set_option linter.unusedVariables false
set_option linter.unusedSimpArgs false

set_option maxHeartbeats 1000000 in
set_option maxRecDepth 100000 in
theorem script_zero (n cap1 m cap2 : Nat) (a1 a2 : Option Addr) (z1 z2 Z S : List Int) (w : World) (hs1 : Src .u8 w a1 n cap1 z1) (hs2 : Src .i64 w a2 m cap2 z2) (HZ : Hid (z1.take n = Z)) (HS : Hid (z2.take m = S))
    (hn : n ≤ 1048576) (hm : m ≤ 131072) (hnm : n + 8 * m ≤ 1048576) :
    Calls Try.prog 4 #[.int .i64 0, .slice a1 n cap1, .slice a2 m cap2] w fun e w' => e = .returned (.bool true) ∧ Below w.heap.size w w' := by
  have hZl : Z.length = n := by rw [← HZ.out]; exact hs1.len
  have hSl : S.length = m := by rw [← HS.out]; exact hs2.len
  obtain ⟨i0, hi, hz0, hz1, hz2⟩ := info_parts CloneI.info3
  go_enter Try.func4, Try.ntmps4
  go_wp2_with (first | (go_at_call 8; refine (bytes2_ok _ _ _ _ _ _ _ _ hn hm hnm).mono ?_; rintro e w' ⟨rfl, rfl⟩))
  refine (cloneB a1 n cap1 z1 Z _ hs1 hn HZ.out).mono ?_
  rintro e w1 ⟨a1', rfl, hc1, hb1⟩
  go_wp2_with fail
  refine (cloneI a2 m cap2 z2 S _ (hs2.later hb1) hm HS.out).mono ?_
  rintro e w2 ⟨a2', rfl, hc2, hb2⟩
  go_wp2_with fail
  refine (cloneB a1' n n Z Z _ (hc1.src.later hb2) hn (List.take_of_length_le (by omega))).mono ?_
  rintro e w3 ⟨a3', rfl, hc3, hb3⟩
  go_wp2_with (at_make; refine wpList_make_row _ rfl _ _ 26 rfl 3 i0 .i64 Try.underlying26 hi hz0 hz1 (by omega) _ _ _ _ 0 0 rfl rfl rfl rfl (Nat.le_refl _) (by omega) ?_; intro w4 hrow4 hsz4 hb4)
  obtain ⟨g1, g2, g3, hinv⟩ := Inv.start hc1 hb1 hc2 hb2 hc3 hb3 hrow4 hb4
  clear hc1 hb1 hc2 hb2 hc3 hb3 hrow4 hb4 hsz4 hs1 hs2
  obtain ⟨g4, hg4⟩ : ∃ g4, w3.heap.size = g4 := ⟨_, rfl⟩
  rw [hg4] at hinv ⊢
  clear hg4
  obtain ⟨P, hP⟩ : ∃ P, List.replicate 0 (0 : Int) = P := ⟨_, rfl⟩
  rw [hP] at hinv
  clear hP
  refine wp_loop_rounds 1 ?_
  rw [rounds_succ]
  go_wp2_with fail
  go_loopw [12] (fun v wr => ∃ (t : Nat), t ≤ m + 1 ∧ v = .int .i64 t ∧ Inv w.heap.size w wr a1' a2' a3' g1 g2 g3 g4 n m Z S Z P) (fun v _ => m + 2 - (intOf v).toNat)
  case atStart => exact ⟨0, Nat.zero_le _, rfl, hinv⟩
  case round =>
    obtain ⟨t, htm, rfl, hin⟩ := hrel
    by_cases hlt : t + 1 < m
    · obtain rfl := hin.c2.adr (by omega)
      have hcs1 := (hin.c2.row (by omega)).cell t (by omega)
      have hcs2 := (hin.c2.row (by omega)).cell (t + 1) (by omega)
      obtain ⟨x, hx⟩ : ∃ x, S.getD t 0 = x := ⟨_, rfl⟩
      obtain ⟨y, hy⟩ : ∃ y, S.getD (t + 1) 0 = y := ⟨_, rfl⟩
      rw [hx] at hcs1
      rw [hy] at hcs2
      clear hx hy
      have hlt' : (t : Int) + 1 < (m : Int) := by omega
      have hlt2 : (t : Int) < (m : Int) := by omega
      have HA : Hid ((a1' = none ∧ n = 0) ∨ ∃ g, a1' = some ⟨g, 0, none⟩) := by
        rcases hin.c1.2 with h | h
        · exact .inl h
        · exact .inr ⟨_, h.1⟩
      go_wp2_with fail
      refine (zz_zero n x y a1' _ HA.out hn).mono ?_
      rintro e w5 ⟨rfl, hb5⟩
      have hin5 := hin.quiet hb5
      clear hin hb5
      go_wp2
      go_roundw
      case rel => exact ⟨t + 2, by omega, by go_num, hin5⟩
      case measure => simp [intOf]; omega
    · have hlt' : ¬ (t : Int) + 1 < (m : Int) := by omega
      have hbel := hin.bel
      go_wp2_with fail
      go_loop [17] (fun v => ∃ p : Nat, p ≤ n ∧ v = .int .i64 p) (fun v => n - (intOf v).toNat)
      case atStart => exact ⟨0, Nat.zero_le _, rfl⟩
      case round =>
        obtain ⟨p, hp, rfl⟩ := hrel
        by_cases hpn : p < n
        · obtain rfl := hin.c1.adr (by omega)
          obtain rfl := hin.c3.adr (by omega)
          have hcd := (hin.c1.row (by omega)).cell p (by omega)
          have hco := (hin.c3.row (by omega)).cell p (by omega)
          have hpn' : (p : Int) < (n : Int) := by omega
          obtain ⟨y, hy⟩ : ∃ y, Z.getD p 0 = y := ⟨_, rfl⟩
          rw [hy] at hcd hco
          clear hy hin
          go_wp2
          go_round
          case rel => exact ⟨p + 1, by omega, by go_num⟩
          case measure => simp [intOf]; omega
        · have hpn' : ¬ (p : Int) < (n : Int) := by omega
          clear hin
          go_wp2
          go_ret
          exact ⟨rfl, hbel⟩
end Go.Proofs.Qxb6605363a.Swap
