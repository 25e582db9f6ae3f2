import Derived.Test.Qxb6605363aClone
import Derived.Test.Qxb6605363aSwap
namespace Go.Proofs.Qxb6605363a.Swap
open Go.RowKit Go.Proofs.Qxb6605363a.Aid Go.Proofs.Qxb6605363a.Tr
set_option linter.unusedVariables false
set_option linter.unusedSimpArgs false

theorem clone_row (g n : Nat) (Z : List Int) (w : World) (hrow : BRow w g .u8 5 Z) (hZ : Z.length = n) (hn : n ≤ 1048576) :
    Calls Try.prog 6 #[.slice (some ⟨g, 0, none⟩) n n] w fun e w' => e = .returned (.slice (some ⟨w.heap.size, 0, none⟩) n n) ∧ BRow w' w.heap.size .u8 5 Z ∧ w'.heap.size = w.heap.size + 1 ∧ Below w.heap.size w w' := by
  refine (Clone.clone_some ⟨g, 0, none⟩ n n Z w (Nat.le_refl _) hZ (fun i hi => by rw [add_zero']; exact hrow.cell i hi) hn).mono ?_
  rintro e w' ⟨rfl, h1, h2, h3⟩
  rw [List.take_of_length_le (by omega)] at h1
  exact ⟨rfl, h1, h2, h3⟩

/-- The two clones: what a slice that came in becomes. -/
theorem clone_in (x : Addr) (n cap : Nat) (zs Z : List Int) (w : World) (hl : n ≤ cap) (hz : zs.length = cap) (hcell : ∀ i, i < zs.length → w.cell? (x.add i) = some (.int .u8 (zs.getD i 0))) (hn : n ≤ 1048576) (hZ : zs.take n = Z) :
    Calls Try.prog 6 #[.slice (some x) n cap] w fun e w' => e = .returned (.slice (some ⟨w.heap.size, 0, none⟩) n n) ∧ BRow w' w.heap.size .u8 5 Z ∧ w'.heap.size = w.heap.size + 1 ∧ Below w.heap.size w w' := by
  subst hZ
  exact Clone.clone_some x n cap zs w hl hz hcell hn

theorem bytes_ok (s i j : Int) (a : Option Addr) (n cap : Nat) (w : World) (hn : n ≤ 1048576) :
    Calls Try.prog 5 #[.int .i64 s, .slice a n cap, .int .i64 i, .int .i64 j] w fun e w' => e = .returned (.bool true) ∧ w = w' := by
  go_enter Try.func5, Try.ntmps5
  go_wp2
  go_ret
  exact ⟨rfl, rfl⟩

theorem wrap_div (n s : Nat) (hn : n ≤ 1048576) : wrap64 ((n : Int) / (s : Int)) = ((n / s : Nat) : Int) := by
  have h : n / s ≤ n := Nat.div_le_self n s
  have e : (n : Int) / (s : Int) = ((n / s : Nat) : Int) := (Int.natCast_ediv n s).symm
  rw [e]
  generalize n / s = q at *
  exact IntWalk.wrap64_in _ (by omega)

set_option maxHeartbeats 400000 in
set_option maxRecDepth 100000 in
theorem exact_row (x : Addr) (n cap i j s I J : Nat) (zs Z : List Int) (w : World) (hl : n ≤ cap) (hz : zs.length = cap) (hcell : ∀ i, i < zs.length → w.cell? (x.add i) = some (.int .u8 (zs.getD i 0))) (hn : n ≤ 1048576) (HZ : Hid (zs.take n = Z)) (hZ : Z.length = n)
    (hs : 0 < s) (hi : i < n / s) (hj : j < n / s) (hI : i * s = I) (hJ : j * s = J) (hIn : I + s ≤ n) (hJn : J + s ≤ n) (hd : I = J ∨ I + s ≤ J ∨ J + s ≤ I) :
    Calls Try.prog 3 #[.int .i64 s, .slice (some x) n cap, .int .i64 i, .int .i64 j] w fun e w' => e = .returned (.bool true) ∧ Below w.heap.size w w' := by
  have HI : Hid (i * s = I) := hI
  have HJ : Hid (j * s = J) := hJ
  have HC : Hid (∀ i, i < zs.length → w.cell? (x.add i) = some (.int .u8 (zs.getD i 0))) := hcell
  have hsI : (0 : Int) < (s : Int) := by omega
  have hq := wrap_div n s hn
  obtain ⟨N, hN⟩ : ∃ N, n / s = N := ⟨_, rfl⟩
  rw [hN] at hq hi hj
  have HD : Hid (I = J ∨ I + s ≤ J ∨ J + s ≤ I) := hd
  have HIN : Hid (I + s ≤ n) := hIn
  have HJN : Hid (J + s ≤ n) := hJn
  clear hcell hI hJ hN hd hIn hJn
  go_enter Try.func3, Try.ntmps3
  go_wp2_with (first | (go_at_call 5; refine (bytes_ok _ _ _ _ _ _ _ hn).mono ?_; rintro e w' ⟨rfl, rfl⟩))
  refine (clone_in x n cap zs Z _ hl hz HC.out hn HZ.out).mono ?_
  rintro e w1 ⟨rfl, hrow1, hsz1, hb1⟩
  go_wp2_with fail
  refine (clone_row _ n Z _ hrow1 hZ hn).mono ?_
  rintro e w2 ⟨rfl, hrow2, hsz2, hb2⟩
  go_wp2_with fail
  refine (zz_row w.heap.size n i j s I J Z _ hs HI.out HJ.out HIN.out HJN.out hn HD.out hZ (hrow1.below hb2 hrow1.lt)).mono ?_
  rintro e w3 ⟨rfl, Z', hsw, hrow3, hoth⟩
  have hrow4 : BRow w3 (w.heap.size + 1) .u8 5 Z := by
    rw [hsz1] at hrow2
    have hlt := hrow2.lt
    unfold BRow at *
    rw [hoth.block _ hlt (by omega)]; exact hrow2
  have hbel : Below w.heap.size w w3 := (hb1.trans (hb2.mono (by omega))).trans ((hoth.mono (by omega)).below (Nat.le_refl _))
  clear hrow1 hrow2 hoth hb1 hb2 hsz1 hsz2
  go_wp2_with fail
  go_loop [11] (fun v => ∃ p : Nat, p ≤ n ∧ v = .int .i64 p) (fun v => n - (intOf v).toNat)
  case atStart => exact ⟨0, Nat.zero_le _, rfl⟩
  case round =>
    obtain ⟨p, hp, rfl⟩ := hrel
    by_cases hlt : p < n
    · have hcd := hrow3.cell p (by rw [hsw.1]; omega)
      have hco := hrow4.cell p (by omega)
      have hdp := wrap_div p s (by omega)
      obtain ⟨R, hR⟩ : ∃ R, p / s = R := ⟨_, rfl⟩
      have hRs : R * s ≤ p ∧ p < R * s + s := by
        rw [← hR]
        have h1 := Nat.div_add_mod p s
        have h2 := Nat.mod_lt p hs
        rw [Nat.mul_comm] at h1
        omega
      rw [hR] at hdp
      clear hR
      have eR : (R : Int) * (s : Int) = ((R * s : Nat) : Int) := (Int.natCast_mul R s).symm
      have HA1 : Hid (R ≠ i → R * s + s ≤ I ∨ I + s ≤ R * s) := fun h => by rw [← HI.out]; exact apart R i s h
      have HA2 : Hid (R ≠ j → R * s + s ≤ J ∨ J + s ≤ R * s) := fun h => by rw [← HJ.out]; exact apart R j s h
      have HE1 : Hid (R = i → R * s = I) := fun h => by rw [h]; exact HI.out
      have HE2 : Hid (R = j → R * s = J) := fun h => by rw [h]; exact HJ.out
      obtain ⟨M, hM⟩ : ∃ M, R * s = M := ⟨_, rfl⟩
      rw [hM] at hRs eR HA1 HA2 HE1 HE2
      have hM0 := hRs.1
      have hM1 := hRs.2
      have hRM : R ≤ M := by rw [← hM]; exact Nat.le_mul_of_pos_right R hs
      clear hM hRs
      have hlt' : (p : Int) < (n : Int) := by omega
      have hsp := hsw.2 p
      obtain ⟨y, hy⟩ : ∃ y, Z'.getD p 0 = y := ⟨_, rfl⟩
      obtain ⟨z, hz'⟩ : ∃ z, Z.getD p 0 = z := ⟨_, rfl⟩
      by_cases e1 : R = i
      · have hIM := HE1.out e1
        rw [tr_first I J s p (by omega), hy, ← hIM] at hsp
        have hco2 := hrow4.cell (J + (p - M)) (by have := HJN.out; omega)
        rw [← hsp] at hco2
        rw [hy] at hcd
        rw [hz'] at hco
        have f1 : ((R : Int) == (i : Int)) = true := by simp; omega
        have hJb : J + s ≤ n := HJN.out
        have eJ : (j : Int) * (s : Int) = (J : Int) := by rw [← Int.natCast_mul, HJ.out]
        clear hsp hy hz' e1 hIM
        go_wp2
        go_round
        case rel => exact ⟨p + 1, by omega, by go_num⟩
        case measure => simp [intOf]; omega
      · have hA := HA1.out e1
        by_cases e2 : R = j
        · have hJM := HE2.out e2
          rw [tr_second I J s p (by omega) (by omega), hy, ← hJM] at hsp
          have hco2 := hrow4.cell (I + (p - M)) (by have := HIN.out; omega)
          rw [← hsp] at hco2
          rw [hy] at hcd
          rw [hz'] at hco
          have f1 : ((R : Int) == (i : Int)) = false := by simp; omega
          have f2 : ((R : Int) == (j : Int)) = true := by simp; omega
          have hIb : I + s ≤ n := HIN.out
          have eI : (i : Int) * (s : Int) = (I : Int) := by rw [← Int.natCast_mul, HI.out]
          clear hsp hy hz' e1 e2 hJM hA
          go_wp2
          go_round
          case rel => exact ⟨p + 1, by omega, by go_num⟩
          case measure => simp [intOf]; omega
        · have hA' := HA2.out e2
          rw [tr_none I J s p (by omega) (by omega), hy] at hsp
          rw [hy] at hcd
          rw [← hsp] at hco
          have f1 : ((R : Int) == (i : Int)) = false := by simp; omega
          have f2 : ((R : Int) == (j : Int)) = false := by simp; omega
          clear hsp hy hz' e1 e2 hA hA'
          go_wp2
          go_round
          case rel => exact ⟨p + 1, by omega, by go_num⟩
          case measure => simp [intOf]; omega
    · go_wp2
      go_ret
      exact ⟨rfl, hbel⟩

set_option maxHeartbeats 400000 in
set_option maxRecDepth 100000 in
theorem exact_zero (x : Addr) (n cap : Nat) (i j : Int) (zs Z : List Int) (w : World) (hl : n ≤ cap) (hz : zs.length = cap) (hcell : ∀ i, i < zs.length → w.cell? (x.add i) = some (.int .u8 (zs.getD i 0))) (hn : n ≤ 1048576) (HZ : Hid (zs.take n = Z)) (hZ : Z.length = n) :
    Calls Try.prog 3 #[.int .i64 0, .slice (some x) n cap, .int .i64 i, .int .i64 j] w fun e w' => e = .returned (.bool true) ∧ Below w.heap.size w w' := by
  have HC : Hid (∀ i, i < zs.length → w.cell? (x.add i) = some (.int .u8 (zs.getD i 0))) := hcell
  clear hcell
  go_enter Try.func3, Try.ntmps3
  go_wp2_with (first | (go_at_call 5; refine (bytes_ok _ _ _ _ _ _ _ hn).mono ?_; rintro e w' ⟨rfl, rfl⟩))
  refine (clone_in x n cap zs Z _ hl hz HC.out hn HZ.out).mono ?_
  rintro e w1 ⟨rfl, hrow1, hsz1, hb1⟩
  go_wp2_with fail
  refine (clone_row _ n Z _ hrow1 hZ hn).mono ?_
  rintro e w2 ⟨rfl, hrow2, hsz2, hb2⟩
  go_wp2_with fail
  refine (zz_zero n i j _ _ (.inr ⟨_, rfl⟩) hn).mono ?_
  rintro e w3 ⟨rfl, hb3⟩
  have hrow1' := hrow1.below hb2 hrow1.lt
  have hrow3 := hrow1'.below hb3 hrow1'.lt
  have hrow4 := hrow2.below hb3 hrow2.lt
  rw [hsz1] at hrow4
  have hbel : Below w.heap.size w w3 := (hb1.trans (hb2.mono (by omega))).trans (hb3.mono (by omega))
  clear hrow1 hrow2 hrow1' hb1 hb2 hb3 hsz1 hsz2
  go_wp2_with fail
  go_loop [11] (fun v => ∃ p : Nat, p ≤ n ∧ v = .int .i64 p) (fun v => n - (intOf v).toNat)
  case atStart => exact ⟨0, Nat.zero_le _, rfl⟩
  case round =>
    obtain ⟨p, hp, rfl⟩ := hrel
    by_cases hlt : p < n
    · have hcd := hrow3.cell p (by omega)
      have hco := hrow4.cell p (by omega)
      obtain ⟨y, hy⟩ : ∃ y, Z.getD p 0 = y := ⟨_, rfl⟩
      rw [hy] at hcd hco
      clear hy
      have hlt' : (p : Int) < (n : Int) := by omega
      go_wp2
      go_round
      case rel => exact ⟨p + 1, by omega, by go_num⟩
      case measure => simp [intOf]; omega
    · go_wp2
      go_ret
      exact ⟨rfl, hbel⟩

set_option maxHeartbeats 400000 in
set_option maxRecDepth 100000 in
theorem exact_nil (i j : Int) (w : World) :
    Calls Try.prog 3 #[.int .i64 0, .slice none 0 0, .int .i64 i, .int .i64 j] w fun e w' => e = .returned (.bool true) ∧ Below w.heap.size w w' := by
  go_enter Try.func3, Try.ntmps3
  go_wp2_with (first | (go_at_call 5; refine (bytes_ok _ _ _ _ _ _ _ (by omega)).mono ?_; rintro e w' ⟨rfl, rfl⟩))
  refine (Clone.clone_nil _).mono ?_
  intro e w1 h
  obtain ⟨rfl, h1⟩ := h
  rw [h1]
  go_wp2_with fail
  refine (Clone.clone_nil _).mono ?_
  intro e w2 h
  obtain ⟨rfl, h2⟩ := h
  rw [h2]
  go_wp2_with fail
  refine (zz_zero 0 i j _ _ (.inl ⟨rfl, rfl⟩) (by omega)).mono ?_
  rintro e w3 ⟨rfl, hb3⟩
  go_wp2_with fail
  refine wp_loop_rounds 1 ?_
  rw [rounds_succ]
  go_wp2
  go_ret
  exact ⟨rfl, hb3⟩
end Go.Proofs.Qxb6605363a.Swap
