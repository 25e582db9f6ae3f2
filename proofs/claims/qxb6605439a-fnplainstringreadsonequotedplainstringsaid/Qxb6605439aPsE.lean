import Derived.Test.Qxb6605439aPsNo
namespace Go.Proofs.Qxb6605439a.Sp
open Go.RowKit
set_option linter.unusedVariables false
set_option linter.unusedSimpArgs false

set_option maxHeartbeats 1600000 in
set_option maxRecDepth 100000 in
theorem law_e (s : ByteArray) (p k q b : Nat) (w : World) (hn : s.size ≤ 1048576) (hp : p ≤ s.size) (hk : RunEnd spB s p k) (hks : k < s.size) (h34 : gb s k = 34) (hq : RunEnd nqB s (k + 1) q) (hb : RunEnd prB s (k + 1) b)
    (hbq : q ≤ b) (hqs : s.size ≤ q) (hps : PS s p ⟨#[]⟩ false s.size) :
    Calls Try.prog 5 #[.string s, .int .i64 p] w fun e w' => e = .returned (.bool true) ∧ Grown w w' := by
  have H34 : Hid (gb s k = 34) := h34
  have hq1 := hq.1
  have hq2 := hq.2.1
  have HQA : Hid (∀ i, k + 1 ≤ i → i < q → nqB (gb s i) = true) := hq.2.2.1
  have HQE : Hid (q < s.size → nqB (gb s q) = false) := hq.2.2.2
  have hb1 := hb.1
  have hb2 := hb.2.1
  have HBA : Hid (∀ i, k + 1 ≤ i → i < b → prB (gb s i) = true) := hb.2.2.1
  have HBE : Hid (b < s.size → prB (gb s b) = false) := hb.2.2.2
  have hk1 := hk.1
  have hk2 := hk.2.1
  have HA : Hid (∀ i, p ≤ i → i < k → spB (gb s i) = true) := hk.2.2.1
  have HE : Hid (k < s.size → spB (gb s k) = false) := hk.2.2.2
  have HPS : Hid (PS s p ⟨#[]⟩ false s.size) := hps
  clear hk hq hb h34 hps
  go_enter Try.func5, Try.ntmps5
  go_wp2_with (first | (go_at_call 14; refine (zzps s p s.size ⟨#[]⟩ false _ HPS.out).mono ?_; rintro e w1 ⟨rfl, hg1⟩) | (go_at_call 13; go_in))
  go_loop [8] (fun v => ∃ i : Nat, p ≤ i ∧ i ≤ k ∧ v = .int .i64 i) (fun v => k - (intOf v).toNat)
  case atStart => exact ⟨p, Nat.le_refl _, hk1, rfl⟩
  case round =>
    obtain ⟨i, hi1, hi2, rfl⟩ := hrel
    by_cases hlt : i < k
    · have hsp := HA.out i hi1 hlt
      have hsz : i < s.size := by omega
      have hbyte := gb_at hsz
      obtain ⟨c, hc⟩ : ∃ c, gb s i = c := ⟨_, rfl⟩
      rw [hc] at hbyte hsp
      clear hc
      have hsz' : (i : Int) < (s.size : Int) := by omega
      go_wp2_with (go_at_call 11; refine (space_any _ _).mono ?_; rintro e w' ⟨rfl, rfl⟩)
      go_round
      case rel => exact ⟨i + 1, by omega, by omega, by go_num⟩
      case measure => simp [intOf]; omega
    · have hik : i = k := by omega
      subst hik
      have hsp := HE.out hks
      have hbyte := gb_at hks
      rw [H34.out] at hbyte hsp
      have hks' : (i : Int) < (s.size : Int) := by omega
      have hks2 : ((i : Int) == (s.size : Int)) = false := by simp; omega
      go_wp2_with (go_at_call 11; refine (space_any _ _).mono ?_; rintro e w' ⟨rfl, rfl⟩)
      clear hsp hbyte
      go_loop [9] (fun v => ∃ j : Nat, i + 1 ≤ j ∧ j ≤ q ∧ v = .int .i64 j) (fun v => q - (intOf v).toNat)
      case atStart => exact ⟨i + 1, Nat.le_refl _, hq1, by go_num⟩
      case round =>
        obtain ⟨j, hj1, hj2, rfl⟩ := hrel
        by_cases hlt : j < q
        · have hnq := nqB_true (HQA.out j hj1 hlt)
          have hsz : j < s.size := by omega
          have hbyte := gb_at hsz
          obtain ⟨c, hc⟩ : ∃ c, gb s j = c := ⟨_, rfl⟩
          rw [hc] at hbyte hnq
          clear hc
          have hsz' : (j : Int) < (s.size : Int) := by omega
          go_wp2
          go_round
          case rel => exact ⟨j + 1, by omega, by omega, by go_num⟩
          case measure => simp [intOf]; omega
        · have hjq : j = q := by omega
          subst hjq
          have hstop : (j < s.size ∧ gb s j = 34) ∨ j = s.size := by
            by_cases h : j < s.size
            · exact .inl ⟨h, nqB_false (HQE.out h)⟩
            · exact .inr (by omega)
          have HST : Hid ((j < s.size ∧ gb s j = 34) ∨ j = s.size) := hstop
          clear hstop
          rcases HST.out with ⟨hjs0, hj34⟩ | hjs0
          · omega
          · have hjs : ¬ (j : Int) < (s.size : Int) := by omega
            clear hjs0
            go_wp2
            go_loop [10] (fun v => ∃ r : Nat, i + 1 ≤ r ∧ r ≤ b ∧ v = .int .i64 r) (fun v => b - (intOf v).toNat)
            case atStart => exact ⟨i + 1, Nat.le_refl _, hb1, by go_num⟩
            case round =>
              obtain ⟨r, hr1, hr2, rfl⟩ := hrel
              by_cases hlt : r < b
              · have hpr := HBA.out r hr1 hlt
                have hsz : r < s.size := by omega
                have hbyte := gb_at hsz
                obtain ⟨c, hc⟩ : ∃ c, gb s r = c := ⟨_, rfl⟩
                rw [hc] at hbyte hpr
                clear hc
                have hsz' : (r : Int) < (s.size : Int) := by omega
                go_wp2_with (go_at_call 12; refine (pr_any _ _).mono ?_; rintro e w' ⟨rfl, rfl⟩)
                go_round
                case rel => exact ⟨r + 1, by omega, by omega, by go_num⟩
                case measure => simp [intOf]; omega
              · have hrb : r = b := by omega
                subst hrb
                have hrs' : ¬ (r : Int) < (s.size : Int) := by omega
                go_wp2_with (go_at_call 12; refine (pr_any _ _).mono ?_; rintro e w' ⟨rfl, rfl⟩)
                go_ret
                exact ⟨by simp, hg1.grown⟩
end Go.Proofs.Qxb6605439a.Sp
