import Derived.Test.Qxb6605439aPs
namespace Go.Proofs.Qxb6605439a.Sp
open Go.RowKit
set_option linter.unusedVariables false
set_option linter.unusedSimpArgs false

/-- No quote. -/
def nqB (c : Int) : Bool := !(c == 34)
theorem nqB_true {c : Int} (h : nqB c = true) : (c != 34) = true := by
  unfold nqB at h; simpa using h
theorem nqB_false {c : Int} (h : nqB c = false) : c = 34 := by
  unfold nqB at h; simpa using h

set_option maxHeartbeats 1000000 in
set_option maxRecDepth 100000 in
theorem law_no (s : ByteArray) (p k : Nat) (w : World) (hn : s.size ≤ 1048576) (hp : p ≤ s.size) (hk : RunEnd spB s p k) (hq : k < s.size → gb s k ≠ 34) :
    Calls Try.prog 5 #[.string s, .int .i64 p] w fun e w' => e = .returned (.bool true) ∧ Grown w w' := by
  have HQ : Hid (k < s.size → gb s k ≠ 34) := hq
  have hk1 := hk.1
  have hk2 := hk.2.1
  have HA : Hid (∀ i, p ≤ i → i < k → spB (gb s i) = true) := hk.2.2.1
  have HE : Hid (k < s.size → spB (gb s k) = false) := hk.2.2.2
  have HPS : Hid (PS s p ⟨#[]⟩ false k) := fun b w0 hs => ps_no b s p k w0 hs hn hk hq
  clear hk hq
  go_enter Try.func5, Try.ntmps5
  go_wp2_with (first | (go_at_call 14; refine (zzps s p k ⟨#[]⟩ false _ HPS.out).mono ?_; rintro e w1 ⟨rfl, hg1⟩) | (go_at_call 13; go_in))
  go_loop [8] (fun v => ∃ i : Nat, p ≤ i ∧ i ≤ k ∧ v = .int .i64 i) (fun v => k - (intOf v).toNat)
  case atStart => exact ⟨p, Nat.le_refl _, hk1, rfl⟩
  case round =>
    obtain ⟨i, hi1, hi2, rfl⟩ := hrel
    by_cases hlt : i < k
    · have hsp := HA.out i hi1 hlt
      have hsz : i < s.size := by omega
      have hbyte := gb_at hsz
      obtain ⟨c, hc⟩ : ∃ c, gb s i = c := ⟨_, rfl⟩
      rw [hc] at hbyte hsp
      clear hc
      have hsz' : (i : Int) < (s.size : Int) := by omega
      go_wp2_with (go_at_call 11; refine (space_any _ _).mono ?_; rintro e w' ⟨rfl, rfl⟩)
      go_round
      case rel => exact ⟨i + 1, by omega, by omega, by go_num⟩
      case measure => simp [intOf]; omega
    · have hik : i = k := by omega
      subst hik
      by_cases hks : i < s.size
      · have hsp := HE.out hks
        have hbyte := gb_at hks
        have hne := HQ.out hks
        obtain ⟨c, hc⟩ : ∃ c, gb s i = c := ⟨_, rfl⟩
        rw [hc] at hbyte hsp hne
        have hne' : (c != 34) = true := by simpa using hne
        clear hc hne
        have hks' : (i : Int) < (s.size : Int) := by omega
        have hks2 : ((i : Int) == (s.size : Int)) = false := by simp; omega
        go_wp2_with (go_at_call 11; refine (space_any _ _).mono ?_; rintro e w' ⟨rfl, rfl⟩)
        go_ret
        exact ⟨by simp, hg1.grown⟩
      · have hks' : ¬ (i : Int) < (s.size : Int) := by omega
        have hks2 : ((i : Int) == (s.size : Int)) = true := by simp; omega
        go_wp2_with (go_at_call 11; refine (space_any _ _).mono ?_; rintro e w' ⟨rfl, rfl⟩)
        go_ret
        exact ⟨by simp, hg1.grown⟩

end Go.Proofs.Qxb6605439a.Sp
