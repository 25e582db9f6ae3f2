import Derived.Test.Qxb6605439aSp
namespace Go.Proofs.Qxb6605439a.Sp
open Go.RowKit
set_option linter.unusedVariables false
set_option linter.unusedSimpArgs false

theorem space_any (c : Int) (w : World) : Calls Try.prog 11 #[.int .u8 c] w fun e w' => e = .returned (.bool (spB c)) ∧ w = w' := by
  cases h : spB c
  · have hf := spB_false h
    have h1 := hf.1
    have h2 := hf.2.1
    have h3 := hf.2.2.1
    have h4 := hf.2.2.2
    clear hf
    go_enter Try.func11, Try.ntmps11
    go_wp2
    go_ret
    exact ⟨rfl, rfl⟩
  · rcases spB_true h with rfl | rfl | rfl | rfl
    all_goals
      go_enter Try.func11, Try.ntmps11
      go_wp2
      go_ret
      exact ⟨rfl, rfl⟩

/-- Whatever had grown to w has grown to w'. -/
def GT (w w' : World) : Prop := ∀ W : World, Grown W w → Grown W w'
theorem GT.grown {w w' : World} (h : GT w w') : Grown w w' := h w (Grown.refl w)
theorem GT.trans {x y z : World} (h : GT x y) (k : GT y z) : GT x z := fun W g => k W (h W g)

theorem GT.of {w w' : World} {o : Array Value} (h : Touch w.heap.size (w.alloc (.cells o 40)) w') : GT w w' := fun W g => h W g.2.2 (g.alloc _ _)

theorem zz_run (s : ByteArray) (p k : Nat) (w : World) (hn : s.size ≤ 1048576) (hk : RunEnd spB s p k) :
    Calls Try.prog 16 #[.string s, .int .i64 p] w fun e w' => e = .returned (.int .i64 k) ∧ GT w w' := by
  have hs : Sc (w.alloc (.cells #[.string s, .int .i64 p] 40)) w.heap.size s p := heap_alloc_new w _
  go_enter Try.func16, Try.ntmps16
  go_wp2_with (go_at_call 20; refine (skip_run w.heap.size s p k _ hs hn hk).mono ?_; rintro e w1 ⟨rfl, hs1, ht1⟩; have hpos1 := hs1.pos)
  go_ret
  exact ⟨rfl, GT.of ht1⟩

theorem zz_past (s : ByteArray) (p : Int) (w : World) (hn : s.size ≤ 1048576) (hp : (s.size : Int) ≤ p) :
    Calls Try.prog 16 #[.string s, .int .i64 p] w fun e w' => e = .returned (.int .i64 p) ∧ GT w w' := by
  have hs : Sc (w.alloc (.cells #[.string s, .int .i64 p] 40)) w.heap.size s p := heap_alloc_new w _
  go_enter Try.func16, Try.ntmps16
  go_wp2_with (go_at_call 20; refine (skip_past w.heap.size s p _ hs hn hp).mono ?_; rintro e w1 ⟨rfl, hs1, ht1⟩; have hpos1 := hs1.pos)
  go_ret
  exact ⟨rfl, GT.of ht1⟩

theorem law_past (s : ByteArray) (p : Int) (w : World) (hn : s.size ≤ 1048576) (h0 : 0 ≤ p) (hp : (s.size : Int) ≤ p) :
    Calls Try.prog 6 #[.string s, .int .i64 p] w fun e w' => e = .returned (.bool true) ∧ Grown w w' := by
  go_enter Try.func6, Try.ntmps6
  go_wp2_with (first | (go_at_call 16; refine (zz_past s p _ hn hp).mono ?_; rintro e w1 ⟨rfl, hg1⟩) | (go_at_call 15; go_in))
  go_ret
  exact ⟨by simp, hg1.grown⟩

set_option maxHeartbeats 400000 in
theorem law_run (s : ByteArray) (p k : Nat) (w : World) (hn : s.size ≤ 1048576) (hp : p < s.size) (hk : RunEnd spB s p k) :
    Calls Try.prog 6 #[.string s, .int .i64 p] w fun e w' => e = .returned (.bool true) ∧ Grown w w' := by
  have hk1 := hk.1
  have hk2 := hk.2.1
  have HA : Hid (∀ i, p ≤ i → i < k → spB (gb s i) = true) := hk.2.2.1
  have HE : Hid (k < s.size → spB (gb s k) = false) := hk.2.2.2
  have HK : Hid (RunEnd spB s p k) := hk
  clear hk
  go_enter Try.func6, Try.ntmps6
  go_wp2_with (first | (go_at_call 16; refine (zz_run s p k _ hn HK.out).mono ?_; rintro e w1 ⟨rfl, hg1⟩) | (go_at_call 15; go_in))
  have hd1 : ¬ k < p := by omega
  have hd2 : ¬ s.size < k := by omega
  simp only [hd1, hd2, decide_false, Bool.or_self]
  clear hd1 hd2
  go_loop [6] (fun v => ∃ i : Nat, p ≤ i ∧ i ≤ k ∧ v = .int .i64 i) (fun v => k - (intOf v).toNat)
  case atStart => exact ⟨p, Nat.le_refl _, hk1, rfl⟩
  case round =>
    obtain ⟨i, hi1, hi2, rfl⟩ := hrel
    by_cases hlt : i < k
    · have hsp := HA.out i hi1 hlt
      have hsz : i < s.size := by omega
      have hbyte := gb_at hsz
      obtain ⟨c, hc⟩ : ∃ c, gb s i = c := ⟨_, rfl⟩
      rw [hc] at hbyte hsp
      clear hc
      have hsz' : (i : Int) < (s.size : Int) := by omega
      have hlt' : (i : Int) < (k : Int) := by omega
      go_wp2_with (go_at_call 11; refine (space_any _ _).mono ?_; rintro e w' ⟨rfl, rfl⟩)
      go_round
      case rel => exact ⟨i + 1, by omega, by omega, by go_num⟩
      case measure => simp [intOf]; omega
    · have hlt' : ¬ (i : Int) < (k : Int) := by omega
      by_cases hks : k < s.size
      · have hsp := HE.out hks
        have hbyte := gb_at hks
        obtain ⟨c, hc⟩ : ∃ c, gb s k = c := ⟨_, rfl⟩
        rw [hc] at hbyte hsp
        clear hc
        have hks' : (k : Int) < (s.size : Int) := by omega
        go_wp2_with (first | (go_at_call 11; refine (space_any _ _).mono ?_; rintro e w' ⟨rfl, rfl⟩) | (go_at_call 16; refine (zz_run s k k _ hn HK.out.again).mono ?_; rintro e w2 ⟨rfl, hg2⟩))
        go_ret
        exact ⟨by simp, (hg1.trans hg2).grown⟩
      · have hks' : ¬ (k : Int) < (s.size : Int) := by omega
        go_wp2_with (first | (go_at_call 11; refine (space_any _ _).mono ?_; rintro e w' ⟨rfl, rfl⟩) | (go_at_call 16; refine (zz_run s k k _ hn HK.out.again).mono ?_; rintro e w2 ⟨rfl, hg2⟩))
        go_ret
        exact ⟨by simp, (hg1.trans hg2).grown⟩
end Go.Proofs.Qxb6605439a.Sp
