import Derived.Test.Qxb6605439aSkip
import Derived.Lib.Strings
namespace Go.Proofs.Qxb6605439a.Sp
open Go.RowKit
set_option linter.unusedVariables false
set_option linter.unusedSimpArgs false

/-- Does t begin with a quote? -/
def qB (t : ByteArray) : Bool := decide (1 ≤ t.size) && ((t.extract 0 1).toList == [34])

theorem hp_any (t : ByteArray) (w : World) (ht : t.size ≤ 1048576) : Calls Try.prog 23 #[.string t, .string ⟨#[34]⟩] w fun e w' => e = .returned (.bool (qB t)) ∧ w' = w := by
  by_cases h : 1 ≤ t.size
  · have h' : (1 : Int) ≤ (t.size : Int) := by omega
    have HQ : Hid (qB t = ((t.extract 0 1).toList == [34])) := by unfold qB; rw [decide_eq_true h, Bool.true_and]; trivial
    go_enter Try.func23, Try.ntmps23
    go_wp2
    go_ret
    exact ⟨ret_bool HQ.out.symm, rfl⟩
  · have h' : ¬ (1 : Int) ≤ (t.size : Int) := by omega
    have HQ : Hid (qB t = false) := by unfold qB; rw [decide_eq_false h, Bool.false_and]; trivial
    go_enter Try.func23, Try.ntmps23
    go_wp2
    go_ret
    exact ⟨ret_bool HQ.out.symm, rfl⟩

theorem ext_size (s : ByteArray) (p : Nat) : (s.extract p s.size).size = s.size - p := by simp

theorem qB_at (s : ByteArray) (p : Nat) (hp : p < s.size) : qB (s.extract p s.size) = (gb s p == 34) := by
  unfold qB
  rw [decide_eq_true (by rw [ext_size]; omega), Bool.true_and, Lib.toList_data, Lib.extract_data, Lib.extract_data]
  have hl : p < s.data.toList.length := by simpa using hp
  rw [List.drop_zero, List.take_take, List.drop_eq_getElem_cons hl]
  have e : min (1 - 0) (s.size - p) = 1 := by omega
  rw [e, List.take_succ_cons, List.take_zero]
  rw [← gb_at hp]
  have e2 : s.data.toList[p] = s[p] := by rw [Array.getElem_toList]; rfl
  rw [e2]
  cases h : (s[p] == (34 : UInt8))
  · have hne : s[p] ≠ 34 := by simpa using h
    have h2 : ((s[p].toNat : Int) == 34) = false := by
      simp only [beq_eq_false_iff_ne]
      intro hh
      exact hne (UInt8.toNat_inj.1 (by simpa using Int.ofNat.inj hh))
    rw [h2]
    simp [hne]
  · have he : s[p] = 34 := by simpa using h
    rw [he]; rfl

theorem qB_end (s : ByteArray) (p : Nat) (hp : s.size ≤ p) : qB (s.extract p s.size) = false := by
  unfold qB
  rw [decide_eq_false (by rw [ext_size]; omega), Bool.false_and]

theorem tok_yes (b : Nat) (s : ByteArray) (p k : Nat) (w : World) (hs : Sc w b s p) (hn : s.size ≤ 1048576) (hk : RunEnd spB s p k) (hq : k < s.size) (h34 : gb s k = 34) :
    Calls Try.prog 21 #[.pointer (some ⟨b, 0, none⟩), .string ⟨#[34]⟩] w fun e w' => e = .returned (.bool true) ∧ Sc w' b s ((k + 1 : Nat) : Int) ∧ Touch b w w' := by
  have hqv : qB (s.extract k s.size) = true := by
    rw [qB_at s k hq, h34]; rfl
  have hts := ext_size s k
  have HK : Hid (RunEnd spB s p k) := hk
  have hkn := hk.2.1
  clear hk
  go_enter Try.func21, Try.ntmps21
  go_wp2_with (go_at_call 20; refine (skip_run b s p k _ hs hn HK.out).mono ?_; rintro e w1 ⟨rfl, hs1, ht1⟩; have hpos1 := hs1.pos; have htxt1 := hs1.txt; have hfz1 := hs1.fz)
  have hkn' : (k : Int) ≤ (s.size : Int) := by omega
  obtain ⟨t, ht⟩ : ∃ t, s.extract k s.size = t := ⟨_, rfl⟩
  rw [ht] at hqv hts
  have hts' : t.size ≤ 1048576 := by omega
  clear hts
  go_quiet ((go_at_call 23; exact Calls.quiet_of_same (hp_any t _ hts')))
  go_wp2
  go_ret
  exact ⟨rfl, (hs1.move' (k + 1) (by omega)).drewN _, (ht1.trans (Touch.set _ _ _ _)).trans (Touch.drewN _ _ _)⟩

theorem tok_no (b : Nat) (s : ByteArray) (p k : Nat) (w : World) (hs : Sc w b s p) (hn : s.size ≤ 1048576) (hk : RunEnd spB s p k) (hq : k < s.size → gb s k ≠ 34) :
    Calls Try.prog 21 #[.pointer (some ⟨b, 0, none⟩), .string ⟨#[34]⟩] w fun e w' => e = .returned (.bool false) ∧ Sc w' b s (k : Int) ∧ Touch b w w' := by
  have hqv : qB (s.extract k s.size) = false := by
    by_cases h : k < s.size
    · rw [qB_at s k h]; simpa using hq h
    · exact qB_end s k (by omega)
  have hts := ext_size s k
  have HK : Hid (RunEnd spB s p k) := hk
  have hkn := hk.2.1
  clear hk
  go_enter Try.func21, Try.ntmps21
  go_wp2_with (go_at_call 20; refine (skip_run b s p k _ hs hn HK.out).mono ?_; rintro e w1 ⟨rfl, hs1, ht1⟩; have hpos1 := hs1.pos; have htxt1 := hs1.txt; have hfz1 := hs1.fz)
  have hkn' : (k : Int) ≤ (s.size : Int) := by omega
  obtain ⟨t, ht⟩ : ∃ t, s.extract k s.size = t := ⟨_, rfl⟩
  rw [ht] at hqv hts
  have hts' : t.size ≤ 1048576 := by omega
  clear hts
  go_quiet ((go_at_call 23; exact Calls.quiet_of_same (hp_any t _ hts')))
  go_wp2
  go_ret
  exact ⟨rfl, hs1.drewN _, ht1.trans (Touch.drewN _ _ _)⟩

end Go.Proofs.Qxb6605439a.Sp
