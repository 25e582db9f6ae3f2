import Derived.Test.Qxb6605439aTok
namespace Go.Proofs.Qxb6605439a.Sp
open Go.RowKit
set_option linter.unusedVariables false
set_option linter.unusedSimpArgs false

/-- Printable ASCII other than a backslash. -/
def prB (c : Int) : Bool := decide (32 ≤ c ∧ c ≤ 126 ∧ c ≠ 92)
/-- .. and other than a quote. -/
def inB (c : Int) : Bool := decide ((32 ≤ c ∧ c ≤ 126 ∧ c ≠ 92) ∧ c ≠ 34)

theorem inB_true {c : Int} (h : inB c = true) : 32 ≤ c ∧ c ≤ 126 ∧ (c == 92) = false ∧ (c == 34) = false := by
  simp only [inB, decide_eq_true_eq] at h
  simp only [beq_eq_false_iff_ne]
  omega
theorem inB_false {c : Int} (h : inB c = false) (h' : c ≠ 34) : c < 32 ∨ 126 < c ∨ c = 92 := by
  simp only [inB, decide_eq_false_iff_not] at h
  omega

theorem ps_no (b : Nat) (s : ByteArray) (p k : Nat) (w : World) (hs : Sc w b s p) (hn : s.size ≤ 1048576) (hk : RunEnd spB s p k) (hq : k < s.size → gb s k ≠ 34) :
    Calls Try.prog 19 #[.pointer (some ⟨b, 0, none⟩)] w fun e w' => e = .returned (.tuple #[.string ⟨#[]⟩, .bool false]) ∧ Sc w' b s k ∧ Touch b w w' := by
  have HK : Hid (RunEnd spB s p k) := hk
  have HQ : Hid (k < s.size → gb s k ≠ 34) := hq
  clear hk hq
  go_enter Try.func19, Try.ntmps19
  go_wp2_with (go_at_call 21; refine (tok_no b s p k _ hs hn HK.out HQ.out).mono ?_; rintro e w1 ⟨rfl, hs1, ht1⟩)
  go_ret2
  exact ⟨rfl, hs1, ht1⟩

set_option maxHeartbeats 1000000 in
theorem ps_run (b : Nat) (s : ByteArray) (p k m : Nat) (w : World) (hs : Sc w b s p) (hn : s.size ≤ 1048576) (hk : RunEnd spB s p k) (hq : k < s.size) (h34 : gb s k = 34) (hm : RunEnd inB s (k + 1) m)
    (t : ByteArray) (ok : Bool) (z : Nat) (hres : (m < s.size ∧ gb s m = 34 ∧ t = s.extract (k + 1) m ∧ ok = true ∧ z = m + 1) ∨ ((m < s.size → gb s m ≠ 34) ∧ t = ⟨#[]⟩ ∧ ok = false ∧ z = m)) :
    Calls Try.prog 19 #[.pointer (some ⟨b, 0, none⟩)] w fun e w' => e = .returned (.tuple #[.string t, .bool ok]) ∧ Sc w' b s z ∧ Touch b w w' := by
  have HK : Hid (RunEnd spB s p k) := hk
  have H34 : Hid (gb s k = 34) := h34
  have hm1 := hm.1
  have hm2 := hm.2.1
  have HA : Hid (∀ i, k + 1 ≤ i → i < m → inB (gb s i) = true) := hm.2.2.1
  have HE : Hid (m < s.size → inB (gb s m) = false) := hm.2.2.2
  have HR : Hid ((m < s.size ∧ gb s m = 34 ∧ t = s.extract (k + 1) m ∧ ok = true ∧ z = m + 1) ∨ ((m < s.size → gb s m ≠ 34) ∧ t = ⟨#[]⟩ ∧ ok = false ∧ z = m)) := hres
  clear hk h34 hm hres
  go_enter Try.func19, Try.ntmps19
  go_wp2_with (go_at_call 21; refine (tok_yes b s p k _ hs hn HK.out hq H34.out).mono ?_; rintro e w1 ⟨rfl, hs1, ht1⟩; have hpos1 := hs1.pos)
  go_loopg [2] (m - (k + 1)) (fun r _ wr => ∃ q : Nat, k + 1 ≤ q ∧ q ≤ m ∧ r = m - q ∧ Sc wr b s q ∧ Touch b w wr)
  case atStart => exact ⟨k + 1, Nat.le_refl _, hm1, rfl, hs1, ht1⟩
  case round =>
    obtain ⟨q, hq1, hq2, hr, hsc, hto⟩ := hrel
    have HG : Hid (gk = m - q) := hr
    clear hr
    have htxt := hsc.txt
    have hpos := hsc.pos
    have hfz := hsc.fz
    by_cases hlt : q < s.size
    · have hlt' : (q : Int) < (s.size : Int) := by omega
      have hbyte := gb_at hlt
      by_cases hqm : q < m
      · have hin := inB_true (HA.out q hq1 hqm)
        obtain ⟨c, hc⟩ : ∃ c, gb s q = c := ⟨_, rfl⟩
        rw [hc] at hbyte hin
        have i1 := hin.1
        have i2 := hin.2.1
        have i3 := hin.2.2.1
        have i4 := hin.2.2.2
        clear hc hin
        go_wp2
        go_quiet (fail)
        go_wp2
        go_quiet (fail)
        go_wp2
        go_roundg (m - (q + 1))
        case measure => have := HG.out; omega
        case rel => exact ⟨q + 1, by omega, by omega, rfl, (hsc.move' (q + 1) (by omega)).drewN _, (hto.trans (Touch.set _ _ _ _)).trans (Touch.drewN _ _ _)⟩
      · have hqe : q = m := by omega
        subst hqe
        rcases HR.out with ⟨_, g34, ht, hok, hz⟩ | ⟨gn, ht, hok, hz⟩
        · rw [g34] at hbyte
          have HT : Hid (t = s.extract (k + 1) q) := ht
          have HO : Hid (ok = true) := hok
          have HZ : Hid (z = q + 1) := hz
          clear g34 ht hok hz
          go_wp2
          go_quiet (fail)
          go_wp2
          go_quiet (fail)
          go_wp2
          have hkq : (k : Int) + 1 ≤ (q : Int) := by omega
          have hqs : (q : Int) ≤ (s.size : Int) := by omega
          go_quiet (fail)
          go_wp2
          go_ret2
          refine ⟨?_, by rw [HZ.out]; exact ((hsc.move' (q + 1) (by omega)).drewN _).drewN _, ((hto.trans (Touch.set _ _ _ _)).trans (Touch.drewN _ _ _)).trans (Touch.drewN _ _ _)⟩
          rw [HT.out, HO.out]
          rfl
        · have hni := inB_false (HE.out hlt) (gn hlt)
          obtain ⟨c, hc⟩ : ∃ c, gb s q = c := ⟨_, rfl⟩
          have h34' := gn hlt
          rw [hc] at hbyte hni h34'
          have g1 : (c == 34) = false := by simpa using h34'
          have HT : Hid (t = ⟨#[]⟩) := ht
          have HO : Hid (ok = false) := hok
          have HZ : Hid (z = q) := hz
          clear hc ht hok hz gn h34'
          rcases hni with h | h | h
          · go_wp2
            go_quiet (fail)
            go_wp2
            go_quiet (fail)
            go_wp2
            go_ret2
            exact ⟨by rw [HT.out, HO.out]; rfl, by rw [HZ.out]; exact hsc.drewN _, hto.trans (Touch.drewN _ _ _)⟩
          · have h32 : ¬ c < 32 := by omega
            go_wp2
            go_quiet (fail)
            go_wp2
            go_quiet (fail)
            go_wp2
            go_ret2
            exact ⟨by rw [HT.out, HO.out]; rfl, by rw [HZ.out]; exact hsc.drewN _, hto.trans (Touch.drewN _ _ _)⟩
          · rw [h] at hbyte
            clear h g1
            go_wp2
            go_quiet (fail)
            go_wp2
            go_quiet (fail)
            go_wp2
            go_ret2
            exact ⟨by rw [HT.out, HO.out]; rfl, by rw [HZ.out]; exact hsc.drewN _, hto.trans (Touch.drewN _ _ _)⟩
    · have hqe : q = m := by omega
      have hlt' : ¬ (q : Int) < (s.size : Int) := by omega
      rcases HR.out with ⟨hm, _⟩ | ⟨gn, ht, hok, hz⟩
      · omega
      · have HT : Hid (t = ⟨#[]⟩) := ht
        have HO : Hid (ok = false) := hok
        have HZ : Hid (z = q) := by rw [hqe]; exact hz
        clear ht hok hz gn hqe
        go_wp2
        go_quiet (fail)
        go_wp2
        go_ret2
        exact ⟨by rw [HT.out, HO.out]; rfl, by rw [HZ.out]; exact hsc.drewN _, hto.trans (Touch.drewN _ _ _)⟩

/-- What plainString answers, whatever block the scanner lies in. -/
def PS (s : ByteArray) (p : Nat) (t : ByteArray) (ok : Bool) (z : Nat) : Prop :=
  ∀ (b : Nat) (w : World), Sc w b s p → Calls Try.prog 19 #[.pointer (some ⟨b, 0, none⟩)] w fun e w' => e = .returned (.tuple #[.string t, .bool ok]) ∧ Sc w' b s z ∧ Touch b w w'

theorem zzps (s : ByteArray) (p z : Nat) (t : ByteArray) (ok : Bool) (w : World) (h : PS s p t ok z) :
    Calls Try.prog 14 #[.string s, .int .i64 p] w fun e w' => e = .returned (.tuple #[.string t, .bool ok, .int .i64 z]) ∧ GT w w' := by
  have hs : Sc (w.alloc (.cells #[.string s, .int .i64 p] 40)) w.heap.size s p := heap_alloc_new w _
  have HP : Hid (PS s p t ok z) := h
  clear h
  go_enter Try.func14, Try.ntmps14
  go_wp2_with (go_at_call 19; refine (HP.out w.heap.size _ hs).mono ?_; rintro e w1 ⟨rfl, hs1, ht1⟩; have hpos1 := hs1.pos)
  go_quiet (fail)
  go_wp2
  go_ret3
  exact ⟨rfl, GT.of (ht1.trans (Touch.drewN _ _ _))⟩

theorem pr_any (c : Int) (w : World) : Calls Try.prog 12 #[.int .u8 c] w fun e w' => e = .returned (.bool (prB c)) ∧ w = w' := by
  by_cases h1 : 32 ≤ c
  · by_cases h2 : c ≤ 126
    · by_cases h3 : c = 92
      · subst h3
        go_enter Try.func12, Try.ntmps12
        go_wp2
        go_ret
        exact ⟨rfl, rfl⟩
      · have h3' : (c != 92) = true := by simpa using h3
        have HP : Hid (prB c = true) := by simp only [prB, decide_eq_true_eq]; exact ⟨h1, h2, h3⟩
        clear h3
        go_enter Try.func12, Try.ntmps12
        go_wp2
        go_ret
        exact ⟨ret_bool HP.out.symm, rfl⟩
    · have HP : Hid (prB c = false) := by
        show prB c = false
        simp only [prB, decide_eq_false_iff_not]; omega
      go_enter Try.func12, Try.ntmps12
      go_wp2
      go_ret
      exact ⟨ret_bool HP.out.symm, rfl⟩
  · have HP : Hid (prB c = false) := by
        show prB c = false
        simp only [prB, decide_eq_false_iff_not]; omega
    go_enter Try.func12, Try.ntmps12
    go_wp2
    go_ret
    exact ⟨ret_bool HP.out.symm, rfl⟩
end Go.Proofs.Qxb6605439a.Sp
