import Derived.Test.Qxb6606287aAll
namespace Go.Proofs.Qxb6606287a.Ref
open Go.RowKit
set_option linter.unusedVariables false
set_option linter.unusedSimpArgs false

theorem idx_val (A : ByteArray) (c : Int) (w : World) (hA : A.size ≤ 1048576) (v : Bool) (hv : hasB A c = v) :
    Calls Try.prog 12 #[.string A, .int .u8 c] w fun e w' => ∃ r : Int, e = .returned (.int .i64 r) ∧ ((v = true ∧ 0 ≤ r) ∨ (v = false ∧ r = -1)) ∧ w = w' := by
  subst hv; exact idx_any A c w hA

theorem headF : ∀ k : Fin 256, hasB { data := #[97, 98, 99, 100, 101, 102, 103, 104, 105, 106, 107, 108, 109, 110, 111, 112, 113, 114, 115, 116, 117, 118, 119, 120, 121, 122, 65, 66, 67, 68, 69, 70, 71, 72, 73, 74, 75, 76, 77, 78, 79, 80, 81, 82, 83, 84, 85, 86, 87, 88, 89, 90, 48, 49, 50, 51, 52, 53, 54, 55, 56, 57, 95, 58] } (k.val : Int) = (rB k.val && !((k.val : Int) == 45) && !((k.val : Int) == 46)) := by decide +kernel
theorem tailF : ∀ k : Fin 256, hasB { data := #[97, 98, 99, 100, 101, 102, 103, 104, 105, 106, 107, 108, 109, 110, 111, 112, 113, 114, 115, 116, 117, 118, 119, 120, 121, 122, 65, 66, 67, 68, 69, 70, 71, 72, 73, 74, 75, 76, 77, 78, 79, 80, 81, 82, 83, 84, 85, 86, 87, 88, 89, 90, 48, 49, 50, 51, 52, 53, 54, 55, 56, 57, 45, 95, 46, 58] } (k.val : Int) = rB k.val := by decide +kernel

theorem head_has (c : Int) (h0 : 0 ≤ c) (h1 : c ≤ 255) : hasB { data := #[97, 98, 99, 100, 101, 102, 103, 104, 105, 106, 107, 108, 109, 110, 111, 112, 113, 114, 115, 116, 117, 118, 119, 120, 121, 122, 65, 66, 67, 68, 69, 70, 71, 72, 73, 74, 75, 76, 77, 78, 79, 80, 81, 82, 83, 84, 85, 86, 87, 88, 89, 90, 48, 49, 50, 51, 52, 53, 54, 55, 56, 57, 95, 58] } c = (rB c && !(c == 45) && !(c == 46)) := by
  obtain ⟨n, rfl⟩ := Int.eq_ofNat_of_zero_le h0
  exact headF ⟨n, by omega⟩
theorem tail_has (c : Int) (h0 : 0 ≤ c) (h1 : c ≤ 255) : hasB { data := #[97, 98, 99, 100, 101, 102, 103, 104, 105, 106, 107, 108, 109, 110, 111, 112, 113, 114, 115, 116, 117, 118, 119, 120, 121, 122, 65, 66, 67, 68, 69, 70, 71, 72, 73, 74, 75, 76, 77, 78, 79, 80, 81, 82, 83, 84, 85, 86, 87, 88, 89, 90, 48, 49, 50, 51, 52, 53, 54, 55, 56, 57, 45, 95, 46, 58] } c = rB c := by
  obtain ⟨n, rfl⟩ := Int.eq_ofNat_of_zero_le h0
  exact tailF ⟨n, by omega⟩

theorem ext_size (s : ByteArray) : (s.extract 1 s.size).size = s.size - 1 := by simp
theorem gb_ext (s : ByteArray) (i : Nat) (h : i + 1 < s.size) : gb (s.extract 1 s.size) i = gb s (i + 1) := by
  have h' : i < (s.extract 1 s.size).size := by rw [ext_size]; omega
  rw [← gb_at h', ← gb_at h]
  have e : (s.extract 1 s.size)[i] = s[i + 1] := by
    rw [ByteArray.getElem_extract]
    congr 1
    omega
  rw [e]

theorem tail_all (s : ByteArray) (h1 : 1 ≤ s.size) : allB (s.extract 1 s.size) { data := #[97, 98, 99, 100, 101, 102, 103, 104, 105, 106, 107, 108, 109, 110, 111, 112, 113, 114, 115, 116, 117, 118, 119, 120, 121, 122, 65, 66, 67, 68, 69, 70, 71, 72, 73, 74, 75, 76, 77, 78, 79, 80, 81, 82, 83, 84, 85, 86, 87, 88, 89, 90, 48, 49, 50, 51, 52, 53, 54, 55, 56, 57, 45, 95, 46, 58] } ↔ ∀ i, 1 ≤ i → i < s.size → rB (gb s i) = true := by
  constructor
  · intro h i hi hs
    have := h (i - 1) (by rw [ext_size]; omega)
    rw [gb_ext s (i - 1) (by omega), show i - 1 + 1 = i by omega, tail_has _ (gb_bd s i).1 (gb_bd s i).2] at this
    exact this
  · intro h i hi
    rw [ext_size] at hi
    rw [gb_ext s i (by omega), tail_has _ (gb_bd s (i + 1)).1 (gb_bd s (i + 1)).2]
    exact h (i + 1) (by omega) (by omega)

set_option maxHeartbeats 400000 in
theorem model_any (s : ByteArray) (w : World) (hs : s.size ≤ 1048576) (b : Bool) (hb : (b = true ∧ Good s) ∨ (b = false ∧ ¬ Good s)) :
    Calls Try.prog 8 #[.string s] w fun e w' => e = .returned (.bool b) ∧ w = w' := by
  by_cases h1 : s.size < 1
  · have hbf : b = false := by
      rcases hb with ⟨_, h⟩ | ⟨h, _⟩
      · have := h.1; omega
      · exact h
    subst hbf
    have h1' : (s.size : Int) < 1 := by omega
    go_enter Try.func8, Try.ntmps8
    go_wp2
    go_ret
    exact ⟨rfl, rfl⟩
  by_cases h2 : 255 < s.size
  · have hbf : b = false := by
      rcases hb with ⟨_, h⟩ | ⟨h, _⟩
      · have := h.2.1; omega
      · exact h
    subst hbf
    have h1' : ¬ (s.size : Int) < 1 := by omega
    have h2' : (255 : Int) < (s.size : Int) := by omega
    go_enter Try.func8, Try.ntmps8
    go_wp2
    go_ret
    exact ⟨rfl, rfl⟩
  have h1' : ¬ (s.size : Int) < 1 := by omega
  have h2' : ¬ (255 : Int) < (s.size : Int) := by omega
  have h0' : (0 : Int) < (s.size : Int) := by omega
  have hl1 : (1 : Int) ≤ (s.size : Int) := by omega
  have hb0 := gb_at (show 0 < s.size by omega)
  have hbd := gb_bd s 0
  have HH : Hid (hasB { data := #[97, 98, 99, 100, 101, 102, 103, 104, 105, 106, 107, 108, 109, 110, 111, 112, 113, 114, 115, 116, 117, 118, 119, 120, 121, 122, 65, 66, 67, 68, 69, 70, 71, 72, 73, 74, 75, 76, 77, 78, 79, 80, 81, 82, 83, 84, 85, 86, 87, 88, 89, 90, 48, 49, 50, 51, 52, 53, 54, 55, 56, 57, 95, 58] } (gb s 0) = (rB (gb s 0) && !(gb s 0 == 45) && !(gb s 0 == 46))) := head_has _ hbd.1 hbd.2
  have HT : Hid (allB (s.extract 1 s.size) { data := #[97, 98, 99, 100, 101, 102, 103, 104, 105, 106, 107, 108, 109, 110, 111, 112, 113, 114, 115, 116, 117, 118, 119, 120, 121, 122, 65, 66, 67, 68, 69, 70, 71, 72, 73, 74, 75, 76, 77, 78, 79, 80, 81, 82, 83, 84, 85, 86, 87, 88, 89, 90, 48, 49, 50, 51, 52, 53, 54, 55, 56, 57, 45, 95, 46, 58] } ↔ ∀ i, 1 ≤ i → i < s.size → rB (gb s i) = true) := tail_all s (by omega)
  have hes : (s.extract 1 s.size).size ≤ 1048576 := by rw [ext_size]; omega
  have HES : Hid ((s.extract 1 s.size).size ≤ 1048576) := hes
  clear hbd hes
  cases hv : (rB (gb s 0) && !(gb s 0 == 45) && !(gb s 0 == 46))
  · have hbf : b = false := by
      rcases hb with ⟨_, h⟩ | ⟨h, _⟩
      · have e1 := h.2.2.2.2 0 (by omega)
        have e2 : (gb s 0 == 45) = false := by simpa using h.2.2.1
        have e3 : (gb s 0 == 46) = false := by simpa using h.2.2.2.1
        rw [e1, e2, e3] at hv; exact absurd hv (by decide)
      · exact h
    subst hbf
    rw [hv] at HH
    obtain ⟨c0, hc0⟩ : ∃ c, gb s 0 = c := ⟨_, rfl⟩
    rw [hc0] at hb0 HH
    clear hc0 hv hb
    go_enter Try.func8, Try.ntmps8
    go_wp2_with (go_at_call 12; refine (idx_val _ _ _ (by decide) false HH.out).mono ?_; rintro e w' ⟨r, rfl, hr, rfl⟩; have hr' : r < 0 := by (rcases hr with ⟨h, _⟩ | ⟨_, h⟩; (exact absurd h (by decide)); omega))
    go_ret
    exact ⟨rfl, rfl⟩
  · have HBB : Hid ((b = true ∧ allB (s.extract 1 s.size) { data := #[97, 98, 99, 100, 101, 102, 103, 104, 105, 106, 107, 108, 109, 110, 111, 112, 113, 114, 115, 116, 117, 118, 119, 120, 121, 122, 65, 66, 67, 68, 69, 70, 71, 72, 73, 74, 75, 76, 77, 78, 79, 80, 81, 82, 83, 84, 85, 86, 87, 88, 89, 90, 48, 49, 50, 51, 52, 53, 54, 55, 56, 57, 45, 95, 46, 58] }) ∨ (b = false ∧ ¬ allB (s.extract 1 s.size) { data := #[97, 98, 99, 100, 101, 102, 103, 104, 105, 106, 107, 108, 109, 110, 111, 112, 113, 114, 115, 116, 117, 118, 119, 120, 121, 122, 65, 66, 67, 68, 69, 70, 71, 72, 73, 74, 75, 76, 77, 78, 79, 80, 81, 82, 83, 84, 85, 86, 87, 88, 89, 90, 48, 49, 50, 51, 52, 53, 54, 55, 56, 57, 45, 95, 46, 58] })) := by
      simp only [Bool.and_eq_true, Bool.not_eq_true', beq_eq_false_iff_ne] at hv
      rcases hb with ⟨h, h'⟩ | ⟨h, h'⟩
      · exact .inl ⟨h, HT.out.2 (fun i _ hi => h'.2.2.2.2 i hi)⟩
      · refine .inr ⟨h, fun hall => h' ⟨by omega, by omega, hv.1.2, hv.2, fun i hi => ?_⟩⟩
        by_cases e : i = 0
        · rw [e]; exact hv.1.1
        · exact HT.out.1 hall i (by omega) hi
    rw [hv] at HH
    obtain ⟨c0, hc0⟩ : ∃ c, gb s 0 = c := ⟨_, rfl⟩
    rw [hc0] at hb0 HH
    clear hc0 hv hb HT
    go_enter Try.func8, Try.ntmps8
    go_wp2_with (first | (go_at_call 12; refine (idx_val _ _ _ (by decide) true HH.out).mono ?_; rintro e w' ⟨r, rfl, hr, rfl⟩; have hr' : ¬ r < 0 := by (rcases hr with ⟨_, h⟩ | ⟨h, _⟩; omega; (exact absurd h (by decide)))) | (go_at_call 13; refine (allin_any _ _ _ HES.out (by decide) b HBB.out).mono ?_; rintro e w' ⟨rfl, rfl⟩))
    go_ret
    exact ⟨rfl, rfl⟩

theorem zz_any (s : ByteArray) (w : World) (hs : s.size ≤ 1048576) (b : Bool) (hb : (b = true ∧ Good s) ∨ (b = false ∧ ¬ Good s)) :
    Calls Try.prog 7 #[.string s] w fun e w' => e = .returned (.bool b) ∧ w = w' := by
  have HB : Hid ((b = true ∧ Good s) ∨ (b = false ∧ ¬ Good s)) := hb
  clear hb
  go_enter Try.func7, Try.ntmps7
  go_wp2_with (go_at_call 11; refine (valid_any s _ hs b HB.out).mono ?_; rintro e w' ⟨rfl, rfl⟩)
  go_ret
  exact ⟨rfl, rfl⟩

theorem law (s : ByteArray) (w : World) (hs : s.size ≤ 1048576) : Calls Try.prog 3 #[.string s] w fun e w' => e = .returned (.bool true) ∧ Grown w w' := by
  obtain ⟨b, hb⟩ : ∃ b : Bool, (b = true ∧ Good s) ∨ (b = false ∧ ¬ Good s) := by
    by_cases h : Good s
    · exact ⟨true, .inl ⟨rfl, h⟩⟩
    · exact ⟨false, .inr ⟨rfl, h⟩⟩
  have HB : Hid ((b = true ∧ Good s) ∨ (b = false ∧ ¬ Good s)) := hb
  clear hb
  go_enter Try.func3, Try.ntmps3
  go_wp2_with (first | (go_at_call 7; refine (zz_any s _ hs b HB.out).mono ?_; rintro e w' ⟨rfl, rfl⟩) | (go_at_call 8; refine (model_any s _ hs b HB.out).mono ?_; rintro e w' ⟨rfl, rfl⟩) | (go_at_call 6; go_in))
  go_ret
  exact ⟨ret_bool (by simp), Grown.refl _⟩
end Go.Proofs.Qxb6606287a.Ref
