import Derived.Test.Qxb6606287aRef
namespace Go.Proofs.Qxb6606287a.Ref
open Go.RowKit
set_option linter.unusedVariables false
set_option linter.unusedSimpArgs false

/-- Are all bytes of s among those of A? -/
def allB (s A : ByteArray) : Prop := ∀ i, i < s.size → hasB A (gb s i) = true

theorem allin_any (s A : ByteArray) (w : World) (hs : s.size ≤ 1048576) (hA : A.size ≤ 1048576) (b : Bool) (hb : (b = true ∧ allB s A) ∨ (b = false ∧ ¬ allB s A)) :
    Calls Try.prog 13 #[.string s, .string A] w fun e w' => e = .returned (.bool b) ∧ w = w' := by
  have HB : Hid ((b = true ∧ allB s A) ∨ (b = false ∧ ¬ allB s A)) := hb
  clear hb
  go_enter Try.func13, Try.ntmps13
  go_wp2
  go_loop [5] (fun v => ∃ k : Nat, k ≤ s.size ∧ v = .int .i64 k ∧ Hid (∀ j, j < k → hasB A (gb s j) = true)) (fun v => s.size - (intOf v).toNat)
  case atStart => exact ⟨0, Nat.zero_le _, rfl, fun j h => by omega⟩
  case round =>
    obtain ⟨k, hk, rfl, hall⟩ := hrel
    by_cases hlt : k < s.size
    · have hlt' : (k : Int) < (s.size : Int) := by omega
      have hbyte := gb_at hlt
      obtain ⟨x, hx⟩ : ∃ x, gb s k = x := ⟨_, rfl⟩
      have HX : Hid (gb s k = x) := hx
      rw [hx] at hbyte
      clear hx
      go_wp2_with (go_at_call 12; refine (idx_any _ _ _ hA).mono ?_; rintro e w' ⟨r, rfl, hr, rfl⟩)
      · go_ret
        refine ⟨ret_bool ?_, rfl⟩
        have hr0 : r < 0 := by assumption
        rcases HB.out with ⟨_, h⟩ | ⟨h, _⟩
        · have := h k hlt
          rw [HX.out] at this
          rcases hr with ⟨_, h2⟩ | ⟨h2, _⟩
          · omega
          · rw [this] at h2; exact absurd h2 (by decide)
        · exact h.symm
      · have hr0 : 0 ≤ r := by assumption
        refine ⟨⟨k + 1, by omega, by go_num, fun j hj => ?_⟩, by simp [intOf]; omega⟩
        by_cases ej : j = k
        · rw [ej, HX.out]
          rcases hr with ⟨h2, _⟩ | ⟨_, h2⟩
          · exact h2
          · omega
        · exact hall.out j (by omega)
    · have hlt' : ¬ (k : Int) < (s.size : Int) := by omega
      go_wp2
      go_ret
      refine ⟨ret_bool ?_, rfl⟩
      rcases HB.out with ⟨h, _⟩ | ⟨_, h⟩
      · exact h.symm
      · exact absurd (fun j hj => hall.out j (by omega)) h

/-- The bytes of a ref name. -/
def rB (c : Int) : Bool := decide ((97 ≤ c ∧ c ≤ 122) ∨ (65 ≤ c ∧ c ≤ 90) ∨ (48 ≤ c ∧ c ≤ 57) ∨ c = 45 ∨ c = 95 ∨ c = 46 ∨ c = 58)
theorem rB_true {c : Int} (h : rB c = true) : (97 ≤ c ∧ c ≤ 122) ∨ (65 ≤ c ∧ c ≤ 90) ∨ (48 ≤ c ∧ c ≤ 57) ∨ c = 45 ∨ c = 95 ∨ c = 46 ∨ c = 58 := by simpa [rB] using h
theorem rB_false {c : Int} (h : rB c = false) : ¬ ((97 ≤ c ∧ c ≤ 122) ∨ (65 ≤ c ∧ c ≤ 90) ∨ (48 ≤ c ∧ c ≤ 57) ∨ c = 45 ∨ c = 95 ∨ c = 46 ∨ c = 58) := by
  simp only [rB, decide_eq_false_iff_not] at h; exact h

/-- A valid ref name, said plainly. -/
def Good (s : ByteArray) : Prop := 1 ≤ s.size ∧ s.size ≤ 255 ∧ gb s 0 ≠ 45 ∧ gb s 0 ≠ 46 ∧ ∀ i, i < s.size → rB (gb s i) = true

theorem size_empty {s : ByteArray} (h : s.size = 0) : s = ⟨#[]⟩ := by
  apply ByteArray.ext
  exact Array.eq_empty_of_size_eq_zero h

theorem nonempty {s : ByteArray} (h : 1 ≤ s.size) : s.toList.isEmpty = false := by
  rw [ByteArray.toList_eq]
  cases hl : s.data.toList with
  | nil =>
    have : s.data.toList.length = 0 := by rw [hl]; rfl
    simp at this
    have h2 : s.size = 0 := by unfold ByteArray.size; rw [this]; rfl
    omega
  | cons => rfl

set_option maxHeartbeats 1000000 in
theorem valid_any (s : ByteArray) (w : World) (hs : s.size ≤ 1048576) (b : Bool) (hb : (b = true ∧ Good s) ∨ (b = false ∧ ¬ Good s)) :
    Calls Try.prog 11 #[.string s] w fun e w' => e = .returned (.bool b) ∧ w = w' := by
  by_cases h0 : s.size = 0
  · obtain rfl := size_empty h0
    have hbf : b = false := by
      rcases hb with ⟨_, h⟩ | ⟨h, _⟩
      · exact absurd h.1 (by decide)
      · exact h
    subst hbf
    go_enter Try.func11, Try.ntmps11
    go_wp2
    go_ret
    exact ⟨rfl, rfl⟩
  have hne := nonempty (show 1 ≤ s.size by omega)
  by_cases h255 : 255 < s.size
  · have hbf : b = false := by
      rcases hb with ⟨_, h⟩ | ⟨h, _⟩
      · have := h.2.1; omega
      · exact h
    subst hbf
    have h255' : (255 : Int) < (s.size : Int) := by omega
    go_enter Try.func11, Try.ntmps11
    go_wp2
    go_ret
    exact ⟨rfl, rfl⟩
  have h255' : ¬ (255 : Int) < (s.size : Int) := by omega
  have hb0 := gb_at (show 0 < s.size by omega)
  have h0' : (0 : Int) < (s.size : Int) := by omega
  by_cases h45 : gb s 0 = 45
  · have hbf : b = false := by
      rcases hb with ⟨_, h⟩ | ⟨h, _⟩
      · exact absurd h45 h.2.2.1
      · exact h
    subst hbf
    rw [h45] at hb0
    clear h45 hb
    go_enter Try.func11, Try.ntmps11
    go_wp2
    go_ret
    exact ⟨rfl, rfl⟩
  by_cases h46 : gb s 0 = 46
  · have hbf : b = false := by
      rcases hb with ⟨_, h⟩ | ⟨h, _⟩
      · exact absurd h46 h.2.2.2.1
      · exact h
    subst hbf
    rw [h46] at hb0
    clear h46 h45 hb
    go_enter Try.func11, Try.ntmps11
    go_wp2
    go_ret
    exact ⟨rfl, rfl⟩
  have H45 : Hid (gb s 0 ≠ 45) := h45
  have H46 : Hid (gb s 0 ≠ 46) := h46
  have HB : Hid ((b = true ∧ Good s) ∨ (b = false ∧ ¬ Good s)) := hb
  obtain ⟨c0, hc0⟩ : ∃ c, gb s 0 = c := ⟨_, rfl⟩
  rw [hc0] at hb0 h45 h46
  have e45 : (c0 == 45) = false := by simpa using h45
  have e46 : (c0 == 46) = false := by simpa using h46
  clear hc0 h45 h46 hb
  go_enter Try.func11, Try.ntmps11
  go_wp2
  clear hb0 e45 e46
  go_loop [24] (fun v => ∃ k : Nat, k ≤ s.size ∧ v = .int .i64 k ∧ Hid (∀ j, j < k → rB (gb s j) = true)) (fun v => s.size - (intOf v).toNat)
  case atStart => exact ⟨0, Nat.zero_le _, rfl, fun j h => by omega⟩
  case round =>
    obtain ⟨k, hk, rfl, hall⟩ := hrel
    by_cases hlt : k < s.size
    · have hlt' : (k : Int) < (s.size : Int) := by omega
      have hbyte := gb_at hlt
      cases hr : rB (gb s k)
      · have hbf : b = false := by
          rcases HB.out with ⟨_, h⟩ | ⟨h, _⟩
          · have := h.2.2.2.2 k hlt
            rw [hr] at this; exact absurd this (by decide)
          · exact h
        have hno := rB_false hr
        obtain ⟨x, hx⟩ : ∃ x, gb s k = x := ⟨_, rfl⟩
        rw [hx] at hbyte hno
        have n1 : (x == 45) = false := by simp only [beq_eq_false_iff_ne]; omega
        have n2 : (x == 95) = false := by simp only [beq_eq_false_iff_ne]; omega
        have n3 : (x == 46) = false := by simp only [beq_eq_false_iff_ne]; omega
        have n4 : (x == 58) = false := by simp only [beq_eq_false_iff_ne]; omega
        have HBF : Hid (b = false) := hbf
        have hrg : (x < 48 ∨ (57 < x ∧ x < 65) ∨ (90 < x ∧ x < 97) ∨ 122 < x) := by omega
        clear hx hr hno hbf
        rcases hrg with h | ⟨h, h'⟩ | ⟨h, h'⟩ | h
        all_goals
          go_wp2
          go_ret
          exact ⟨ret_bool HBF.out.symm, rfl⟩
      · have hyes := rB_true hr
        have HR : Hid (rB (gb s k) = true) := hr
        obtain ⟨x, hx⟩ : ∃ x, gb s k = x := ⟨_, rfl⟩
        rw [hx] at hbyte hyes
        clear hx hr
        rcases hyes with ⟨h, h'⟩ | ⟨h, h'⟩ | ⟨h, h'⟩ | h | h | h | h
        · go_wp2
          go_round
          case rel => exact ⟨k + 1, by omega, by go_num, fun j hj => if e : j = k then by rw [e]; exact HR.out else hall.out j (by omega)⟩
          case measure => simp [intOf]; omega
        · go_wp2
          go_round
          case rel => exact ⟨k + 1, by omega, by go_num, fun j hj => if e : j = k then by rw [e]; exact HR.out else hall.out j (by omega)⟩
          case measure => simp [intOf]; omega
        · go_wp2
          go_round
          case rel => exact ⟨k + 1, by omega, by go_num, fun j hj => if e : j = k then by rw [e]; exact HR.out else hall.out j (by omega)⟩
          case measure => simp [intOf]; omega
        all_goals
          rw [h] at hbyte
          clear h
          go_wp2
          go_round
          case rel => exact ⟨k + 1, by omega, by go_num, fun j hj => if e : j = k then by rw [e]; exact HR.out else hall.out j (by omega)⟩
          case measure => simp [intOf]; omega
    · have hlt' : ¬ (k : Int) < (s.size : Int) := by omega
      have hgood : Good s := ⟨by omega, by omega, H45.out, H46.out, fun j hj => hall.out j (by omega)⟩
      have hbt : b = true := by
        rcases HB.out with ⟨h, _⟩ | ⟨_, h⟩
        · exact h
        · exact absurd hgood h
      have HBT : Hid (b = true) := hbt
      clear hbt hgood
      go_wp2
      go_ret
      exact ⟨ret_bool HBT.out.symm, rfl⟩
end Go.Proofs.Qxb6606287a.Ref
