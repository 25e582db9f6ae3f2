namespace Go.Proofs.Qxb6605363a.Tr
set_option linter.unusedVariables false
set_option linter.unusedSimpArgs false
/-- Where the byte at place q behind a swap of the records at I and J comes from, k bytes of each swapped. -/
def tr (I J k q : Nat) : Nat := if I ≤ q ∧ q < I + k then J + (q - I) else if J ≤ q ∧ q < J + k then I + (q - J) else q

/-- Z' is Z with k bytes at I and J swapped. -/
def Swp (Z Z' : List Int) (I J k : Nat) : Prop := Z'.length = Z.length ∧ ∀ q, Z'.getD q 0 = Z.getD (tr I J k q) 0

theorem Swp.zero (Z : List Int) (I J : Nat) : Swp Z Z I J 0 := ⟨rfl, fun q => by unfold tr; rw [if_neg (by omega), if_neg (by omega)]⟩

theorem getD_set (Y : List Int) (i q : Nat) (x : Int) (hi : i < Y.length) : (Y.set i x).getD q 0 = if q = i then x else Y.getD q 0 := by
  by_cases e : q = i
  · subst e; rw [if_pos rfl]; simp [List.getD, hi]
  · rw [if_neg e]; simp [List.getD, List.getElem?_set, Ne.symm e]

theorem tr_succ (I J k q : Nat) (h1 : ¬ q = I + k) (h2 : ¬ q = J + k) : tr I J k q = tr I J (k + 1) q := by
  unfold tr
  by_cases c1 : I ≤ q ∧ q < I + k
  · rw [if_pos c1, if_pos (show I ≤ q ∧ q < I + (k + 1) by omega)]
  · rw [if_neg c1, if_neg (show ¬ (I ≤ q ∧ q < I + (k + 1)) by omega)]
    by_cases c2 : J ≤ q ∧ q < J + k
    · rw [if_pos c2, if_pos (show J ≤ q ∧ q < J + (k + 1) by omega)]
    · rw [if_neg c2, if_neg (show ¬ (J ≤ q ∧ q < J + (k + 1)) by omega)]

theorem Swp.step {Z Y : List Int} {I J s k : Nat} (h : Swp Z Y I J k) (hk : k < s) (hI : I + s ≤ Z.length) (hJ : J + s ≤ Z.length) (hd : I = J ∨ I + s ≤ J ∨ J + s ≤ I) :
    Swp Z ((Y.set (I + k) (Y.getD (J + k) 0)).set (J + k) (Y.getD (I + k) 0)) I J (k + 1) := by
  obtain ⟨h1, h2⟩ := h
  refine ⟨by simpa using h1, fun q => ?_⟩
  have ea : Y.getD (I + k) 0 = Z.getD (I + k) 0 := by
    rw [h2]; congr 1; unfold tr; rw [if_neg (by omega)]
    by_cases e : J ≤ I + k ∧ I + k < J + k
    · rw [if_pos e]; omega
    · rw [if_neg e]
  have eb : Y.getD (J + k) 0 = Z.getD (J + k) 0 := by
    rw [h2]; congr 1; unfold tr
    by_cases e : I ≤ J + k ∧ J + k < I + k
    · rw [if_pos e]; omega
    · rw [if_neg e, if_neg (by omega)]
  rw [getD_set _ _ _ _ (by simp; omega), getD_set _ _ _ _ (by omega), ea, eb, h2]
  by_cases e1 : q = J + k
  · rw [if_pos e1]
    congr 1
    subst e1
    unfold tr
    by_cases e2 : I ≤ J + k ∧ J + k < I + (k + 1)
    · rw [if_pos e2]; omega
    · rw [if_neg e2, if_pos (by omega)]; omega
  · rw [if_neg e1]
    by_cases e2 : q = I + k
    · rw [if_pos e2]
      congr 1
      subst e2
      unfold tr
      rw [if_pos (by omega)]; omega
    · rw [if_neg e2]
      rw [tr_succ I J k q e2 e1]
theorem apart (R i s : Nat) (h : R ≠ i) : R * s + s ≤ i * s ∨ i * s + s ≤ R * s := by
  rcases Nat.lt_or_gt_of_ne h with h | h
  · left
    have := Nat.mul_le_mul_right s (show R + 1 ≤ i from h)
    rwa [Nat.add_mul, Nat.one_mul] at this
  · right
    have := Nat.mul_le_mul_right s (show i + 1 ≤ R from h)
    rwa [Nat.add_mul, Nat.one_mul] at this
theorem apart' (i j s : Nat) : i * s = j * s ∨ i * s + s ≤ j * s ∨ j * s + s ≤ i * s := by
  by_cases h : i = j
  · exact .inl (by rw [h])
  · exact .inr (apart i j s h)
theorem fits (i s n : Nat) (hs : 0 < s) (h : i < n / s) : i * s + s ≤ n := by
  have h1 := Nat.mul_le_mul_right s (show i + 1 ≤ n / s from h)
  rw [Nat.add_mul, Nat.one_mul] at h1
  exact Nat.le_trans h1 (Nat.div_mul_le_self n s)

theorem tr_first (I J s p : Nat) (h : I ≤ p ∧ p < I + s) : tr I J s p = J + (p - I) := by unfold tr; rw [if_pos h]
theorem tr_second (I J s p : Nat) (h' : ¬ (I ≤ p ∧ p < I + s)) (h : J ≤ p ∧ p < J + s) : tr I J s p = I + (p - J) := by unfold tr; rw [if_neg h', if_pos h]
theorem tr_none (I J s p : Nat) (h' : ¬ (I ≤ p ∧ p < I + s)) (h : ¬ (J ≤ p ∧ p < J + s)) : tr I J s p = p := by unfold tr; rw [if_neg h', if_neg h]
end Go.Proofs.Qxb6605363a.Tr
