namespace Go.Proofs.Qxb6003788a.Dec
set_option linter.unusedVariables false
/-- Is c the byte of a decimal digit? -/
def digB (c : Int) : Bool := decide (48 ≤ c ∧ c ≤ 57)
theorem digB_true {c : Int} (h : digB c = true) : 48 ≤ c ∧ c ≤ 57 := by simpa [digB] using h
theorem digB_false {c : Int} (h : digB c = false) : ¬ (48 ≤ c ∧ c ≤ 57) := by
  simp only [digB, decide_eq_false_iff_not] at h; exact h

/-- The run of digits that begins at p ends at k. -/
def IsEnd (Z : List Int) (p k : Nat) : Prop := p ≤ k ∧ k ≤ Z.length ∧ (∀ i, p ≤ i → i < k → digB (Z.getD i 0) = true) ∧ (k < Z.length → digB (Z.getD k 0) = false)

theorem IsEnd.uniq {Z : List Int} {p k k' : Nat} (h : IsEnd Z p k) (h' : IsEnd Z p k') : k = k' := by
  obtain ⟨a1, a2, a3, a4⟩ := h
  obtain ⟨b1, b2, b3, b4⟩ := h'
  rcases Nat.lt_trichotomy k k' with hlt | heq | hgt
  · have e1 := a4 (by omega)
    have e2 := b3 k a1 hlt
    rw [e1] at e2; exact absurd e2 (by decide)
  · exact heq
  · have e1 := b4 (by omega)
    have e2 := a3 k' b1 hgt
    rw [e1] at e2; exact absurd e2 (by decide)

/-- What the digits spell. -/
def dval : List Int → Int
  | [] => 0
  | c :: r => (c - 48) * 10 ^ r.length + dval r

def digs (l : List Int) : Prop := ∀ c ∈ l, 48 ≤ c ∧ c ≤ 57

theorem pow_pos10 (n : Nat) : (0 : Int) < 10 ^ n := Int.pow_pos (by decide)

theorem dval_bd : ∀ (l : List Int), digs l → 0 ≤ dval l ∧ dval l < 10 ^ l.length
  | [], _ => by simp [dval]
  | c :: r, h => by
    have hc := h c (by simp)
    have hr := dval_bd r (fun x hx => h x (by simp [hx]))
    have hp := pow_pos10 r.length
    simp only [dval, List.length_cons, Int.pow_succ]
    have h1 : 0 ≤ (c - 48) * 10 ^ r.length := Int.mul_nonneg (by omega) (by omega)
    have h2 : (c - 48) * 10 ^ r.length ≤ 9 * 10 ^ r.length := Int.mul_le_mul_of_nonneg_right (by omega) (by omega)
    omega

theorem dval_snoc : ∀ (l : List Int) (c : Int), dval (l ++ [c]) = dval l * 10 + (c - 48)
  | [], c => by simp [dval]
  | x :: r, c => by
    simp only [List.cons_append, dval, List.length_append, List.length_cons, List.length_nil, dval_snoc r c, Int.pow_succ, Nat.zero_add]
    have : (x - 48) * (10 ^ r.length * 10) = (x - 48) * 10 ^ r.length * 10 := by rw [Int.mul_assoc]
    omega

/-- Two texts of digits of one length, alike up to a place where the first is less: the first spells less. -/
theorem dval_lt (pre r r' : List Int) (x y : Int) (hl : r.length = r'.length) (hd : digs (pre ++ x :: r)) (hd' : digs (pre ++ y :: r')) (hxy : x < y) : dval (pre ++ x :: r) < dval (pre ++ y :: r') := by
  induction pre with
  | nil =>
    simp only [List.nil_append, dval] at *
    have h1 := dval_bd r (fun c hc => hd c (by simp [hc]))
    have h2 := dval_bd r' (fun c hc => hd' c (by simp [hc]))
    rw [← hl] at h2 ⊢
    have hp := pow_pos10 r.length
    have h3 : (x - 48 + 1) * 10 ^ r.length ≤ (y - 48) * 10 ^ r.length := Int.mul_le_mul_of_nonneg_right (by omega) (by omega)
    rw [Int.add_mul] at h3
    omega
  | cons c t ih =>
    simp only [List.cons_append, dval]
    have := ih (fun z hz => hd z (by simp at hz ⊢; right; exact hz)) (fun z hz => hd' z (by simp at hz ⊢; right; exact hz))
    have e : (t ++ x :: r).length = (t ++ y :: r').length := by simp [hl]
    rw [e]
    omega

def maxTxt : List Int := [49, 56, 52, 52, 54, 55, 52, 52, 48, 55, 51, 55, 48, 57, 53, 53, 49, 54, 49, 53]
theorem maxTxt_len : maxTxt.length = 20 := by decide
theorem maxTxt_val : dval maxTxt = 18446744073709551615 := by decide
theorem maxTxt_digs : digs maxTxt := by unfold digs maxTxt; decide

theorem split_at (l : List Int) (i : Nat) (hi : i < l.length) : l = l.take i ++ l.getD i 0 :: l.drop (i + 1) := by
  simp [List.getD, hi]

theorem gt_at (l : List Int) (i : Nat) (hl : l.length = 20) (hd : digs l) (hi : i < 20) (hp : ∀ j, j < i → l.getD j 0 = maxTxt.getD j 0) (hg : maxTxt.getD i 0 < l.getD i 0) : 18446744073709551615 < dval l := by
  have e1 := split_at l i (by omega)
  have e2 := split_at maxTxt i (by rw [maxTxt_len]; omega)
  have ep : l.take i = maxTxt.take i := by
    apply List.ext_getElem
    · simp [hl, maxTxt_len]
    · intro j h1 h2
      simp only [List.length_take] at h1
      have := hp j (by omega)
      simp only [List.getElem_take]
      have h3 : j < l.length := by omega
      have h4 : j < maxTxt.length := by rw [maxTxt_len]; omega
      simpa [List.getD, h3, h4] using this
  have hm := maxTxt_digs
  rw [e2] at hm
  rw [e1] at hd
  have := dval_lt (maxTxt.take i) (maxTxt.drop (i + 1)) (l.drop (i + 1)) _ _ (by simp [hl, maxTxt_len]) hm (by rw [← ep]; exact hd) hg
  rw [← e2, maxTxt_val, ← ep, ← e1] at this
  exact this

theorem lt_at (l : List Int) (i : Nat) (hl : l.length = 20) (hd : digs l) (hi : i < 20) (hp : ∀ j, j < i → l.getD j 0 = maxTxt.getD j 0) (hg : l.getD i 0 < maxTxt.getD i 0) : dval l < 18446744073709551615 := by
  have e1 := split_at l i (by omega)
  have e2 := split_at maxTxt i (by rw [maxTxt_len]; omega)
  have ep : l.take i = maxTxt.take i := by
    apply List.ext_getElem
    · simp [hl, maxTxt_len]
    · intro j h1 h2
      simp only [List.length_take] at h1
      have := hp j (by omega)
      simp only [List.getElem_take]
      have h3 : j < l.length := by omega
      have h4 : j < maxTxt.length := by rw [maxTxt_len]; omega
      simpa [List.getD, h3, h4] using this
  have hm := maxTxt_digs
  rw [e2] at hm
  rw [e1] at hd
  have := dval_lt (maxTxt.take i) (l.drop (i + 1)) (maxTxt.drop (i + 1)) _ _ (by simp [hl, maxTxt_len]) (by rw [← ep]; exact hd) hm hg
  rw [← e2, maxTxt_val, ← ep, ← e1] at this
  exact this

theorem eq_all (l : List Int) (hl : l.length = 20) (hp : ∀ j, j < 20 → l.getD j 0 = maxTxt.getD j 0) : dval l = 18446744073709551615 := by
  have : l = maxTxt := by
    apply List.ext_getElem
    · rw [hl, maxTxt_len]
    · intro j h1 h2
      have := hp j (by omega)
      simpa [List.getD, h1, h2] using this
  rw [this, maxTxt_val]

/-- Is a time spelt? -/
def okB (l : List Int) : Bool := decide (1 ≤ l.length ∧ l.length ≤ 20 ∧ l.getD 0 0 ≠ 48 ∧ dval l ≤ 18446744073709551615)
end Go.Proofs.Qxb6003788a.Dec
