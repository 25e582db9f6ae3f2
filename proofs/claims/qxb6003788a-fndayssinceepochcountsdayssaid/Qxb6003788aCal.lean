namespace Go.Proofs.Qxb6003788a.Cal
set_option linter.unusedVariables false
def lpB (y : Int) : Bool := decide (y % 4 = 0 ∧ (y % 100 ≠ 0 ∨ y % 400 = 0))
def ml (y m : Int) : Int := if m = 2 then (if lpB y = true then 29 else 28) else if m = 4 ∨ m = 6 ∨ m = 9 ∨ m = 11 then 30 else 31
def dse (y m d : Int) : Int :=
  let z := (if m < 3 then y - 1 else y) + 400
  (z / 400) * 146097 + ((z % 400) * 365 + (z % 400) / 4 - (z % 400) / 100 + ((153 * ((m + 9) % 12) + 2) / 5 + d - 1)) - 146097 - 719468

theorem ml_bd (y m : Int) : 28 ≤ ml y m ∧ ml y m ≤ 31 := by unfold ml; split <;> split <;> omega

theorem step_day (y m d : Int) : dse y m (d + 1) = dse y m d + 1 := by unfold dse; simp only; omega

theorem step_year (y : Int) : dse (y + 1) 1 1 = dse y 12 31 + 1 := by
  unfold dse; simp only
  rw [if_pos (by omega), if_neg (by omega)]
  have : y + 1 - 1 = y := by omega
  rw [this]; omega

theorem step_month (y m d : Int) (h1 : 1 ≤ m) (h2 : m ≤ 11) (hd : d = ml y m) : dse y (m + 1) 1 = dse y m d + 1 := by
  subst hd
  by_cases e2 : m = 2
  · subst e2
    unfold dse ml lpB; simp only [if_true]
    rw [if_neg (by omega), if_pos (by omega)]
    have hz : (y - 1 + 400) % 400 = 399 ∨ (y - 1 + 400) % 400 < 399 := by omega
    rcases hz with hz | hz
    · have e1 : (y + 400) % 400 = 0 := by omega
      have e2 : (y + 400) / 400 = (y - 1 + 400) / 400 + 1 := by omega
      rw [e1, e2, hz]
      rw [if_pos (by simp; omega)]
      omega
    · have e1 : (y + 400) % 400 = (y - 1 + 400) % 400 + 1 := by omega
      have e2 : (y + 400) / 400 = (y - 1 + 400) / 400 := by omega
      have e3 : y % 400 = (y - 1 + 400) % 400 + 1 := by omega
      rw [e1, e2]
      generalize hr : (y - 1 + 400) % 400 = r at *
      generalize (y - 1 + 400) / 400 = q at *
      have f4 : y % 4 = (r + 1) % 4 := by omega
      have f100 : y % 100 = (r + 1) % 100 := by omega
      have r0 : 0 ≤ r := by omega
      clear hr e1 e2
      by_cases hl : y % 4 = 0 ∧ (y % 100 ≠ 0 ∨ y % 400 = 0)
      · rw [if_pos (by simpa using hl)]; omega
      · rw [if_neg (by simpa using hl)]; omega
  · have : m = 1 ∨ m = 3 ∨ m = 4 ∨ m = 5 ∨ m = 6 ∨ m = 7 ∨ m = 8 ∨ m = 9 ∨ m = 10 ∨ m = 11 := by omega
    rcases this with rfl | rfl | rfl | rfl | rfl | rfl | rfl | rfl | rfl | rfl <;> (simp [dse, ml]; try omega)
theorem dse_bd (y m d : Int) (h0 : 0 ≤ y) (h1 : y ≤ 1000001) (m0 : 1 ≤ m) (m1 : m ≤ 12) (d0 : 1 ≤ d) (d1 : d ≤ 31) : -1000000 ≤ dse y m d ∧ dse y m d ≤ 1000000000 := by
  unfold dse; simp only
  by_cases h : m < 3
  · rw [if_pos h]; omega
  · rw [if_neg h]; omega
theorem epoch : dse 1970 1 1 = 0 := by decide
end Go.Proofs.Qxb6003788a.Cal
