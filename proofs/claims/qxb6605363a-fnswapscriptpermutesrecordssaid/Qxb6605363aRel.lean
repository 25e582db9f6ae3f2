import Derived.Test.Qxb6605363aTr
namespace Go.Proofs.Qxb6605363a.Tr
set_option linter.unusedVariables false
set_option linter.unusedSimpArgs false

/-- The records of Y are those of Z in the order that P lists; what stands behind the full records is Z's. -/
def Rel (Z Y P : List Int) (s N n : Nat) : Prop :=
  Y.length = n ∧ P.length = N ∧ (∀ r, r < N → ∃ c : Nat, c < N ∧ P.getD r 0 = (c : Int) ∧ ∀ o, o < s → Y.getD (r * s + o) 0 = Z.getD (c * s + o) 0) ∧ ∀ q, N * s ≤ q → Y.getD q 0 = Z.getD q 0

theorem Rel.init (Z P : List Int) (s N n : Nat) (hZ : Z.length = n) (hP : P.length = N) (h : ∀ r, r < N → P.getD r 0 = (r : Int)) : Rel Z Z P s N n :=
  ⟨hZ, hP, fun r hr => ⟨r, hr, h r hr, fun _ _ => rfl⟩, fun _ _ => rfl⟩

theorem rec_le (a s N : Nat) (h : a < N) : a * s + s ≤ N * s := by
  have := Nat.mul_le_mul_right s (show a + 1 ≤ N from h)
  rwa [Nat.add_mul, Nat.one_mul] at this

theorem Rel.step {Z Y Y' P : List Int} {s N n a b : Nat} (h : Rel Z Y P s N n) (ha : a < N) (hb : b < N) (hs : Swp Y Y' (a * s) (b * s) s) :
    Rel Z Y' ((P.set a (P.getD b 0)).set b (P.getD a 0)) s N n := by
  obtain ⟨h1, h2, h3, h4⟩ := h
  obtain ⟨s1, s2⟩ := hs
  refine ⟨by rw [s1, h1], by simpa using h2, fun r hr => ?_, fun q hq => ?_⟩
  · rw [getD_set _ _ _ _ (by simp; omega), getD_set _ _ _ _ (by omega)]
    by_cases e1 : r = b
    · rw [if_pos e1]
      obtain ⟨c, hc, hp, hv⟩ := h3 a ha
      refine ⟨c, hc, hp, fun o ho => ?_⟩
      rw [s2, e1]
      by_cases eab : a = b
      · have : tr (a * s) (b * s) s (b * s + o) = a * s + o := by
          rw [eab, tr_first _ _ _ _ (by omega)]; omega
        rw [this]; exact hv o ho
      · have hap := apart a b s eab
        have : tr (a * s) (b * s) s (b * s + o) = a * s + o := by
          rw [tr_second _ _ _ _ (by omega) (by omega)]; omega
        rw [this]; exact hv o ho
    · rw [if_neg e1]
      by_cases e2 : r = a
      · rw [if_pos e2]
        obtain ⟨c, hc, hp, hv⟩ := h3 b hb
        refine ⟨c, hc, hp, fun o ho => ?_⟩
        rw [s2, e2]
        have : tr (a * s) (b * s) s (a * s + o) = b * s + o := by
          rw [tr_first _ _ _ _ (by omega)]; omega
        rw [this]; exact hv o ho
      · rw [if_neg e2]
        obtain ⟨c, hc, hp, hv⟩ := h3 r hr
        refine ⟨c, hc, hp, fun o ho => ?_⟩
        rw [s2]
        have hra := apart r a s e2
        have hrb := apart r b s e1
        have : tr (a * s) (b * s) s (r * s + o) = r * s + o := tr_none _ _ _ _ (by omega) (by omega)
        rw [this]; exact hv o ho
  · rw [s2]
    have l1 := rec_le a s N ha
    have l2 := rec_le b s N hb
    have : tr (a * s) (b * s) s q = q := tr_none _ _ _ _ (by omega) (by omega)
    rw [this]; exact h4 q hq
end Go.Proofs.Qxb6605363a.Tr
