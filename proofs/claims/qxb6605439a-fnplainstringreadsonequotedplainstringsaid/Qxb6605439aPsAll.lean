import Derived.Test.Qxb6605439aPsB
import Derived.Test.Qxb6605439aPsQ
import Derived.Test.Qxb6605439aPsE
namespace Go.Proofs.Qxb6605439a.Sp
open Go.RowKit
set_option linter.unusedVariables false
set_option linter.unusedSimpArgs false

theorem in_of {c : Int} (h1 : prB c = true) (h2 : nqB c = true) : inB c = true := by
  simp only [prB, decide_eq_true_eq] at h1
  have h3 : c ≠ 34 := by have := nqB_true h2; simpa using this
  simp only [inB, decide_eq_true_eq]
  exact ⟨h1, h3⟩
theorem in_not_pr {c : Int} (h1 : prB c = false) : inB c = false := by
  simp only [prB, decide_eq_false_iff_not] at h1
  simp only [inB, decide_eq_false_iff_not]
  exact fun h => h1 h.1
theorem in_not_q {c : Int} (h1 : c = 34) : inB c = false := by rw [h1]; decide

theorem law_all (s : ByteArray) (p : Nat) (w : World) (hn : s.size ≤ 1048576) (hp : p ≤ s.size) :
    Calls Try.prog 5 #[.string s, .int .i64 p] w fun e w' => e = .returned (.bool true) ∧ Grown w w' := by
  obtain ⟨k, hk⟩ := run_ex' spB s p hp
  by_cases hq : k < s.size ∧ gb s k = 34
  · obtain ⟨hks, h34⟩ := hq
    obtain ⟨q, hq⟩ := run_ex' nqB s (k + 1) (by omega)
    obtain ⟨b, hb⟩ := run_ex' prB s (k + 1) (by omega)
    obtain ⟨q1, q2, q3, q4⟩ := hq
    obtain ⟨b1, b2, b3, b4⟩ := hb
    by_cases hbq : b < q
    · have hm : RunEnd inB s (k + 1) b := ⟨b1, b2, fun i hi hib => in_of (b3 i hi hib) (q3 i hi (by omega)), fun h => in_not_pr (b4 h)⟩
      have hne : gb s b ≠ 34 := by have := nqB_true (q3 b b1 hbq); simpa using this
      exact law_b s p k q b w hn hp hk hks h34 ⟨q1, q2, q3, q4⟩ ⟨b1, b2, b3, b4⟩ hbq (fun g w0 hs => ps_run g s p k b w0 hs hn hk hks h34 hm _ _ _ (.inr ⟨fun _ => hne, rfl, rfl, rfl⟩))
    · have hm : RunEnd inB s (k + 1) q := ⟨q1, q2, fun i hi hiq => in_of (b3 i hi (by omega)) (q3 i hi hiq), fun h => in_not_q (nqB_false (q4 h))⟩
      by_cases hqs : q < s.size
      · exact law_q s p k q b w hn hp hk hks h34 ⟨q1, q2, q3, q4⟩ ⟨b1, b2, b3, b4⟩ (by omega) hqs (fun g w0 hs => ps_run g s p k q w0 hs hn hk hks h34 hm _ _ _ (.inl ⟨hqs, nqB_false (q4 hqs), rfl, rfl, rfl⟩))
      · have hqe : s.size = q := by omega
        exact law_e s p k q b w hn hp hk hks h34 ⟨q1, q2, q3, q4⟩ ⟨b1, b2, b3, b4⟩ (by omega) (by omega) (fun g w0 hs => ps_run g s p k q w0 hs hn hk hks h34 hm _ _ _ (.inr ⟨fun h => by omega, rfl, rfl, hqe⟩))
  · exact law_no s p k w hn hp hk (fun h h' => hq ⟨h, h'⟩)
end Go.Proofs.Qxb6605439a.Sp
