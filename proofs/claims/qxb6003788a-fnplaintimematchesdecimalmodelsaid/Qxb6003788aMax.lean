import Derived.Test.Qxb6003788aRows
import Derived.Test.Qxb6003788aAid
import Derived.Test.Qxb6003788aDec
import Derived.WalkSpells
import Derived.Deep.QuietTactic
import Derived.BigQuiet
import Derived.Deep.Light
namespace Go.Proofs.Qxb6003788a.Max
open Go.RowKit Go.Proofs.Qxb6003788a.Aid Go.Proofs.Qxb6003788a.Dec
set_option linter.unusedVariables false
set_option linter.unusedSimpArgs false

theorem mxF : ∀ k : Fin 20, (((({ data := #[49, 56, 52, 52, 54, 55, 52, 52, 48, 55, 51, 55, 48, 57, 53, 53, 49, 54, 49, 53] } : ByteArray)[k.val]'(k.isLt)).toNat : Nat) : Int) = maxTxt.getD k.val 0 := by decide
theorem mx (k : Nat) (h : k < ({ data := #[49, 56, 52, 52, 54, 55, 52, 52, 48, 55, 51, 55, 48, 57, 53, 53, 49, 54, 49, 53] } : ByteArray).size) : ((((({ data := #[49, 56, 52, 52, 54, 55, 52, 52, 48, 55, 51, 55, 48, 57, 53, 53, 49, 54, 49, 53] } : ByteArray))[k]'h).toNat : Nat) : Int) = maxTxt.getD k 0 := mxF ⟨k, h⟩

set_option maxHeartbeats 800000 in
theorem gt_any (g d c : Nat) (D : List Int) (w : World) (hD : D.length = 20) (hdg : digs D)
    (hc : ∀ i, i < 20 → w.cell? ⟨g, d + i, none⟩ = some (.int .u8 (D.getD i 0))) :
    Calls Try.prog 15 #[.slice (some ⟨g, d, none⟩) 20 c] w fun e w' => e = .returned (.bool (decide (18446744073709551615 < dval D))) ∧ ∃ nq, w' = w.drewN nq := by
  have HC : Hid (∀ i, i < 20 → w.cell? ⟨g, d + i, none⟩ = some (.int .u8 (D.getD i 0))) := hc
  clear hc
  go_enter Try.func15, Try.ntmps15
  go_wp2
  go_loopw [3] (fun i wr => ∃ (k nq : Nat), k ≤ 20 ∧ i = .int .i64 k ∧ wr = w.drewN nq ∧ Hid (∀ j, j < k → D.getD j 0 = maxTxt.getD j 0)) (fun i _ => 20 - (intOf i).toNat)
  case atStart => exact ⟨0, 0, Nat.zero_le _, rfl, rfl, fun j h => by omega⟩
  case round =>
    obtain ⟨k, nq0, hk, rfl, rfl, hall⟩ := hrel
    by_cases hlt : k < 20
    · have hck := HC.out k hlt
      obtain ⟨x, hx⟩ : ∃ c, D.getD k 0 = c := ⟨_, rfl⟩
      rw [hx] at hck
      have HX : Hid (D.getD k 0 = x) := hx
      clear hx
      have hlt' : (k : Int) < 20 := by omega
      go_wp2
      go_quiet (fail)
      go_wp2
      · have hne : (x != ((((({ data := #[49, 56, 52, 52, 54, 55, 52, 52, 48, 55, 51, 55, 48, 57, 53, 53, 49, 54, 49, 53] } : ByteArray))[k]'(by exact hlt)).toNat : Nat) : Int)) = true := by assumption
        have hne' : x ≠ maxTxt.getD k 0 := by
          rw [← mx k hlt]; simpa using hne
        have HM : Hid (((((({ data := #[49, 56, 52, 52, 54, 55, 52, 52, 48, 55, 51, 55, 48, 57, 53, 53, 49, 54, 49, 53] } : ByteArray))[k]'(by exact hlt)).toNat : Nat) : Int) = maxTxt.getD k 0) := mx k hlt
        have HNE : Hid (x ≠ maxTxt.getD k 0) := hne'
        clear hne hne'
        go_quiet (fail)
        go_wp2
        go_ret
        refine ⟨ret_bool ?_, _, by rw [World.drewN_drewN, World.drewN_drewN]⟩
        rw [HM.out, ← HX.out]
        rcases Int.lt_trichotomy (D.getD k 0) (maxTxt.getD k 0) with h | h | h
        · have := lt_at D k hD hdg hlt hall.out h
          rw [decide_eq_false (by omega), decide_eq_false (by omega)]
        · exact absurd (HX.out ▸ h) HNE.out
        · have := gt_at D k hD hdg hlt hall.out h
          rw [decide_eq_true (by omega), decide_eq_true (by omega)]
      · have he : (x != ((((({ data := #[49, 56, 52, 52, 54, 55, 52, 52, 48, 55, 51, 55, 48, 57, 53, 53, 49, 54, 49, 53] } : ByteArray))[k]'(by exact hlt)).toNat : Nat) : Int)) = false := by assumption
        have he' : x = maxTxt.getD k 0 := by
          rw [← mx k hlt]; simpa using he
        refine ⟨⟨k + 1, _, by omega, by go_num, rfl, fun j hj => ?_⟩, by simp [intOf]; omega⟩
        by_cases e : j = k
        · rw [e, HX.out]; exact he'
        · exact hall.out j (by omega)
    · go_wp2
      go_ret
      refine ⟨ret_bool ?_, _, rfl⟩
      have := eq_all D hD (fun j hj => hall.out j (by omega))
      rw [this]; simp
end Go.Proofs.Qxb6003788a.Max
