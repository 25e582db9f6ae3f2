import Derived.Test.Qxb6003788aRows
import Derived.Test.Qxb6003788aAid
import Derived.Test.Qxb6003788aDec
import Derived.WalkSpells
import Derived.Laws.BytesArg
import Derived.Deep.QuietTactic
import Derived.BigQuiet
import Derived.Deep.Light
namespace Go.Proofs.Qxb6003788a.Scan
open Go.RowKit Go.Proofs.Qxb6003788a.Aid Go.Proofs.Qxb6003788a.Dec
set_option linter.unusedVariables false
set_option linter.unusedSimpArgs false

theorem digit_any (c : Int) (w : World) : Calls Try.prog 33 #[.int .u8 c] w fun e w' => e = .returned (.bool (digB c)) ∧ w' = w := by
  by_cases h : 48 ≤ c
  · by_cases h' : c ≤ 57
    · go_enter Try.func33, Try.ntmps33
      go_wp2
      go_ret
      exact ⟨ret_bool (by simp [digB, h, h']), rfl⟩
    · go_enter Try.func33, Try.ntmps33
      go_wp2
      go_ret
      exact ⟨ret_bool (by simp [digB]; omega), rfl⟩
  · go_enter Try.func33, Try.ntmps33
    go_wp2
    go_ret
    exact ⟨ret_bool (by simp [digB]; omega), rfl⟩

/-- The scanner's digits: it stands behind the run of digits. -/
theorem digits_any (s g n p : Nat) (a : Option Addr) (Z : List Int) (w : World) (ha : (a = none ∧ n = 0) ∨ a = some ⟨g, 0, none⟩) (hZ : Z.length = n) (hn : n ≤ 1048576) (hp : p ≤ n)
    (hb : w.cell? ⟨s, 0, none⟩ = some (.slice a n n)) (hpos : w.cell? ⟨s, 1, none⟩ = some (.int .i64 p)) (hfz : w.frozen? ⟨s, 1, none⟩ = false)
    (hc : ∀ i, i < n → w.cell? ⟨g, i, none⟩ = some (.int .u8 (Z.getD i 0))) :
    Calls Try.prog 29 #[.pointer (some ⟨s, 0, none⟩)] w fun e w' => e = .returned (.tuple #[]) ∧ ∃ k, IsEnd Z p k ∧ w' = w.setCell ⟨s, 1, none⟩ (.int .i64 (k : Int)) := by
  have HC : Hid (∀ i, i < n → w.cell? ⟨g, i, none⟩ = some (.int .u8 (Z.getD i 0))) := hc
  clear hc
  go_enter Try.func29, Try.ntmps29
  go_wp2
  go_loop [2] (fun i => ∃ k : Nat, p ≤ k ∧ k ≤ n ∧ i = .int .i64 k ∧ Hid (∀ j, p ≤ j → j < k → digB (Z.getD j 0) = true)) (fun i => n - (intOf i).toNat)
  case atStart => exact ⟨p, Nat.le_refl _, hp, rfl, fun j h1 h2 => by omega⟩
  case round =>
    obtain ⟨k, hpk, hkn, rfl, hall⟩ := hrel
    by_cases hlt : k < n
    · have hck := HC.out k hlt
      obtain rfl : a = some ⟨g, 0, none⟩ := by
        rcases ha with ⟨_, h⟩ | h
        · omega
        · exact h
      clear ha
      obtain ⟨c, hcd⟩ : ∃ c, Z.getD k 0 = c := ⟨_, rfl⟩
      rw [hcd] at hck
      have HD : Hid (Z.getD k 0 = c) := hcd
      clear hcd
      cases hd : digB c
      · go_wp2_with (go_at_call 33; refine (digit_any _ _).mono ?_; rintro e w' ⟨rfl, rfl⟩)
        go_end0
        exact ⟨rfl, k, ⟨hpk, by omega, hall.out, fun _ => by rw [HD.out]; exact hd⟩, rfl⟩
      · go_wp2_with (go_at_call 33; refine (digit_any _ _).mono ?_; rintro e w' ⟨rfl, rfl⟩)
        go_round
        case rel =>
          refine ⟨k + 1, by omega, by omega, by go_num, fun j h1 h2 => ?_⟩
          by_cases e : j = k
          · rw [e, HD.out]; exact hd
          · exact hall.out j h1 (by omega)
        case measure => simp [intOf]; omega
    · go_wp2_with (go_at_call 33; refine (digit_any _ _).mono ?_; rintro e w' ⟨rfl, rfl⟩)
      go_end0
      exact ⟨rfl, k, ⟨hpk, by omega, hall.out, fun h => by omega⟩, rfl⟩

/-- The byte at the scanner's position, or 0. -/
def pk (Z : List Int) (p : Nat) : Int := if p < Z.length then Z.getD p 0 else 0

theorem peek_any (s g n p : Nat) (a : Option Addr) (Z : List Int) (w : World) (ha : (a = none ∧ n = 0) ∨ a = some ⟨g, 0, none⟩) (hZ : Z.length = n) (hn : n ≤ 1048576) (hp : p ≤ n)
    (hb : w.cell? ⟨s, 0, none⟩ = some (.slice a n n)) (hpos : w.cell? ⟨s, 1, none⟩ = some (.int .i64 p))
    (hc : ∀ i, i < n → w.cell? ⟨g, i, none⟩ = some (.int .u8 (Z.getD i 0))) :
    Calls Try.prog 30 #[.pointer (some ⟨s, 0, none⟩)] w fun e w' => e = .returned (.int .u8 (pk Z p)) ∧ ∃ nq, w' = w.drewN nq := by
  by_cases hlt : p < n
  · have hck := hc p hlt
    obtain rfl : a = some ⟨g, 0, none⟩ := by
      rcases ha with ⟨_, h⟩ | h
      · omega
      · exact h
    have HP : Hid (pk Z p = Z.getD p 0) := by unfold pk; rw [if_pos (by omega)]; trivial
    obtain ⟨c, hcd⟩ : ∃ c, Z.getD p 0 = c := ⟨_, rfl⟩
    rw [hcd] at hck HP
    clear ha hc hcd
    have hlt' : (p : Int) < (n : Int) := by omega
    go_enter Try.func30, Try.ntmps30
    go_wp2
    go_quiet (fail)
    go_wp2
    go_quiet (fail)
    go_wp2
    go_ret
    exact ⟨ret_int HP.out.symm, _, World.drewN_drewN _ _ _⟩
  · have HP : Hid (pk Z p = 0) := by unfold pk; rw [if_neg (by omega)]; trivial
    clear hc
    have hlt' : ¬ (p : Int) < (n : Int) := by omega
    go_enter Try.func30, Try.ntmps30
    go_wp2
    go_quiet (fail)
    go_wp2
    go_ret
    exact ⟨ret_int HP.out.symm, _, rfl⟩
end Go.Proofs.Qxb6003788a.Scan
