import Derived.Test.Qxb6606287aRows
import Derived.WalkKit
import Derived.WalkSpells
import Derived.Deep.QuietTactic
import Derived.BigQuiet
import Derived.Deep.Light
namespace Go.Proofs.Qxb6606287a.Ref
open Go.RowKit
set_option linter.unusedVariables false
set_option linter.unusedSimpArgs false

theorem ret_bool {a b : Bool} (h : a = b) : Ending.returned (.bool a) = .returned (.bool b) := by rw [h]

/-- The byte at place k, as a number; 0 behind the end. -/
def gb (s : ByteArray) (k : Nat) : Int := if h : k < s.size then ((s[k]'h).toNat : Int) else 0
theorem gb_at {s : ByteArray} {k : Nat} (h : k < s.size) : ((s[k]'h).toNat : Int) = gb s k := by unfold gb; rw [dif_pos h]
theorem gb_bd (s : ByteArray) (k : Nat) : 0 ≤ gb s k ∧ gb s k ≤ 255 := by
  unfold gb
  split
  · have := (s[k]).toNat_lt; omega
  · omega

/-- Is c among the bytes of A? -/
def hasB (A : ByteArray) (c : Int) : Bool := A.data.toList.any fun x => (x.toNat : Int) == c

theorem has_of {A : ByteArray} {c : Int} {k : Nat} (hk : k < A.size) (h : gb A k = c) : hasB A c = true := by
  unfold hasB
  rw [List.any_eq_true]
  refine ⟨A[k], ?_, ?_⟩
  · show A.data[k] ∈ A.data.toList
    simp
  · rw [gb_at hk, h]; simp

theorem has_not {A : ByteArray} {c : Int} (h : ∀ k, k < A.size → gb A k ≠ c) : hasB A c = false := by
  unfold hasB
  rw [List.any_eq_false]
  intro x hx
  obtain ⟨i, hi, rfl⟩ := List.mem_iff_getElem.1 hx
  have hi' : i < A.size := by simpa using hi
  have := h i hi'
  rw [← gb_at hi'] at this
  intro hh
  apply this
  have h1 := beq_iff_eq.1 hh
  rw [← h1, Array.getElem_toList]
  rfl

theorem idx_any (A : ByteArray) (c : Int) (w : World) (hA : A.size ≤ 1048576) :
    Calls Try.prog 12 #[.string A, .int .u8 c] w fun e w' => ∃ r : Int, e = .returned (.int .i64 r) ∧ ((hasB A c = true ∧ 0 ≤ r) ∨ (hasB A c = false ∧ r = -1)) ∧ w = w' := by
  go_enter Try.func12, Try.ntmps12
  go_wp2
  go_loop [5] (fun v => ∃ k : Nat, k ≤ A.size ∧ v = .int .i64 k ∧ Hid (∀ j, j < k → gb A j ≠ c)) (fun v => A.size - (intOf v).toNat)
  case atStart => exact ⟨0, Nat.zero_le _, rfl, fun j h => by omega⟩
  case round =>
    obtain ⟨k, hk, rfl, hall⟩ := hrel
    by_cases hlt : k < A.size
    · have hlt' : (k : Int) < (A.size : Int) := by omega
      have hbyte := gb_at hlt
      obtain ⟨x, hx⟩ : ∃ x, gb A k = x := ⟨_, rfl⟩
      have HX : Hid (gb A k = x) := hx
      rw [hx] at hbyte
      clear hx
      by_cases e : x = c
      · have he : (x == c) = true := by simpa using e
        have HH : Hid (hasB A c = true) := has_of hlt (HX.out.trans e)
        clear e
        go_wp2
        go_ret
        exact ⟨k, rfl, .inl ⟨HH.out, by omega⟩, rfl⟩
      · have he : (x == c) = false := by simpa using e
        have HNE : Hid (x ≠ c) := e
        clear e
        go_wp2
        go_round
        case rel =>
          refine ⟨k + 1, by omega, by go_num, fun j hj => ?_⟩
          by_cases ej : j = k
          · rw [ej, HX.out]; exact HNE.out
          · exact hall.out j (by omega)
        case measure => simp [intOf]; omega
    · have hlt' : ¬ (k : Int) < (A.size : Int) := by omega
      have HH : Hid (hasB A c = false) := has_not (fun j hj => hall.out j (by omega))
      go_wp2
      go_ret
      exact ⟨-1, rfl, .inr ⟨HH.out, rfl⟩, rfl⟩
end Go.Proofs.Qxb6606287a.Ref
