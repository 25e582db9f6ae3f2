import Derived.Test.Qxb6003788aRows
import Derived.Test.Qxb6003788aAid
import Derived.WalkSpells
namespace Go.Proofs.Qxb6003788a.Clone
open Go.RowKit Go.Proofs.Qxb6003788a.Aid
set_option linter.unusedVariables false
set_option linter.unusedSimpArgs false

theorem info5 : (Try.prog.info? 5).map (fun i => (i.zero, i.size, i.bytes)) = some (some (.int .u8 0), 1, 1) := by kernel_rfl
theorem size5 : (Try.prog.info? 5).map (·.size) = some 1 := by kernel_rfl

theorem clone_nil (w : World) : Calls Try.prog 13 #[.slice none 0 0] w fun e w' => e = .returned (.slice none 0 0) ∧ w' = w := by
  have hq : ∀ (w : World) (a : Option Addr) (n c n' c' : Nat), (binOp .eql 27 (.slice a n c) (.slice none n' c')).run Try.prog w = .ok (.bool a.isNone) w := fun w a n c n' c' => Lib.run_eql_slice_nil w _ _ a n c n' c' Try.underlying27
  go_enter Try.func13, Try.ntmps13
  go_wp2
  go_ret
  exact ⟨rfl, rfl⟩

set_option maxHeartbeats 400000 in
theorem clone_some (x : Addr) (len cap : Nat) (zs : List Int) (w : World) (hl : len ≤ cap) (hz : zs.length = cap) (hcell : ∀ i, i < zs.length → w.cell? (x.add i) = some (.int .u8 (zs.getD i 0))) (hlen : len ≤ 1048576) :
    Calls Try.prog 13 #[.slice (some x) len cap] w fun e w' => e = .returned (.slice (some ⟨w.heap.size, 0, none⟩) len len) ∧ BRow w' w.heap.size .u8 5 (zs.take len) ∧ w'.heap.size = w.heap.size + 1 ∧ Below w.heap.size w w' := by
  have hq : ∀ (w : World) (a : Option Addr) (n c n' c' : Nat), (binOp .eql 27 (.slice a n c) (.slice none n' c')).run Try.prog w = .ok (.bool a.isNone) w := fun w a n c n' c' => Lib.run_eql_slice_nil w _ _ a n c n' c' Try.underlying27
  obtain ⟨i0, hi, hz0, hz1, hz2⟩ := info_parts info5
  go_enter Try.func13, Try.ntmps13
  go_wp2_with (first | (at_make; refine wpList_make_row _ rfl _ _ 27 rfl 5 i0 .u8 Try.underlying27 hi hz0 hz1 (by omega) _ _ _ _ len len rfl rfl rfl rfl (Nat.le_refl _) (by omega) ?_; intro w1 hrow1 hsz1 hb1) | (refine wpList_copy_row rfl (.tmp 9) (.tmp 10) 27 27 rfl 5 Try.underlying27 size5 x w.heap.size len len cap rfl rfl .u8 5 _ (zs.take len) hrow1 (by simp) (by simp; omega) ?_ w.heap.size w hb1 (Nat.le_refl _) ?_; rotate_left; intro w2 hrow2 hsz2 hb2))
  · go_ret
    exact ⟨rfl, hrow2, by omega, hb2⟩
  · intro j hj
    have e : (zs.take len).getD j 0 = zs.getD j 0 := by simp [List.getD, hj]
    rw [e]
    exact cell_later hb1 (hcell j (by omega))
/-- What a clone of a slice of bytes is: nil of a nil slice; else a new row of the same elements. -/
theorem clone_any (a : Option Addr) (len cap : Nat) (zs : List Int) (w : World)
    (h : (a = none ∧ len = 0 ∧ cap = 0 ∧ zs = []) ∨ ∃ x, a = some x ∧ len ≤ cap ∧ zs.length = cap ∧ (∀ i, i < zs.length → w.cell? (x.add i) = some (.int .u8 (zs.getD i 0)))) (hlen : len ≤ 1048576) :
    Calls Try.prog 13 #[.slice a len cap] w fun e w' => ∃ a', e = .returned (.slice a' len len) ∧ (a' = none → len = 0) ∧ (∀ ad, a' = some ad → ad = ⟨w.heap.size, 0, none⟩ ∧ BRow w' w.heap.size .u8 5 (zs.take len)) ∧ Below w.heap.size w w' := by
  rcases h with ⟨rfl, rfl, rfl, rfl⟩ | ⟨x, rfl, hl, hz, hcell⟩
  · refine (clone_nil w).mono ?_
    rintro e w' ⟨rfl, rfl⟩
    exact ⟨none, rfl, fun _ => rfl, fun ad h => by simp at h, Below.refl _ _⟩
  · refine (clone_some x len cap zs w hl hz hcell hlen).mono ?_
    rintro e w' ⟨rfl, hrow, hsz, hb⟩
    exact ⟨_, rfl, fun h => by simp at h, fun ad h => ⟨by simpa using h.symm, hrow⟩, hb⟩
end Go.Proofs.Qxb6003788a.Clone
