import Derived.Test.Qxb6605363aRows
import Derived.Test.Qxb6605363aClone
import Derived.WalkSpells
import Derived.Deep.Light
namespace Go.Proofs.Qxb6605363a.CloneI
open Go.RowKit Go.Proofs.Qxb6605363a.Aid
open Go.Proofs.Qxb6605363a.Clone (set_step eq_take)
set_option linter.unusedVariables false
set_option linter.unusedSimpArgs false

theorem info3 : (Try.prog.info? 3).map (fun i => (i.zero, i.size, i.bytes)) = some (some (.int .i64 0), 1, 8) := by kernel_rfl

theorem clone_nil (w : World) : Calls Try.prog 9 #[.slice none 0 0] w fun e w' => e = .returned (.slice none 0 0) ∧ w' = w := by
  have hq : ∀ (w : World) (a : Option Addr) (n c n' c' : Nat), (binOp .eql 26 (.slice a n c) (.slice none n' c')).run Try.prog w = .ok (.bool a.isNone) w := fun w a n c n' c' => Lib.run_eql_slice_nil w _ _ a n c n' c' Try.underlying26
  go_enter Try.func9, Try.ntmps9
  go_wp2
  go_ret
  exact ⟨rfl, rfl⟩

set_option maxHeartbeats 400000 in
theorem clone_some (x : Addr) (len cap : Nat) (zs : List Int) (w : World) (hl : len ≤ cap) (hz : zs.length = cap) (hcell : ∀ i, i < zs.length → w.cell? (x.add i) = some (.int .i64 (zs.getD i 0))) (hlen : len ≤ 131072) :
    Calls Try.prog 9 #[.slice (some x) len cap] w fun e w' => e = .returned (.slice (some ⟨w.heap.size, 0, none⟩) len len) ∧ BRow w' w.heap.size .i64 3 (zs.take len) ∧ w'.heap.size = w.heap.size + 1 ∧ Below w.heap.size w w' := by
  have hq : ∀ (w : World) (a : Option Addr) (n c n' c' : Nat), (binOp .eql 26 (.slice a n c) (.slice none n' c')).run Try.prog w = .ok (.bool a.isNone) w := fun w a n c n' c' => Lib.run_eql_slice_nil w _ _ a n c n' c' Try.underlying26
  obtain ⟨i0, hi, hz0, hz1, hz2⟩ := info_parts info3
  have HC : Hid (∀ i, i < zs.length → w.cell? (x.add i) = some (.int .i64 (zs.getD i 0))) := hcell
  clear hcell
  go_enter Try.func9, Try.ntmps9
  go_wp2_with (first | (at_make; refine wpList_make_row _ rfl _ _ 26 rfl 3 i0 .i64 Try.underlying26 hi hz0 hz1 (by omega) _ _ _ _ len len rfl rfl rfl rfl (Nat.le_refl _) (by omega) ?_; intro w1 hrow1 hsz1 hb1))
  have HSZ : Hid (w1.heap.size = w.heap.size + 1) := hsz1
  clear hsz1
  go_loopw [4] (fun i wr => ∃ (k : Nat) (ys : List Int), k ≤ len ∧ i = .int .i64 k ∧ BRow wr w.heap.size .i64 3 ys ∧ ys.length = len ∧ Hid (∀ j, j < k → ys.getD j 0 = zs.getD j 0) ∧ Hid (wr.heap.size = w.heap.size + 1) ∧ Below w.heap.size w wr) (fun i _ => len - (intOf i).toNat)
  case atStart => exact ⟨0, _, Nat.zero_le _, rfl, hrow1, by simp, fun j hj => by omega, HSZ, hb1⟩
  case round =>
    obtain ⟨k, ys, hk, rfl, hrow, hys, hall, hsz, hbel⟩ := hrel
    by_cases hlt : k < len
    · have hcx := cell_later hbel (HC.out k (by omega))
      have hcy := hrow.cell k (by omega)
      have hfz := hrow.frozen k
      obtain ⟨b, off, rfl⟩ := plain_addr (HC.out 0 (by omega))
      have hcx' : wr.cell? ⟨b, off + k, none⟩ = some (.int .i64 (zs.getD k 0)) := by rw [← Addr.add_lit]; exact hcx
      obtain ⟨c, hc⟩ : ∃ c, zs.getD k 0 = c := ⟨_, rfl⟩
      have HV : Hid (zs.getD k 0 = c) := hc
      rw [hc] at hcx'
      obtain ⟨c', hc'⟩ : ∃ c, ys.getD k 0 = c := ⟨_, rfl⟩
      rw [hc'] at hcy
      clear hc hcx hc'
      have S := set_step ys zs k len (by omega) hlt hys hall.out
      rw [HV.out] at S
      have HS : Hid _ := S
      clear S
      go_wp2
      go_roundw
      case rel => exact ⟨k + 1, ys.set k c, by omega, by go_num, hrow.set k c, HS.out.1, HS.out.2, by have := hsz.out; simpa [Hid] using this, hbel.setCell (Nat.le_refl _) _⟩
      case measure => simp [intOf]; omega
    · have HE : Hid (ys = zs.take len) := eq_take ys zs len (by omega) hys (fun j hj => hall.out j (by omega))
      go_wp2
      go_ret
      exact ⟨rfl, by rw [← HE.out]; exact hrow, hsz.out, hbel⟩
end Go.Proofs.Qxb6605363a.CloneI
