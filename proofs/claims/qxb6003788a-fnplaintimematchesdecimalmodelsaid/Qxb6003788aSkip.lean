import Derived.Test.Qxb6003788aScan
namespace Go.Proofs.Qxb6003788a.Scan
open Go.RowKit Go.Proofs.Qxb6003788a.Aid Go.Proofs.Qxb6003788a.Dec
set_option linter.unusedVariables false
set_option linter.unusedSimpArgs false

/-- The string of the bytes from p on, m of them. -/
def subS (Z : List Int) (p m : Nat) : ByteArray := strOfNums ((Z.drop p).take m)

theorem conv_row (g p m c : Nat) (Z : List Int) (w : World) (h : p + m ≤ Z.length) (hc : ∀ i, i < Z.length → w.cell? ⟨g, i, none⟩ = some (.int .u8 (Z.getD i 0))) :
    (convert 27 9 (.slice (some ⟨g, p, none⟩) m c)).run Try.prog w = .ok (.string (subS Z p m)) w := by
  refine run_convert_bytes_arg (P := Try.prog) w 27 5 Try.underlying27 Try.underlying5 g p m c ((Z.drop p).take m) (by simp; omega) ?_ 9 Try.underlying9
  intro i hi
  rw [hc (p + i) (by omega)]
  simp [List.getD, hi]

theorem conv_none (m c : Nat) (w : World) : (convert 27 9 (.slice none m c)).run Try.prog w = .ok (.string ByteArray.empty) w :=
  run_convert_bytes_nil w 27 5 Try.underlying27 Try.underlying5 m c 9 Try.underlying9

theorem conv_zero (g p c : Nat) (w : World) : (convert 27 9 (.slice (some ⟨g, p, none⟩) 0 c)).run Try.prog w = .ok (.string ⟨#[]⟩) w :=
  run_convert_bytes_arg (P := Try.prog) w 27 5 Try.underlying27 Try.underlying5 g p 0 c [] rfl (fun i hi => by omega) 9 Try.underlying9

theorem skip_past (s n p : Nat) (a : Option Addr) (pre : ByteArray) (w : World) (hn : n ≤ 1048576) (hp : p ≤ n) (hpre : pre.size ≤ 1048576) (hpast : n < p + pre.size)
    (hb : w.cell? ⟨s, 0, none⟩ = some (.slice a n n)) (hpos : w.cell? ⟨s, 1, none⟩ = some (.int .i64 p)) :
    Calls Try.prog 28 #[.pointer (some ⟨s, 0, none⟩), .string pre] w fun e w' => e = .returned (.bool false) ∧ ∃ nq, w' = w.drewN nq := by
  have hd : (n : Int) < (p : Int) + (pre.size : Int) := by omega
  go_enter Try.func28, Try.ntmps28
  go_wp2
  go_quiet (fail)
  go_wp2
  go_ret
  exact ⟨rfl, _, rfl⟩

/-- Do the bytes from p on begin with pre? -/
def mtB (Z : List Int) (p : Nat) (pre : ByteArray) : Bool := (subS Z p pre.size).toList == pre.toList

set_option maxHeartbeats 400000 in
theorem skip_row_yes (s g n p : Nat) (Z : List Int) (pre : ByteArray) (w : World) (hZ : Z.length = n) (hn : n ≤ 1048576) (hp : p ≤ n) (hpre : p + pre.size ≤ n) (hm0 : 0 < pre.size) (hm : mtB Z p pre = true)
    (hb : w.cell? ⟨s, 0, none⟩ = some (.slice (some ⟨g, 0, none⟩) n n)) (hpos : w.cell? ⟨s, 1, none⟩ = some (.int .i64 p)) (hfz : w.frozen? ⟨s, 1, none⟩ = false)
    (hc : ∀ i, i < n → w.cell? ⟨g, i, none⟩ = some (.int .u8 (Z.getD i 0))) :
    Calls Try.prog 28 #[.pointer (some ⟨s, 0, none⟩), .string pre] w fun e w' => e = .returned (.bool true) ∧ ∃ nq, w' = (w.setCell ⟨s, 1, none⟩ (.int .i64 ((p : Int) + (pre.size : Int)))).drewN nq := by
  have hd : ¬ (n : Int) < (p : Int) + (pre.size : Int) := by omega
  have hd' : decide ((n : Int) < (p : Int) + (pre.size : Int)) = false := decide_eq_false hd
  have hconv : ∀ nq c, (convert 27 9 (.slice (some ⟨g, p, none⟩) pre.size c)).run Try.prog (w.drewN nq) = .ok (.string (subS Z p pre.size)) (w.drewN nq) := fun nq c => conv_row g p pre.size c Z _ (by omega) (fun i hi => by simpa using hc i (by omega))
  unfold mtB at hm
  obtain ⟨S, hS⟩ : ∃ S, subS Z p pre.size = S := ⟨_, rfl⟩
  rw [hS] at hconv hm
  clear hS hc
  go_enter Try.func28, Try.ntmps28
  go_wp2
  go_quiet (fail)
  go_wp2
  go_ret
  exact ⟨rfl, _, rfl⟩

set_option maxHeartbeats 400000 in
theorem skip_row_no (s g n p : Nat) (Z : List Int) (pre : ByteArray) (w : World) (hZ : Z.length = n) (hn : n ≤ 1048576) (hp : p ≤ n) (hpre : p + pre.size ≤ n) (hm0 : 0 < pre.size) (hm : mtB Z p pre = false)
    (hb : w.cell? ⟨s, 0, none⟩ = some (.slice (some ⟨g, 0, none⟩) n n)) (hpos : w.cell? ⟨s, 1, none⟩ = some (.int .i64 p)) (hfz : w.frozen? ⟨s, 1, none⟩ = false)
    (hc : ∀ i, i < n → w.cell? ⟨g, i, none⟩ = some (.int .u8 (Z.getD i 0))) :
    Calls Try.prog 28 #[.pointer (some ⟨s, 0, none⟩), .string pre] w fun e w' => e = .returned (.bool false) ∧ ∃ nq, w' = w.drewN nq := by
  have hd : ¬ (n : Int) < (p : Int) + (pre.size : Int) := by omega
  have hd' : decide ((n : Int) < (p : Int) + (pre.size : Int)) = false := decide_eq_false hd
  have hconv : ∀ nq c, (convert 27 9 (.slice (some ⟨g, p, none⟩) pre.size c)).run Try.prog (w.drewN nq) = .ok (.string (subS Z p pre.size)) (w.drewN nq) := fun nq c => conv_row g p pre.size c Z _ (by omega) (fun i hi => by simpa using hc i (by omega))
  unfold mtB at hm
  obtain ⟨S, hS⟩ : ∃ S, subS Z p pre.size = S := ⟨_, rfl⟩
  rw [hS] at hconv hm
  clear hS hc
  go_enter Try.func28, Try.ntmps28
  go_wp2
  go_quiet (fail)
  go_wp2
  go_ret
  exact ⟨rfl, _, rfl⟩

theorem mtB_empty (Z : List Int) (p : Nat) : mtB Z p ⟨#[]⟩ = true := by
  unfold mtB subS
  have : (⟨#[]⟩ : ByteArray).size = 0 := rfl
  rw [this, List.take_zero]
  show ((⟨#[]⟩ : ByteArray).toList == (⟨#[]⟩ : ByteArray).toList) = true
  exact beq_self_eq_true _

set_option maxHeartbeats 400000 in
theorem skip_empty (s g n p : Nat) (a : Option Addr) (w : World) (ha : (a = none ∧ n = 0) ∨ a = some ⟨g, 0, none⟩) (hn : n ≤ 1048576) (hp : p ≤ n)
    (hb : w.cell? ⟨s, 0, none⟩ = some (.slice a n n)) (hpos : w.cell? ⟨s, 1, none⟩ = some (.int .i64 p)) (hfz : w.frozen? ⟨s, 1, none⟩ = false) :
    Calls Try.prog 28 #[.pointer (some ⟨s, 0, none⟩), .string ⟨#[]⟩] w fun e w' => e = .returned (.bool true) ∧ ∃ nq, w' = (w.setCell ⟨s, 1, none⟩ (.int .i64 (p : Int))).drewN nq := by
  have hd : ¬ (n : Int) < (p : Int) := by omega
  have hd' : decide ((n : Int) < (p : Int)) = false := decide_eq_false hd
  have hc0 := conv_zero
  have hc1 := conv_none
  rcases ha with ⟨rfl, rfl⟩ | rfl
  · obtain rfl : p = 0 := by omega
    go_enter Try.func28, Try.ntmps28
    go_wp2
    go_quiet (fail)
    go_wp2
    go_ret
    exact ⟨rfl, _, rfl⟩
  · by_cases hpn : n = p
    · subst hpn
      go_enter Try.func28, Try.ntmps28
      go_wp2
      go_quiet (fail)
      go_wp2
      go_ret
      exact ⟨rfl, _, rfl⟩
    · go_enter Try.func28, Try.ntmps28
      go_wp2
      go_quiet (fail)
      go_wp2
      go_ret
      exact ⟨rfl, _, rfl⟩
end Go.Proofs.Qxb6003788a.Scan
