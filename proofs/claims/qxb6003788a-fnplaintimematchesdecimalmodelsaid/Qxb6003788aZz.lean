import Derived.Test.Qxb6003788aPt
import Derived.Test.Qxb6003788aMax
namespace Go.Proofs.Qxb6003788a.Scan
open Go.RowKit Go.Proofs.Qxb6003788a.Aid Go.Proofs.Qxb6003788a.Dec
set_option linter.unusedVariables false
set_option linter.unusedSimpArgs false

/-- What plainTime answers, whatever block the scanner lies in. -/
def PT (g n p : Nat) (a : Option Addr) (Z : List Int) (pre : ByteArray) (t : Int) (ok : Bool) (q : Nat) : Prop :=
  ∀ (s : Nat) (w : World), Sc w s g n p a Z → Calls Try.prog 23 #[.pointer (some ⟨s, 0, none⟩), .string pre] w fun e w' => e = .returned (.tuple #[.int .u64 t, .bool ok]) ∧ Sc w' s g n q a Z ∧ Only s w w'

set_option maxHeartbeats 400000 in
theorem zz_any (g n p q : Nat) (a : Option Addr) (Z : List Int) (pre : ByteArray) (t : Int) (ok : Bool) (w : World) (hpt : PT g n p a Z pre t ok q) (hn : n ≤ 1048576) (hZ : Z.length = n) (hgw : g ≠ w.heap.size)
    (ha : (a = none ∧ n = 0) ∨ (a = some ⟨g, 0, none⟩ ∧ BRow w g .u8 5 Z)) :
    Calls Try.prog 14 #[.slice a n n, .int .i64 p, .string pre] w fun e w' => e = .returned (.tuple #[.int .u64 t, .bool ok, .int .i64 q]) ∧ Below w.heap.size w w' := by
  have HP : Hid (PT g n p a Z pre t ok q) := hpt
  have HA : Hid ((a = none ∧ n = 0) ∨ (a = some ⟨g, 0, none⟩ ∧ BRow w g .u8 5 Z)) := ha
  have HGW : Hid (g ≠ w.heap.size) := hgw
  have hs : Sc (w.alloc (.cells #[.slice a n n, .int .i64 p, .pointer none] 43)) w.heap.size g n p a Z := by
    refine ⟨heap_alloc_new w _, fun e => hgw e.symm, ?_, hZ⟩
    rcases ha with h | ⟨h1, h2⟩
    · exact .inl h
    · exact .inr ⟨h1, h2.alloc _⟩
  clear ha hpt hgw
  go_enter Try.func14, Try.ntmps14
  go_wp2_with (go_at_call 23; refine (HP.out w.heap.size _ hs).mono ?_; rintro e w1 ⟨rfl, hs1, ho1⟩; have hpos1 := hs1.pos)
  go_quiet (fail)
  go_wp2
  go_ret3
  refine ⟨rfl, ?_⟩
  exact ((((Below.refl _ _).alloc (Nat.le_refl _) _)).trans (ho1.below (Nat.le_refl _))).trans ((Only.drewN w.heap.size _ _).below (Nat.le_refl _))
end Go.Proofs.Qxb6003788a.Scan
