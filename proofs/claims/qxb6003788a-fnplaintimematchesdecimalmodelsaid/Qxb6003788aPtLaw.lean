import Derived.Test.Qxb6003788aZz
import Derived.Test.Qxb6003788aClone
namespace Go.Proofs.Qxb6003788a.Scan
open Go.RowKit Go.Proofs.Qxb6003788a.Aid Go.Proofs.Qxb6003788a.Dec
set_option linter.unusedVariables false
set_option linter.unusedSimpArgs false

/-- What the law knows of the slice that came in. -/
def Src (w : World) (a : Option Addr) (len cap : Nat) (zs : List Int) : Prop :=
  (a = none ∧ len = 0 ∧ cap = 0 ∧ zs = []) ∨ ∃ x, a = some x ∧ len ≤ cap ∧ zs.length = cap ∧ (∀ i, i < zs.length → w.cell? (x.add i) = some (.int .u8 (zs.getD i 0)))

/-- The clone: where it lies. -/
def Cl (w wc : World) (a' : Option Addr) (g n : Nat) (Z : List Int) : Prop :=
  g ≠ wc.heap.size ∧ ((a' = none ∧ n = 0) ∨ (a' = some ⟨g, 0, none⟩ ∧ BRow wc g .u8 5 Z)) ∧ Z.length = n

theorem clone_cl (a : Option Addr) (n cap : Nat) (zs : List Int) (w : World) (h : Src w a n cap zs) (hlen : n ≤ 1048576) :
    Calls Try.prog 13 #[.slice a n cap] w fun e w' => ∃ a', e = .returned (.slice a' n n) ∧ (∃ g, Cl w w' a' g n (zs.take n)) ∧ Below w.heap.size w w' := by
  refine (Clone.clone_any a n cap zs w h hlen).mono ?_
  rintro e wc ⟨a', rfl, hnil, hrow, hb⟩
  have hzl : (zs.take n).length = n := by
    rcases h with ⟨_, rfl, _, rfl⟩ | ⟨_, _, h1, h2, _⟩
    · simp
    · simp; omega
  refine ⟨a', rfl, ?_, hb⟩
  cases a' with
  | none => exact ⟨wc.heap.size + 1, by omega, .inl ⟨rfl, hnil rfl⟩, hzl⟩
  | some ad =>
    obtain ⟨rfl, hr⟩ := hrow ad rfl
    exact ⟨w.heap.size, by have := hr.lt; omega, .inr ⟨rfl, hr⟩, hzl⟩

theorem clone_clZ (a : Option Addr) (n cap : Nat) (zs Z : List Int) (w : World) (h : Src w a n cap zs) (hlen : n ≤ 1048576) (hZ : zs.take n = Z) :
    Calls Try.prog 13 #[.slice a n cap] w fun e w' => ∃ a', e = .returned (.slice a' n n) ∧ (∃ g, Cl w w' a' g n Z) ∧ Below w.heap.size w w' := by
  subst hZ; exact clone_cl a n cap zs w h hlen

theorem PT_no (g n p : Nat) (a : Option Addr) (Z : List Int) (pre : ByteArray) (hn : n ≤ 1048576) (hp : p ≤ n) (hpre' : pre.size ≤ 1048576) (hpre : n < p + pre.size ∨ (p + pre.size ≤ n ∧ mtB Z p pre = false)) :
    PT g n p a Z pre 0 false p := fun s w hs => pt_no s g n p a Z pre w hs hn hp hpre' hpre

theorem zz_cl (g n p q : Nat) (a : Option Addr) (Z : List Int) (pre : ByteArray) (t : Int) (ok : Bool) (w0 w : World) (hpt : PT g n p a Z pre t ok q) (hn : n ≤ 1048576) (hc : Cl w0 w a g n Z) :
    Calls Try.prog 14 #[.slice a n n, .int .i64 p, .string pre] w fun e w' => e = .returned (.tuple #[.int .u64 t, .bool ok, .int .i64 q]) ∧ Below w.heap.size w w' :=
  zz_any g n p q a Z pre t ok w hpt hn hc.2.2 hc.1 hc.2.1

set_option maxHeartbeats 1000000 in
set_option maxRecDepth 100000 in
theorem law_past (a : Option Addr) (n cap p : Nat) (zs : List Int) (pre : ByteArray) (w : World) (hsrc : Src w a n cap zs) (hn : n + pre.size ≤ 1048576) (hp : p ≤ n) (hpast : n < p + pre.size) :
    Calls Try.prog 5 #[.slice a n cap, .int .i64 p, .string pre] w fun e w' => e = .returned (.bool true) ∧ Below w.heap.size w w' := by
  go_enter Try.func5, Try.ntmps5
  go_wp2_with (first | (go_at_call 13; refine (clone_cl _ _ _ zs _ hsrc (by omega)).mono ?_; rintro e wc ⟨a', rfl, ⟨g, hcl⟩, hbc⟩) | (go_at_call 14; refine (zz_cl g n p p a' (zs.take n) pre 0 false w _ (PT_no g n p a' _ pre (by omega) hp (by omega) (.inl hpast)) (by omega) hcl).mono ?_; rintro e w1 ⟨rfl, hb1⟩) | (go_at_call 12; go_in))
  go_ret
  exact ⟨rfl, hbc.trans (hb1.mono hbc.size)⟩

theorem Cl.adr {w wc : World} {a' : Option Addr} {g n : Nat} {Z : List Int} (h : Cl w wc a' g n Z) (hn : 0 < n) : a' = some ⟨g, 0, none⟩ := by
  rcases h.2.1 with ⟨_, h⟩ | ⟨h, _⟩
  · omega
  · exact h
theorem Cl.row {w wc : World} {a' : Option Addr} {g n : Nat} {Z : List Int} (h : Cl w wc a' g n Z) (hn : 0 < n) : BRow wc g .u8 5 Z := by
  rcases h.2.1 with ⟨_, h⟩ | ⟨_, h⟩
  · omega
  · exact h

set_option maxHeartbeats 1000000 in
set_option maxRecDepth 100000 in
theorem law_miss (a : Option Addr) (n cap p : Nat) (zs : List Int) (pre : ByteArray) (w : World) (hsrc : Src w a n cap zs) (hn : n + pre.size ≤ 1048576) (hp : p ≤ n) (hfit : p + pre.size ≤ n) (hm : mtB (zs.take n) p pre = false) :
    Calls Try.prog 5 #[.slice a n cap, .int .i64 p, .string pre] w fun e w' => e = .returned (.bool true) ∧ Below w.heap.size w w' := by
  have h0 : 0 < pre.size := by
    rcases Nat.eq_zero_or_pos pre.size with h | h
    · obtain rfl := pre_empty h
      rw [mtB_empty] at hm
      exact absurd hm (by decide)
    · exact h
  have HM : Hid (mtB (zs.take n) p pre = false) := hm
  obtain ⟨Z, hZ⟩ : ∃ Z, zs.take n = Z := ⟨_, rfl⟩
  rw [hZ] at hm HM
  have HZ : Hid (zs.take n = Z) := hZ
  clear hZ
  unfold mtB at hm
  obtain ⟨S, hS⟩ : ∃ S, subS Z p pre.size = S := ⟨_, rfl⟩
  have HS : Hid (subS Z p pre.size = S) := hS
  rw [hS] at hm
  clear hS
  go_enter Try.func5, Try.ntmps5
  go_wp2_with (first | (go_at_call 13; refine (clone_clZ _ _ _ zs Z _ hsrc (by omega) HZ.out).mono ?_; rintro e wc ⟨a', rfl, ⟨g, hcl⟩, hbc⟩; obtain rfl := hcl.adr (by omega); have hrowc := hcl.row (by omega)) | (go_at_call 14; refine (zz_cl g n p p _ Z pre 0 false w _ (PT_no g n p _ _ pre (by omega) hp (by omega) (.inr ⟨hfit, HM.out⟩)) (by omega) hcl).mono ?_; rintro e w1 ⟨rfl, hb1⟩; have hrow1 := hrowc.below hb1 hrowc.lt; have hconv : ∀ c, (convert 27 9 (.slice (some ⟨g, p, none⟩) pre.size c)).run Try.prog w1 = .ok (.string S) w1 := fun c => by rw [conv_row g p pre.size c Z w1 (by rw [hcl.2.2]; exact hfit) (fun i hi => hrow1.cell i hi), HS.out]) | (go_at_call 12; go_in))
  go_ret
  exact ⟨rfl, hbc.trans (hb1.mono hbc.size)⟩
end Go.Proofs.Qxb6003788a.Scan
