import Derived.Test.Qxb6605363aRows
import Derived.Test.Qxb6605363aAid
import Derived.Test.Qxb6605363aTr
import Derived.WalkSpells
import Derived.WalkSmall
import Derived.Deep.Light
import Derived.Deep.QuietTactic
import Derived.BigQuiet
import Derived.RegionTactic
namespace Go.Proofs.Qxb6605363a.Swap
open Go.RowKit Go.Proofs.Qxb6605363a.Aid Go.Proofs.Qxb6605363a.Tr
set_option linter.unusedVariables false
set_option linter.unusedSimpArgs false

/-- Below block B nothing but block g has turned. -/
structure Oth (g B : Nat) (w w' : World) : Prop where
  os : w'.os = w.os
  tape : w'.tape = w.tape
  output : w'.output = w.output
  size : w.heap.size ≤ w'.heap.size
  block : ∀ k, k < B → k ≠ g → w'.heap[k]? = w.heap[k]?

theorem Oth.refl (g B : Nat) (w : World) : Oth g B w w := ⟨rfl, rfl, rfl, Nat.le_refl _, fun _ _ _ => rfl⟩
theorem Oth.trans {g B : Nat} {a b c : World} (h : Oth g B a b) (k : Oth g B b c) : Oth g B a c :=
  ⟨k.os.trans h.os, k.tape.trans h.tape, k.output.trans h.output, Nat.le_trans h.size k.size, fun i hi hg => (k.block i hi hg).trans (h.block i hi hg)⟩
theorem Oth.drewN {g B : Nat} {a w : World} (h : Oth g B a w) (n : Nat) : Oth g B a (w.drewN n) := h.trans ⟨rfl, rfl, rfl, Nat.le_refl _, fun _ _ _ => rfl⟩
theorem Oth.drew {g B : Nat} {a w : World} (h : Oth g B a w) : Oth g B a w.drew := h.trans ⟨rfl, rfl, rfl, Nat.le_refl _, fun _ _ _ => rfl⟩
theorem Oth.alloc {g B : Nat} {a w : World} (h : Oth g B a w) (hB : B ≤ w.heap.size) (o : Obj) : Oth g B a (w.alloc o) :=
  h.trans ⟨rfl, rfl, rfl, by simp, fun k hk _ => Below.heap_alloc _ _ _ (by omega)⟩
theorem Oth.set {g B : Nat} {a w : World} (h : Oth g B a w) (o : Nat) (v : Value) : Oth g B a (w.setCell ⟨g, o, none⟩ v) :=
  h.trans ⟨rfl, rfl, rfl, by simp [World.setCell], fun k _ hg => Below.heap_setCell _ _ _ _ hg⟩
theorem Oth.below {g B : Nat} {w w' : World} (h : Oth g B w w') (hg : B ≤ g) : Below B w w' := ⟨h.os, h.tape, h.output, h.size, fun k hk => h.block k hk (by omega)⟩
theorem Oth.mono {g B B' : Nat} {w w' : World} (h : Oth g B w w') (hB : B' ≤ B) : Oth g B' w w' := ⟨h.os, h.tape, h.output, h.size, fun k hk hg => h.block k (by omega) hg⟩

set_option maxHeartbeats 1000000 in
theorem swap_row (g n i j s I J : Nat) (Z : List Int) (w : World) (hs : 0 < s) (hI : i * s = I) (hJ : j * s = J) (hIn : I + s ≤ n) (hJn : J + s ≤ n) (hn : n ≤ 1048576) (hd : I = J ∨ I + s ≤ J ∨ J + s ≤ I) (hZ : Z.length = n)
    (hrow : BRow w g .u8 5 Z) :
    Calls Try.prog 10 #[.agg #[.int .i64 s, .slice (some ⟨g, 0, none⟩) n n], .int .i64 i, .int .i64 j] w fun e w' => e = .returned (.tuple #[]) ∧ ∃ Z', Swp Z Z' I J s ∧ BRow w' g .u8 5 Z' ∧ Oth g w.heap.size w w' := by
  have hi1 : i ≤ I := by rw [← hI]; exact Nat.le_mul_of_pos_right i hs
  have hj1 : j ≤ J := by rw [← hJ]; exact Nat.le_mul_of_pos_right j hs
  have eI : (i : Int) * (s : Int) = (I : Int) := by rw [← Int.natCast_mul, hI]
  have eJ : (j : Int) * (s : Int) = (J : Int) := by rw [← Int.natCast_mul, hJ]
  have eI' : ((i : Int) + 1) * (s : Int) = (I : Int) + (s : Int) := by rw [Int.add_mul, eI, Int.one_mul]
  have eJ' : ((j : Int) + 1) * (s : Int) = (J : Int) + (s : Int) := by rw [Int.add_mul, eJ, Int.one_mul]
  clear hI hJ
  go_enter Try.func10, Try.ntmps10
  go_wp2
  go_quiet (fail)
  go_wp2
  simp only [Nat.add_sub_cancel_left]
  go_loopw [35] (fun x wr => ∃ (k : Nat) (Y : List Int), k ≤ s ∧ x = .int .i64 k ∧ Swp Z Y I J k ∧ BRow wr g .u8 5 Y ∧ Oth g w.heap.size w wr) (fun x _ => s - (intOf x).toNat)
  case atStart => exact ⟨0, Z, Nat.zero_le _, rfl, Swp.zero Z I J, hrow.alloc _, ((Oth.refl _ _ _).alloc (Nat.le_refl _) _).drewN _⟩
  case round =>
    obtain ⟨k, Y, hk, rfl, hsw, hrowr, hoth⟩ := hrel
    by_cases hlt : k < s
    · have hYl : Y.length = n := by rw [hsw.1, hZ]
      have hca := hrowr.cell (I + k) (by omega)
      have hcb := hrowr.cell (J + k) (by omega)
      have hfa := hrowr.frozen (I + k)
      have hfb := hrowr.frozen (J + k)
      have HSt : Hid (Swp Z ((Y.set (I + k) (Y.getD (J + k) 0)).set (J + k) (Y.getD (I + k) 0)) I J (k + 1)) := hsw.step hlt (by omega) (by omega) hd
      have hlt' : (k : Int) < (s : Int) := by omega
      by_cases hIJ : I = J
      · subst hIJ
        obtain ⟨x, hx⟩ : ∃ c, Y.getD (I + k) 0 = c := ⟨_, rfl⟩
        rw [hx] at hca hcb HSt
        clear hx
        go_wp2
        go_region
        all_goals
          go_wp2
          go_roundw
          case rel => exact ⟨k + 1, _, by omega, by go_num, HSt.out, ((hrowr.set _ _).set _ _), ((hoth.set _ _).set _ _).drew⟩
          case measure => simp [intOf]; omega
      · have hJI : ¬ J = I := fun e => hIJ e.symm
        obtain ⟨x, hx⟩ : ∃ c, Y.getD (I + k) 0 = c := ⟨_, rfl⟩
        obtain ⟨y, hy⟩ : ∃ c, Y.getD (J + k) 0 = c := ⟨_, rfl⟩
        rw [hx] at hca
        rw [hy] at hcb
        rw [hx, hy] at HSt
        clear hx hy
        go_wp2
        go_region
        all_goals
          go_wp2
          go_roundw
          case rel => exact ⟨k + 1, _, by omega, by go_num, HSt.out, ((hrowr.set _ _).set _ _), ((hoth.set _ _).set _ _).drew⟩
          case measure => simp [intOf]; omega
    · have hks : k = s := by omega
      have HS : Hid (Swp Z Y I J s) := by rw [← hks]; exact hsw
      clear hks hsw
      go_wp2
      go_end0
      exact ⟨rfl, Y, HS.out, hrowr, hoth⟩

set_option maxHeartbeats 1000000 in
theorem swap_zero (n : Nat) (i j : Int) (a : Option Addr) (w : World) (ha : (a = none ∧ n = 0) ∨ ∃ g, a = some ⟨g, 0, none⟩) (hn : n ≤ 1048576) :
    Calls Try.prog 10 #[.agg #[.int .i64 0, .slice a n n], .int .i64 i, .int .i64 j] w fun e w' => e = .returned (.tuple #[]) ∧ Below w.heap.size w w' := by
  rcases ha with ⟨rfl, rfl⟩ | ⟨g, rfl⟩
  · go_enter Try.func10, Try.ntmps10
    go_wp2
    go_quiet (fail)
    go_wp2
    refine wp_loop_rounds 1 ?_
    rw [rounds_succ]
    go_wp2
    go_end0
    exact ⟨rfl, below_drewN ((Below.refl _ _).alloc (Nat.le_refl _) _) _⟩
  · by_cases h0 : n = 0
    · subst h0
      go_enter Try.func10, Try.ntmps10
      go_wp2
      go_quiet (fail)
      go_wp2
      refine wp_loop_rounds 1 ?_
      rw [rounds_succ]
      go_wp2
      go_end0
      exact ⟨rfl, below_drewN ((Below.refl _ _).alloc (Nat.le_refl _) _) _⟩
    · go_enter Try.func10, Try.ntmps10
      go_wp2
      go_quiet (fail)
      go_wp2
      refine wp_loop_rounds 1 ?_
      rw [rounds_succ]
      go_wp2
      go_end0
      exact ⟨rfl, below_drewN ((Below.refl _ _).alloc (Nat.le_refl _) _) _⟩

theorem zz_row (g n i j s I J : Nat) (Z : List Int) (w : World) (hs : 0 < s) (hI : i * s = I) (hJ : j * s = J) (hIn : I + s ≤ n) (hJn : J + s ≤ n) (hn : n ≤ 1048576) (hd : I = J ∨ I + s ≤ J ∨ J + s ≤ I) (hZ : Z.length = n)
    (hrow : BRow w g .u8 5 Z) :
    Calls Try.prog 7 #[.int .i64 s, .slice (some ⟨g, 0, none⟩) n n, .int .i64 i, .int .i64 j] w fun e w' => e = .returned (.tuple #[]) ∧ ∃ Z', Swp Z Z' I J s ∧ BRow w' g .u8 5 Z' ∧ Oth g w.heap.size w w' := by
  have HI : Hid (i * s = I) := hI
  have HJ : Hid (j * s = J) := hJ
  clear hI hJ
  go_enter Try.func7, Try.ntmps7
  go_wp2_with (go_at_call 10; refine (swap_row g n i j s I J Z _ hs HI.out HJ.out hIn hJn hn hd hZ hrow).mono ?_; rintro e w1 ⟨rfl, Z', hsw, hrow1, hoth⟩)
  go_end0
  exact ⟨rfl, Z', hsw, hrow1, hoth⟩

theorem zz_zero (n : Nat) (i j : Int) (a : Option Addr) (w : World) (ha : (a = none ∧ n = 0) ∨ ∃ g, a = some ⟨g, 0, none⟩) (hn : n ≤ 1048576) :
    Calls Try.prog 7 #[.int .i64 0, .slice a n n, .int .i64 i, .int .i64 j] w fun e w' => e = .returned (.tuple #[]) ∧ Below w.heap.size w w' := by
  have HA : Hid ((a = none ∧ n = 0) ∨ ∃ g, a = some ⟨g, 0, none⟩) := ha
  clear ha
  go_enter Try.func7, Try.ntmps7
  go_wp2_with (go_at_call 10; refine (swap_zero n i j a _ HA.out hn).mono ?_; rintro e w1 ⟨rfl, hb⟩)
  go_end0
  exact ⟨rfl, hb⟩
end Go.Proofs.Qxb6605363a.Swap
