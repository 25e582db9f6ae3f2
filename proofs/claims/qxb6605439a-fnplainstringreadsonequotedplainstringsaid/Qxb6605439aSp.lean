import Derived.Test.Qxb6605439aRows
import Derived.WalkKit
import Derived.WalkSpells
import Derived.Deep.QuietTactic
import Derived.BigQuiet
import Derived.Deep.Light
import Derived.Deep.LoopGhost
namespace Go.Proofs.Qxb6605439a.Sp
open Go.RowKit
set_option linter.unusedVariables false
set_option linter.unusedSimpArgs false

theorem ret_bool {a b : Bool} (h : a = b) : Ending.returned (.bool a) = .returned (.bool b) := by rw [h]
theorem ret_int {k : IntKind} {a b : Int} (h : a = b) : Ending.returned (.int k a) = .returned (.int k b) := by rw [h]

/-- The byte at place k, as a number; 0 behind the end. -/
def gb (s : ByteArray) (k : Nat) : Int := if h : k < s.size then ((s[k]'h).toNat : Int) else 0
theorem gb_at {s : ByteArray} {k : Nat} (h : k < s.size) : ((s[k]'h).toNat : Int) = gb s k := by unfold gb; rw [dif_pos h]

/-- JSON whitespace. -/
def spB (c : Int) : Bool := decide (c = 32 ∨ c = 9 ∨ c = 10 ∨ c = 13)

/-- The run of bytes with f that begins at p ends at k. -/
def RunEnd (f : Int → Bool) (s : ByteArray) (p k : Nat) : Prop := p ≤ k ∧ k ≤ s.size ∧ (∀ i, p ≤ i → i < k → f (gb s i) = true) ∧ (k < s.size → f (gb s k) = false)

theorem RunEnd.uniq {f : Int → Bool} {s : ByteArray} {p k k' : Nat} (h : RunEnd f s p k) (h' : RunEnd f s p k') : k = k' := by
  obtain ⟨a1, a2, a3, a4⟩ := h
  obtain ⟨b1, b2, b3, b4⟩ := h'
  rcases Nat.lt_trichotomy k k' with hlt | heq | hgt
  · have e1 := a4 (by omega)
    have e2 := b3 k a1 hlt
    rw [e1] at e2; exact absurd e2 (by decide)
  · exact heq
  · have e1 := b4 (by omega)
    have e2 := a3 k' b1 hgt
    rw [e1] at e2; exact absurd e2 (by decide)

theorem run_ex (f : Int → Bool) (s : ByteArray) : ∀ (j p : Nat), p + j = s.size → ∃ k, RunEnd f s p k
  | 0, p, h => ⟨p, Nat.le_refl _, by omega, fun i h1 h2 => by omega, fun h => by omega⟩
  | j + 1, p, h => by
    cases hd : f (gb s p)
    · exact ⟨p, Nat.le_refl _, by omega, fun i h1 h2 => by omega, fun _ => hd⟩
    · obtain ⟨k, h1, h2, h3, h4⟩ := run_ex f s j (p + 1) (by omega)
      refine ⟨k, by omega, h2, fun i hi hk => ?_, h4⟩
      by_cases e : i = p
      · rw [e]; exact hd
      · exact h3 i (by omega) hk
theorem run_ex' (f : Int → Bool) (s : ByteArray) (p : Nat) (h : p ≤ s.size) : ∃ k, RunEnd f s p k := run_ex f s (s.size - p) p (by omega)
theorem RunEnd.again {f : Int → Bool} {s : ByteArray} {p k : Nat} (h : RunEnd f s p k) : RunEnd f s k k := ⟨Nat.le_refl _, h.2.1, fun i h1 h2 => by omega, h.2.2.2⟩

/-- Whatever had grown to w has grown to w'; only block b and draws. -/
def Touch (b : Nat) (w w' : World) : Prop := ∀ W : World, W.heap.size ≤ b → Grown W w → Grown W w'
theorem Touch.refl (b : Nat) (w : World) : Touch b w w := fun _ _ h => h
theorem Touch.trans {b : Nat} {x y z : World} (h : Touch b x y) (k : Touch b y z) : Touch b x z := fun W hb g => k W hb (h W hb g)
theorem Touch.drewN (b : Nat) (w : World) (n : Nat) : Touch b w (w.drewN n) := fun _ _ h => h
theorem Touch.set (b o : Nat) (w : World) (v : Value) : Touch b w (w.setCell ⟨b, o, none⟩ v) := fun _ hb h => h.setCell hb v

/-- The scanner in block b over the text s, standing at p. -/
def Sc (w : World) (b : Nat) (s : ByteArray) (p : Int) : Prop := w.heap[b]? = some (.cells #[.string s, .int .i64 p] 40 (0, 0))
theorem Sc.txt {w : World} {b : Nat} {s : ByteArray} {p : Int} (h : Sc w b s p) : w.cell? ⟨b, 0, none⟩ = some (.string s) := by unfold Sc at h; simp [World.cell?, h]
theorem Sc.pos {w : World} {b : Nat} {s : ByteArray} {p : Int} (h : Sc w b s p) : w.cell? ⟨b, 1, none⟩ = some (.int .i64 p) := by unfold Sc at h; simp [World.cell?, h]
theorem Sc.fz {w : World} {b : Nat} {s : ByteArray} {p : Int} (h : Sc w b s p) : w.frozen? ⟨b, 1, none⟩ = false := by unfold Sc at h; simp [World.frozen?, h]
theorem Sc.drewN {w : World} {b : Nat} {s : ByteArray} {p : Int} (h : Sc w b s p) (q : Nat) : Sc (w.drewN q) b s p := h
theorem Sc.move {w : World} {b : Nat} {s : ByteArray} {p : Int} (h : Sc w b s p) (k : Int) : Sc (w.setCell ⟨b, 1, none⟩ (.int .i64 k)) b s k := by
  unfold Sc at *
  have hlt := lt_of_block h
  have h' : w.heap[b] = .cells #[.string s, .int .i64 p] 40 (0, 0) := by simpa [Array.getElem?_eq_getElem hlt] using h
  show (w.heap.modify b _)[b]? = _
  rw [Array.getElem?_eq_getElem (by simpa using hlt), Array.getElem_modify_self, h']
  rfl

theorem Sc.move' {w : World} {b : Nat} {s : ByteArray} {p k : Int} (h : Sc w b s p) (q : Nat) (e : k = (q : Int)) : Sc (w.setCell ⟨b, 1, none⟩ (.int .i64 k)) b s q := by
  rw [e]; exact h.move q
theorem spB_true {c : Int} (h : spB c = true) : c = 32 ∨ c = 9 ∨ c = 10 ∨ c = 13 := by simpa [spB] using h
theorem spB_false {c : Int} (h : spB c = false) : (c == 32) = false ∧ (c == 9) = false ∧ (c == 10) = false ∧ (c == 13) = false := by
  simp only [spB, decide_eq_false_iff_not] at h
  simp only [beq_eq_false_iff_ne]
  omega

/-- skipSpace at or past the end: nothing moves. -/
theorem skip_past (b : Nat) (s : ByteArray) (p : Int) (w : World) (hs : Sc w b s p) (hn : s.size ≤ 1048576) (hp : (s.size : Int) ≤ p) :
    Calls Try.prog 20 #[.pointer (some ⟨b, 0, none⟩)] w fun e w' => e = .returned (.tuple #[]) ∧ Sc w' b s p ∧ Touch b w w' := by
  have htxt := hs.txt
  have hpos := hs.pos
  have hp' : ¬ p < (s.size : Int) := by omega
  go_enter Try.func20, Try.ntmps20
  go_wp2
  refine wp_loop_rounds 1 ?_
  rw [rounds_succ]
  go_wp2
  go_quiet (fail)
  go_wp2
  go_end0
  exact ⟨rfl, hs.drewN _, Touch.drewN _ _ _⟩

set_option maxHeartbeats 400000 in
theorem skip_run (b : Nat) (s : ByteArray) (p k : Nat) (w : World) (hs : Sc w b s p) (hn : s.size ≤ 1048576) (hk : RunEnd spB s p k) :
    Calls Try.prog 20 #[.pointer (some ⟨b, 0, none⟩)] w fun e w' => e = .returned (.tuple #[]) ∧ Sc w' b s k ∧ Touch b w w' := by
  have hk1 := hk.1
  have hk2 := hk.2.1
  have HA : Hid (∀ i, p ≤ i → i < k → spB (gb s i) = true) := hk.2.2.1
  have HE : Hid (k < s.size → spB (gb s k) = false) := hk.2.2.2
  clear hk
  go_enter Try.func20, Try.ntmps20
  go_wp2
  go_loopg [2] (k - p) (fun r _ wr => ∃ q : Nat, p ≤ q ∧ q ≤ k ∧ r = k - q ∧ Sc wr b s q ∧ Touch b w wr)
  case atStart => exact ⟨p, Nat.le_refl _, hk1, rfl, hs, Touch.refl _ _⟩
  case round =>
    obtain ⟨q, hq1, hq2, hr, hsc, hto⟩ := hrel
    have HR : Hid (gk = k - q) := hr
    clear hr
    have htxt := hsc.txt
    have hpos := hsc.pos
    have hfz := hsc.fz
    by_cases hlt : q < s.size
    · have hlt' : (q : Int) < (s.size : Int) := by omega
      have hbyte := gb_at hlt
      by_cases hqk : q < k
      · have hsp := spB_true (HA.out q hq1 hqk)
        rcases hsp with h | h | h | h
        all_goals
          rw [h] at hbyte
          clear h
          go_wp2
          go_quiet (fail)
          go_wp2
          go_quiet (fail)
          go_wp2
          go_roundg (k - (q + 1))
          case measure => have := HR.out; omega
          case rel => exact ⟨q + 1, by omega, by omega, rfl, (hsc.move' (q + 1) (by omega)).drewN _, (hto.trans (Touch.set _ _ _ _)).trans (Touch.drewN _ _ _)⟩
      · have hqk' : q = k := by omega
        have hsp := spB_false (HE.out (by omega))
        rw [← hqk'] at hsp
        obtain ⟨c, hc⟩ : ∃ c, gb s q = c := ⟨_, rfl⟩
        rw [hc] at hbyte hsp
        have h1 := hsp.1
        have h2 := hsp.2.1
        have h3 := hsp.2.2.1
        have h4 := hsp.2.2.2
        have HQ : Hid (q = k) := hqk'
        clear hc hsp hqk'
        go_wp2
        go_quiet (fail)
        go_wp2
        go_quiet (fail)
        go_wp2
        refine bodyPost_ret (results_none rfl _ _ _) rfl ?_
        exact ⟨rfl, by rw [← HQ.out]; exact hsc.drewN _, hto.trans (Touch.drewN _ _ _)⟩
    · have hqk' : q = k := by omega
      have HQ : Hid (q = k) := hqk'
      have hlt' : ¬ (q : Int) < (s.size : Int) := by omega
      clear hqk'
      go_wp2
      go_quiet (fail)
      go_wp2
      go_end0
      exact ⟨rfl, by rw [← HQ.out]; exact hsc.drewN _, hto.trans (Touch.drewN _ _ _)⟩
end Go.Proofs.Qxb6605439a.Sp
