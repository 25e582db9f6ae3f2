import Derived.Test.Qxb6003788aSkip
import Derived.Test.Qxb6003788aParse
namespace Go.Proofs.Qxb6003788a.Scan
open Go.RowKit Go.Proofs.Qxb6003788a.Aid Go.Proofs.Qxb6003788a.Dec
set_option linter.unusedVariables false
set_option linter.unusedSimpArgs false

/-- Block s alone may have turned. -/
structure Only (s : Nat) (w w' : World) : Prop where
  os : w'.os = w.os
  tape : w'.tape = w.tape
  output : w'.output = w.output
  size : w'.heap.size = w.heap.size
  block : ∀ k, k ≠ s → w'.heap[k]? = w.heap[k]?

theorem Only.refl (s : Nat) (w : World) : Only s w w := ⟨rfl, rfl, rfl, rfl, fun _ _ => rfl⟩
theorem Only.trans {s : Nat} {a b c : World} (h : Only s a b) (k : Only s b c) : Only s a c :=
  ⟨k.os.trans h.os, k.tape.trans h.tape, k.output.trans h.output, k.size.trans h.size, fun i hi => (k.block i hi).trans (h.block i hi)⟩
theorem Only.drewN (s : Nat) (w : World) (n : Nat) : Only s w (w.drewN n) := ⟨rfl, rfl, rfl, rfl, fun _ _ => rfl⟩
theorem Only.setCell (s o : Nat) (w : World) (v : Value) : Only s w (w.setCell ⟨s, o, none⟩ v) :=
  ⟨rfl, rfl, rfl, by simp [World.setCell], fun k hk => Below.heap_setCell _ _ _ _ hk⟩
theorem Only.below {s B : Nat} {w w' : World} (h : Only s w w') (hB : B ≤ s) : Below B w w' :=
  ⟨h.os, h.tape, h.output, by rw [h.size]; exact Nat.le_refl _, fun k hk => h.block k (by omega)⟩

/-- The scanner in block s over the n bytes Z (in block g; or none), standing at p. -/
def Sc (w : World) (s g n p : Nat) (a : Option Addr) (Z : List Int) : Prop :=
  w.heap[s]? = some (.cells #[.slice a n n, .int .i64 p, .pointer none] 43 (0, 0)) ∧ s ≠ g ∧ ((a = none ∧ n = 0) ∨ (a = some ⟨g, 0, none⟩ ∧ BRow w g .u8 5 Z)) ∧ Z.length = n

theorem Sc.buf {w : World} {s g n p : Nat} {a : Option Addr} {Z : List Int} (h : Sc w s g n p a Z) : w.cell? ⟨s, 0, none⟩ = some (.slice a n n) := by simp [World.cell?, h.1]
theorem Sc.pos {w : World} {s g n p : Nat} {a : Option Addr} {Z : List Int} (h : Sc w s g n p a Z) : w.cell? ⟨s, 1, none⟩ = some (.int .i64 p) := by simp [World.cell?, h.1]
theorem Sc.fz {w : World} {s g n p : Nat} {a : Option Addr} {Z : List Int} (h : Sc w s g n p a Z) : w.frozen? ⟨s, 1, none⟩ = false := by simp [World.frozen?, h.1]
theorem Sc.adr {w : World} {s g n p : Nat} {a : Option Addr} {Z : List Int} (h : Sc w s g n p a Z) : (a = none ∧ n = 0) ∨ a = some ⟨g, 0, none⟩ := by
  rcases h.2.2.1 with h | h
  · exact .inl h
  · exact .inr h.1
theorem Sc.cel {w : World} {s g n p : Nat} {a : Option Addr} {Z : List Int} (h : Sc w s g n p a Z) : ∀ i, i < n → w.cell? ⟨g, i, none⟩ = some (.int .u8 (Z.getD i 0)) := by
  intro i hi
  rcases h.2.2.1 with h' | h'
  · omega
  · exact h'.2.cell i (by rw [h.2.2.2]; exact hi)
theorem Sc.drewN {w : World} {s g n p : Nat} {a : Option Addr} {Z : List Int} (h : Sc w s g n p a Z) (q : Nat) : Sc (w.drewN q) s g n p a Z := h
theorem Sc.move {w : World} {s g n p : Nat} {a : Option Addr} {Z : List Int} (h : Sc w s g n p a Z) (k : Nat) : Sc (w.setCell ⟨s, 1, none⟩ (.int .i64 (k : Int))) s g n k a Z := by
  obtain ⟨h1, h2, h3, h4⟩ := h
  refine ⟨?_, h2, ?_, h4⟩
  · have hlt := lt_of_block h1
    have h' : w.heap[s] = .cells #[.slice a n n, .int .i64 p, .pointer none] 43 (0, 0) := by simpa [Array.getElem?_eq_getElem hlt] using h1
    show (w.heap.modify s _)[s]? = _
    rw [Array.getElem?_eq_getElem (by simpa using hlt), Array.getElem_modify_self, h']
    rfl
  · rcases h3 with h | ⟨e, h⟩
    · exact .inl h
    · exact .inr ⟨e, h.set_other _ _ (fun e => h2 e.symm)⟩

theorem pre_empty {pre : ByteArray} (h : pre.size = 0) : pre = ⟨#[]⟩ := by
  apply ByteArray.ext
  exact Array.eq_empty_of_size_eq_zero h

theorem skip_yes (s g n p : Nat) (a : Option Addr) (Z : List Int) (pre : ByteArray) (w : World) (hs : Sc w s g n p a Z) (hn : n ≤ 1048576) (hp : p ≤ n) (hpre : p + pre.size ≤ n) (hm : mtB Z p pre = true) :
    Calls Try.prog 28 #[.pointer (some ⟨s, 0, none⟩), .string pre] w fun e w' => e = .returned (.bool true) ∧ Sc w' s g n (p + pre.size) a Z ∧ Only s w w' := by
  by_cases h0 : pre.size = 0
  · obtain rfl := pre_empty h0
    refine (skip_empty s g n p a w hs.adr hn hp hs.buf hs.pos hs.fz).mono ?_
    rintro e w' ⟨rfl, q, rfl⟩
    exact ⟨rfl, (hs.move p).drewN q, (Only.setCell s 1 w _).trans (Only.drewN s _ q)⟩
  · obtain rfl : a = some ⟨g, 0, none⟩ := by
      rcases hs.adr with ⟨_, h⟩ | h
      · omega
      · exact h
    refine (skip_row_yes s g n p Z pre w hs.2.2.2 hn hp hpre (by omega) hm hs.buf hs.pos hs.fz hs.cel).mono ?_
    rintro e w' ⟨rfl, q, rfl⟩
    have := (hs.move (p + pre.size)).drewN q
    rw [Int.natCast_add] at this
    exact ⟨rfl, this, (Only.setCell s 1 w _).trans (Only.drewN s _ q)⟩

theorem skip_no (s g n p : Nat) (a : Option Addr) (Z : List Int) (pre : ByteArray) (w : World) (hs : Sc w s g n p a Z) (hn : n ≤ 1048576) (hp : p ≤ n) (hpre' : pre.size ≤ 1048576) (hpre : n < p + pre.size ∨ (p + pre.size ≤ n ∧ mtB Z p pre = false)) :
    Calls Try.prog 28 #[.pointer (some ⟨s, 0, none⟩), .string pre] w fun e w' => e = .returned (.bool false) ∧ Sc w' s g n p a Z ∧ Only s w w' := by
  rcases hpre with h | ⟨hpre, hm⟩
  · refine (skip_past s n p a pre w hn hp hpre' h hs.buf hs.pos).mono ?_
    rintro e w' ⟨rfl, q, rfl⟩
    exact ⟨rfl, hs.drewN q, Only.drewN s _ q⟩
  · have h0 : pre.size ≠ 0 := by
      intro h
      obtain rfl := pre_empty h
      rw [mtB_empty] at hm
      exact absurd hm (by decide)
    obtain rfl : a = some ⟨g, 0, none⟩ := by
      rcases hs.adr with ⟨_, h⟩ | h
      · omega
      · exact h
    refine (skip_row_no s g n p Z pre w hs.2.2.2 hn hp hpre (by omega) hm hs.buf hs.pos hs.fz hs.cel).mono ?_
    rintro e w' ⟨rfl, q, rfl⟩
    exact ⟨rfl, hs.drewN q, Only.drewN s _ q⟩

theorem digits_sc (s g n p k : Nat) (a : Option Addr) (Z : List Int) (w : World) (hs : Sc w s g n p a Z) (hn : n ≤ 1048576) (hp : p ≤ n) (hk : IsEnd Z p k) :
    Calls Try.prog 29 #[.pointer (some ⟨s, 0, none⟩)] w fun e w' => e = .returned (.tuple #[]) ∧ Sc w' s g n k a Z ∧ Only s w w' := by
  refine (digits_any s g n p a Z w hs.adr hs.2.2.2 hn hp hs.buf hs.pos hs.fz hs.cel).mono ?_
  rintro e w' ⟨rfl, k', hk', rfl⟩
  obtain rfl := hk.uniq hk'
  exact ⟨rfl, hs.move k, Only.setCell s 1 w _⟩

theorem peek_sc (s g n p : Nat) (a : Option Addr) (Z : List Int) (w : World) (hs : Sc w s g n p a Z) (hn : n ≤ 1048576) (hp : p ≤ n) :
    Calls Try.prog 30 #[.pointer (some ⟨s, 0, none⟩)] w fun e w' => e = .returned (.int .u8 (pk Z p)) ∧ Sc w' s g n p a Z ∧ Only s w w' := by
  refine (peek_any s g n p a Z w hs.adr hs.2.2.2 hn hp hs.buf hs.pos hs.cel).mono ?_
  rintro e w' ⟨rfl, q, rfl⟩
  exact ⟨rfl, hs.drewN q, Only.drewN s _ q⟩

/-- There is an end of the run of digits. -/
theorem end_ex (Z : List Int) : ∀ (j p : Nat), p + j = Z.length → ∃ k, IsEnd Z p k
  | 0, p, h => ⟨p, Nat.le_refl _, by omega, fun i h1 h2 => by omega, fun h => by omega⟩
  | j + 1, p, h => by
    cases hd : digB (Z.getD p 0)
    · exact ⟨p, Nat.le_refl _, by omega, fun i h1 h2 => by omega, fun _ => hd⟩
    · obtain ⟨k, h1, h2, h3, h4⟩ := end_ex Z j (p + 1) (by omega)
      refine ⟨k, by omega, h2, fun i hi hk => ?_, h4⟩
      by_cases e : i = p
      · rw [e]; exact hd
      · exact h3 i (by omega) hk
theorem end_ex' (Z : List Int) (p : Nat) (h : p ≤ Z.length) : ∃ k, IsEnd Z p k := end_ex Z (Z.length - p) p (by omega)
end Go.Proofs.Qxb6003788a.Scan
