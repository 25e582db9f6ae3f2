import Derived.Test.Qxb6605363aCloneI
import Derived.Test.Qxb6605363aExact
import Derived.Test.Qxb6605363aRel
namespace Go.Proofs.Qxb6605363a.Swap
open Go.RowKit Go.Proofs.Qxb6605363a.Aid Go.Proofs.Qxb6605363a.Tr
set_option linter.unusedVariables false
set_option linter.unusedSimpArgs false

/-- A clone: nil, or a row of its own. -/
def CB (w : World) (k : IntKind) (t : TypeId) (a : Option Addr) (g n : Nat) (Z : List Int) : Prop :=
  Z.length = n ∧ ((a = none ∧ n = 0) ∨ (a = some ⟨g, 0, none⟩ ∧ BRow w g k t Z))

/-- What the law knows of a slice that came in. -/
def Src (k : IntKind) (w : World) (a : Option Addr) (len cap : Nat) (zs : List Int) : Prop :=
  (a = none ∧ len = 0 ∧ cap = 0 ∧ zs = []) ∨ ∃ x, a = some x ∧ len ≤ cap ∧ zs.length = cap ∧ (∀ i, i < zs.length → w.cell? (x.add i) = some (.int k (zs.getD i 0)))

theorem Src.len {k : IntKind} {w : World} {a : Option Addr} {len cap : Nat} {zs : List Int} (h : Src k w a len cap zs) : (zs.take len).length = len := by
  rcases h with ⟨_, rfl, _, rfl⟩ | ⟨_, _, h1, h2, _⟩
  · simp
  · simp; omega

theorem Src.later {k : IntKind} {w w' : World} {a : Option Addr} {len cap : Nat} {zs : List Int} (h : Src k w a len cap zs) (hb : Below w.heap.size w w') : Src k w' a len cap zs := by
  rcases h with h | ⟨x, h1, h2, h3, h4⟩
  · exact .inl h
  · exact .inr ⟨x, h1, h2, h3, fun i hi => cell_later hb (h4 i hi)⟩

theorem CB.src {k : IntKind} {t : TypeId} {w : World} {a : Option Addr} {g n : Nat} {Z : List Int} (h : CB w k t a g n Z) : Src k w a n n Z := by
  obtain ⟨h1, ⟨rfl, rfl⟩ | ⟨rfl, h2⟩⟩ := h
  · exact .inl ⟨rfl, rfl, rfl, List.eq_nil_of_length_eq_zero h1⟩
  · exact .inr ⟨_, rfl, Nat.le_refl _, h1, fun i hi => by rw [add_zero']; exact h2.cell i hi⟩

theorem cloneB (a : Option Addr) (n cap : Nat) (zs Z : List Int) (w : World) (h : Src .u8 w a n cap zs) (hn : n ≤ 1048576) (hZ : zs.take n = Z) :
    Calls Try.prog 6 #[.slice a n cap] w fun e w' => ∃ a', e = .returned (.slice a' n n) ∧ CB w' .u8 5 a' w.heap.size n Z ∧ Below w.heap.size w w' := by
  have hl := h.len
  subst hZ
  rcases h with ⟨rfl, rfl, rfl, rfl⟩ | ⟨x, rfl, h1, h2, h3⟩
  · refine (Clone.clone_nil w).mono ?_
    rintro e w' ⟨rfl, rfl⟩
    exact ⟨none, rfl, ⟨hl, .inl ⟨rfl, rfl⟩⟩, Below.refl _ _⟩
  · refine (Clone.clone_some x n cap zs w h1 h2 h3 hn).mono ?_
    rintro e w' ⟨rfl, hr, _, hb⟩
    exact ⟨_, rfl, ⟨hl, .inr ⟨rfl, hr⟩⟩, hb⟩

theorem cloneI (a : Option Addr) (n cap : Nat) (zs Z : List Int) (w : World) (h : Src .i64 w a n cap zs) (hn : n ≤ 131072) (hZ : zs.take n = Z) :
    Calls Try.prog 9 #[.slice a n cap] w fun e w' => ∃ a', e = .returned (.slice a' n n) ∧ CB w' .i64 3 a' w.heap.size n Z ∧ Below w.heap.size w w' := by
  have hl := h.len
  subst hZ
  rcases h with ⟨rfl, rfl, rfl, rfl⟩ | ⟨x, rfl, h1, h2, h3⟩
  · refine (CloneI.clone_nil w).mono ?_
    rintro e w' ⟨rfl, rfl⟩
    exact ⟨none, rfl, ⟨hl, .inl ⟨rfl, rfl⟩⟩, Below.refl _ _⟩
  · refine (CloneI.clone_some x n cap zs w h1 h2 h3 hn).mono ?_
    rintro e w' ⟨rfl, hr, _, hb⟩
    exact ⟨_, rfl, ⟨hl, .inr ⟨rfl, hr⟩⟩, hb⟩

theorem CB.adr {k : IntKind} {t : TypeId} {w : World} {a : Option Addr} {g n : Nat} {Z : List Int} (h : CB w k t a g n Z) (hn : 0 < n) : a = some ⟨g, 0, none⟩ := by
  rcases h.2 with ⟨_, h⟩ | ⟨h, _⟩
  · omega
  · exact h
theorem CB.row {k : IntKind} {t : TypeId} {w : World} {a : Option Addr} {g n : Nat} {Z : List Int} (h : CB w k t a g n Z) (hn : 0 < n) : BRow w g k t Z := by
  rcases h.2 with ⟨_, h⟩ | ⟨_, h⟩
  · omega
  · exact h
theorem CB.below {k : IntKind} {t : TypeId} {w w' : World} {a : Option Addr} {g n : Nat} {Z : List Int} (h : CB w k t a g n Z) (hb : Below w.heap.size w w') : CB w' k t a g n Z := by
  obtain ⟨h1, h2 | ⟨h2, h3⟩⟩ := h
  · exact ⟨h1, .inl h2⟩
  · exact ⟨h1, .inr ⟨h2, h3.below hb h3.lt⟩⟩
theorem CB.other {k : IntKind} {t : TypeId} {w : World} {a : Option Addr} {g n : Nat} {Z : List Int} (h : CB w k t a g n Z) (p : Addr) (v : Value) (hg : g ≠ p.block) : CB (w.setCell p v) k t a g n Z := by
  obtain ⟨h1, h2 | ⟨h2, h3⟩⟩ := h
  · exact ⟨h1, .inl h2⟩
  · exact ⟨h1, .inr ⟨h2, h3.set_other _ _ hg⟩⟩
theorem BRow.oth {k : IntKind} {t : TypeId} {w w' : World} {g g1 : Nat} {Z : List Int} (h : BRow w g k t Z) (hb : Oth g1 w.heap.size w w') (hg : g ≠ g1) : BRow w' g k t Z := by
  have hl := h.lt
  unfold BRow at *
  rw [hb.block g hl hg]; exact h
theorem CB.oth {k : IntKind} {t : TypeId} {w w' : World} {a : Option Addr} {g g1 n : Nat} {Z : List Int} (h : CB w k t a g n Z) (hb : Oth g1 w.heap.size w w') (hg : g ≠ g1) : CB w' k t a g n Z := by
  obtain ⟨h1, h2 | ⟨h2, h3⟩⟩ := h
  · exact ⟨h1, .inl h2⟩
  · exact ⟨h1, .inr ⟨h2, BRow.oth h3 hb hg⟩⟩
theorem CB.rename {k : IntKind} {t : TypeId} {w : World} {a : Option Addr} {g n : Nat} {Z : List Int} (h : CB w k t a g n Z) (lo hi f : Nat) (hlo : lo ≤ g) (hhi : g < w.heap.size → g < hi) (hf : hi ≤ f) :
    ∃ g', CB w k t a g' n Z ∧ ((lo ≤ g' ∧ g' < hi ∧ g' = g) ∨ g' = f) := by
  obtain ⟨h1, h2 | ⟨h2, h3⟩⟩ := h
  · exact ⟨f, ⟨h1, .inl h2⟩, .inr rfl⟩
  · exact ⟨g, ⟨h1, .inr ⟨h2, h3⟩⟩, .inl ⟨hlo, hhi h3.lt, rfl⟩⟩

/-- What holds at the head of every round behind the clones. -/
structure Inv (B : Nat) (w0 w : World) (a1 a2 a3 : Option Addr) (g1 g2 g3 g4 n m : Nat) (Y S Z P : List Int) : Prop where
  d12 : g1 ≠ g2
  d13 : g1 ≠ g3
  d14 : g1 ≠ g4
  d24 : g2 ≠ g4
  d34 : g3 ≠ g4
  b1 : B ≤ g1
  b4 : B ≤ g4
  c1 : CB w .u8 5 a1 g1 n Y
  c2 : CB w .i64 3 a2 g2 m S
  c3 : CB w .u8 5 a3 g3 n Z
  r4 : BRow w g4 .i64 3 P
  bel : Below B w0 w
  sz : B ≤ w.heap.size

theorem Inv.perm {B : Nat} {w0 w : World} {a1 a2 a3 : Option Addr} {g1 g2 g3 g4 n m : Nat} {Y S Z P : List Int} (h : Inv B w0 w a1 a2 a3 g1 g2 g3 g4 n m Y S Z P) (i : Nat) (v : Int) :
    Inv B w0 (w.setCell ⟨g4, i, none⟩ (.int .i64 v)) a1 a2 a3 g1 g2 g3 g4 n m Y S Z (P.set i v) :=
  { h with c1 := h.c1.other _ _ h.d14, c2 := h.c2.other _ _ h.d24, c3 := h.c3.other _ _ h.d34, r4 := h.r4.set i v, bel := h.bel.setCell h.b4 _, sz := by have := h.sz; simpa [World.setCell] using this }

theorem Inv.swap {B : Nat} {w0 w w' : World} {a1 a2 a3 : Option Addr} {g1 g2 g3 g4 n m : Nat} {Y Y' S Z P : List Int} (h : Inv B w0 w a1 a2 a3 g1 g2 g3 g4 n m Y S Z P) (ho : Oth g1 w.heap.size w w') (hr : BRow w' g1 .u8 5 Y') (hl : Y'.length = n) (hn : 0 < n) :
    Inv B w0 w' a1 a2 a3 g1 g2 g3 g4 n m Y' S Z P :=
  { h with c1 := ⟨hl, .inr ⟨h.c1.adr hn, hr⟩⟩, c2 := h.c2.oth ho h.d12.symm, c3 := h.c3.oth ho h.d13.symm, r4 := BRow.oth h.r4 ho h.d14.symm,
           bel := h.bel.trans ((ho.mono h.sz).below h.b1), sz := Nat.le_trans h.sz ho.size }

theorem Inv.quiet {B : Nat} {w0 w w' : World} {a1 a2 a3 : Option Addr} {g1 g2 g3 g4 n m : Nat} {Y S Z P : List Int} (h : Inv B w0 w a1 a2 a3 g1 g2 g3 g4 n m Y S Z P) (hb : Below w.heap.size w w') :
    Inv B w0 w' a1 a2 a3 g1 g2 g3 g4 n m Y S Z P :=
  { h with c1 := h.c1.below hb, c2 := h.c2.below hb, c3 := h.c3.below hb, r4 := h.r4.below hb h.r4.lt, bel := h.bel.trans (hb.mono h.sz), sz := Nat.le_trans h.sz hb.size }

/-- The four rows behind the clones and the make. -/
theorem Inv.start {w w1 w2 w3 w4 : World} {a1 a2 a3 : Option Addr} {n m N : Nat} {S Z : List Int} (h1 : CB w1 .u8 5 a1 w.heap.size n Z) (b1 : Below w.heap.size w w1) (h2 : CB w2 .i64 3 a2 w1.heap.size m S) (b2 : Below w1.heap.size w1 w2)
    (h3 : CB w3 .u8 5 a3 w2.heap.size n Z) (b3 : Below w2.heap.size w2 w3) (h4 : BRow w4 w3.heap.size .i64 3 (List.replicate N 0)) (b4 : Below w3.heap.size w3 w4) :
    ∃ g1 g2 g3, Inv w.heap.size w w4 a1 a2 a3 g1 g2 g3 w3.heap.size n m Z S Z (List.replicate N 0) := by
  have s1 := b1.size
  have s2 := b2.size
  have s3 := b3.size
  have s4 := b4.size
  have l4 := h4.lt
  obtain ⟨g1, c1, e1⟩ := h1.rename w.heap.size w1.heap.size (w3.heap.size + 1) (Nat.le_refl _) (fun h => h) (by omega)
  obtain ⟨g2, c2, e2⟩ := h2.rename w1.heap.size w2.heap.size (w3.heap.size + 2) (Nat.le_refl _) (fun h => h) (by omega)
  obtain ⟨g3, c3, e3⟩ := h3.rename w2.heap.size w3.heap.size (w3.heap.size + 3) (Nat.le_refl _) (fun h => h) (by omega)
  exact ⟨g1, g2, g3, by omega, by omega, by omega, by omega, by omega, by omega, by omega, ((c1.below b2).below b3).below b4, (c2.below b3).below b4, c3.below b4, h4,
    ((b1.trans (b2.mono (by omega))).trans (b3.mono (by omega))).trans (b4.mono (by omega)), by omega⟩
end Go.Proofs.Qxb6605363a.Swap
