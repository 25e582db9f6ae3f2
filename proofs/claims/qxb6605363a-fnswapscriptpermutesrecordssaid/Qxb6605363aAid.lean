import Derived.WalkKit
import Derived.Laws.CopyOwn
namespace Go.Proofs.Qxb6605363a.Aid
open Go.RowKit
set_option linter.unusedVariables false
set_option linter.unusedSimpArgs false

theorem ret_bool {a b : Bool} (h : a = b) : Ending.returned (.bool a) = .returned (.bool b) := by rw [h]
theorem ret_int {k : IntKind} {a b : Int} (h : a = b) : Ending.returned (.int k a) = .returned (.int k b) := by rw [h]

/-- Block g of the world is a row of the integers zs, no cell of it frozen. -/
def BRow (w : World) (g : Nat) (k : IntKind) (t : TypeId) (zs : List Int) : Prop := w.heap[g]? = some (.cells (zs.map (Value.int k)).toArray t (0, 0))

theorem BRow.lt {w : World} {g : Nat} {k : IntKind} {t : TypeId} {zs : List Int} (h : BRow w g k t zs) : g < w.heap.size := lt_of_block h

theorem BRow.cell {w : World} {g : Nat} {k : IntKind} {t : TypeId} {zs : List Int} (h : BRow w g k t zs) (i : Nat) (hi : i < zs.length) : w.cell? ⟨g, i, none⟩ = some (.int k (zs.getD i 0)) := by
  unfold BRow at h
  simp [World.cell?, h, hi]

theorem BRow.frozen {w : World} {g : Nat} {k : IntKind} {t : TypeId} {zs : List Int} (h : BRow w g k t zs) (i : Nat) : w.frozen? ⟨g, i, none⟩ = false := by
  unfold BRow at h
  simp [World.frozen?, h]

theorem BRow.below {w w' : World} {g B : Nat} {k : IntKind} {t : TypeId} {zs : List Int} (h : BRow w g k t zs) (hb : Below B w w') (hg : g < B) : BRow w' g k t zs := by
  unfold BRow at *
  rw [hb.block g hg]; exact h

theorem BRow.alloc {w : World} {g : Nat} {k : IntKind} {t : TypeId} {zs : List Int} (h : BRow w g k t zs) (o : Obj) : BRow (w.alloc o) g k t zs := by
  have hl := h.lt
  unfold BRow at *
  rw [Below.heap_alloc w o g hl]; exact h

theorem BRow.drew {w : World} {g : Nat} {k : IntKind} {t : TypeId} {zs : List Int} (h : BRow w g k t zs) : BRow w.drew g k t zs := h

theorem BRow.set_other {w : World} {g : Nat} {k : IntKind} {t : TypeId} {zs : List Int} (h : BRow w g k t zs) (a : Addr) (v : Value) (hg : g ≠ a.block) : BRow (w.setCell a v) g k t zs := by
  unfold BRow at *
  rw [Below.heap_setCell w a v g hg]; exact h

theorem BRow.set {w : World} {g : Nat} {k : IntKind} {t : TypeId} {zs : List Int} (h : BRow w g k t zs) (i : Nat) (x : Int) : BRow (w.setCell ⟨g, i, none⟩ (.int k x)) g k t (zs.set i x) := by
  have hlt := h.lt
  unfold BRow at *
  have h' : w.heap[g] = .cells (zs.map (Value.int k)).toArray t (0, 0) := by simpa [Array.getElem?_eq_getElem hlt] using h
  show (w.heap.modify g _)[g]? = _
  rw [Array.getElem?_eq_getElem (by simpa using hlt), Array.getElem_modify_self, h']
  simp [List.map_set]

theorem BRow.made (w : World) (n : Nat) (k : IntKind) (t : TypeId) : BRow (w.alloc (.cells (madeCells #[Value.int k 0] n) t)) w.heap.size k t (List.replicate n 0) := by
  unfold BRow
  rw [heap_alloc_new]
  have : madeCells #[Value.int k 0] n = ((List.replicate n (0 : Int)).map (Value.int k)).toArray := by
    apply Array.ext'
    rw [toList_madeCells_one]; simp
  rw [this]

/-- 'make([]T, m, n)', T an integer type of one cell: a new row of n zeros, the slice's length m. -/
theorem wpList_make_row {P : Program} (w : World) {ops : Array Oper} {rest : List Oper} {o : Oper} {a : Act} {Q : Exit → Act → World → Prop}
    (hg : o.guard = none) (l c : Operand) (t : TypeId) (hop : o.op = Op.makeSlice t l c)
    (e : TypeId) (i : TypeInfo) (k : IntKind) (h1 : P.underlying t = some (.slice e)) (h2 : P.info? e = some i) (h3 : i.zero = some (.int k 0)) (h4 : i.size = 1) (h5 : i.bytes ≤ 8)
    (kl kc : IntKind) (L C : Int) (m n : Nat) (hl : a.eval l = .int kl L) (hc : a.eval c = .int kc C) (hL : L = (m : Int)) (hC : C = (n : Int)) (hmn : m ≤ n) (hn : n ≤ 1073741824)
    (hK : ∀ w1, BRow w1 w.heap.size k e (List.replicate n 0) → w1.heap.size = w.heap.size + 1 → Below w.heap.size w w1 → wpList P ops Q rest (a.put o.dst (.slice (some ⟨w.heap.size, 0, none⟩) m n)) w1) :
    wpList P ops Q (o :: rest) a w := by
  refine wpList_plain hg fun K hK' => ?_
  subst hL
  subst hC
  have hb : (i.bytes : Int) * (n : Int) ≤ 281474976710656 := by
    have h : i.bytes * n ≤ 8 * 1073741824 := Nat.mul_le_mul h5 hn
    have h' : ((i.bytes * n : Nat) : Int) ≤ 281474976710656 := by omega
    rwa [Int.natCast_mul] at h'
  have hrun := run_make (P := P) w t e i (.int k 0) h1 h2 h3 kl kc m n (by omega) (by omega) hb (by omega)
  simp only [Int.toNat_natCast, h4, Nat.mul_one] at hrun
  unfold Oper.wp
  simp [execOp, hop, hl, hc, hrun, Result.andThen]
  refine hK' _ _ (hK _ (BRow.made w n k e) (by simp) ?_)
  exact (Below.refl _ _).alloc (Nat.le_refl _) _

/-- 'copy(dst, src)', dst the whole of a row of the call's own, src as long. -/
theorem wpList_copy_row {P : Program} {w : World} {ops : Array Oper} {rest : List Oper} {o : Oper} {a : Act} {Q : Exit → Act → World → Prop} (hgd : o.guard = none) (d s : Operand) (dT sT : TypeId)
    (ho : o.op = .call { callee := .builtin .copy, args := #[d, s], argTypes := #[dT, sT] }) (elem : TypeId) (hu : P.underlying dT = some (.slice elem)) (hsz : (P.info? elem).map (·.size) = some 1)
    (ad : Addr) (g n dCap sCap : Nat) (hd : a.eval d = .slice (some ⟨g, 0, none⟩) n dCap) (hs : a.eval s = .slice (some ad) n sCap)
    (k : IntKind) (t : TypeId) (ys xs : List Int) (hg : BRow w g k t ys) (hys : ys.length = n) (hn : xs.length = n)
    (hsrc : ∀ j, j < n → w.cell? (ad.add j) = some (.int k (xs.getD j 0))) (B : Nat) (w0 : World) (hb : Below B w0 w) (hBg : B ≤ g)
    (h : ∀ w', BRow w' g k t xs → w'.heap.size = w.heap.size → Below B w0 w' → wpList P ops Q rest (a.put o.dst (goInt n)) w') :
    wpList P ops Q (o :: rest) a w := by
  by_cases h0 : n = 0
  · obtain rfl : xs = [] := List.eq_nil_of_length_eq_zero (by omega)
    obtain rfl : ys = [] := List.eq_nil_of_length_eq_zero (by omega)
    refine wpList_copy_nothing hgd d s dT sT ho elem hu hsz _ _ _ _ _ _ hd hs (by simp [h0]) ?_
    have := h w hg rfl hb
    rw [h0] at this
    simpa using this
  · refine wpList_copy_own hgd d s dT sT ho elem hu hsz g 0 n dCap ad n sCap hd hs _ t hg (xs.map (Value.int k)) (by simp [hn]) ?_ (by simp [hn, hys]) (ints_oneCell _ _) ?_
    · intro j v hv
      have hj : j < n := by have := (List.getElem?_eq_some_iff.1 hv).1; simpa [hn] using this
      rw [hsrc j hj]
      simp [hj, hn] at hv
      rw [← hv]
      simp [List.getD, hn, hj]
    · have e1 : (((ys.map (Value.int k)).toArray.toList.take 0 ++ (xs.map (Value.int k) ++ (ys.map (Value.int k)).toArray.toList.drop (0 + (xs.map (Value.int k)).length))).toArray) = (xs.map (Value.int k)).toArray := by
        have : ys.length ≤ xs.length := by omega
        simp [List.drop_eq_nil_of_le, this]
      rw [e1]
      have := h _ (show BRow _ g k t xs from setRow_heap w g _ _ t _ hg) (by simp [World.setRow]) (below_setRow hb hBg _)
      simpa [hn] using this

theorem BRow.owns {w : World} {g : Nat} {k : IntKind} {t : TypeId} {Z : List Int} (h : BRow w g k t Z) (n cap base : Nat) (hZ : Z.length = cap) (hn : n ≤ cap) (hm : cap ≤ maxLen) (hb : base ≤ g) :
    w.ownsRow base t 1 (.slice (some ⟨g, 0, none⟩) n cap) n ((Z.take n).map (Value.int k)) :=
  ⟨by simp; omega, .inr ⟨g, cap, _, rfl, hb, h, hn, hm, by simpa using hZ, by simp⟩⟩

theorem plain_addr {w : World} {x : Addr} {v : Value} (h : w.cell? (x.add 0) = some v) : ∃ b off, x = ⟨b, off, none⟩ := by
  obtain ⟨b, off, spot⟩ := x
  have hspot : spot = none := by simpa [Addr.add] using World.cell?_spot h
  exact ⟨b, off, by rw [hspot]⟩

theorem add_zero' (g j : Nat) : (⟨g, 0, none⟩ : Addr).add j = ⟨g, j, none⟩ := by
  unfold Addr.add; split <;> simp_all

theorem owns_cell {w : World} {base g : Nat} {k : IntKind} {t : TypeId} {n m cap : Nat} {Z : List Int} {news : List Value} (h : w.ownsRow base t 1 (.slice (some ⟨g, 0, none⟩) n cap) m (Z.map (Value.int k) ++ news)) (j : Nat) (hj : j < Z.length) :
    w.cell? ⟨g, j, none⟩ = some (.int k (Z.getD j 0)) := by
  have := h.cells (g := g) rfl j (.int k (Z.getD j 0)) (by simp [hj, List.getElem?_append_left])
  rwa [add_zero'] at this

theorem BRow.src {w : World} {g : Nat} {k : IntKind} {t : TypeId} {Z : List Int} (h : BRow w g k t Z) : ∀ j u, (Z.map (Value.int k))[j]? = some u → w.cell? ((⟨g, 0, none⟩ : Addr).add j) = some u := by
  intro j u hu
  have hj : j < Z.length := by have := (List.getElem?_eq_some_iff.1 hu).1; simpa using this
  rw [add_zero', h.cell j hj, ← hu]
  simp [hj]

end Go.Proofs.Qxb6605363a.Aid
