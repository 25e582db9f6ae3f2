import Derived.Test.Qxb6003788aSc
namespace Go.Proofs.Qxb6003788a.Scan
open Go.RowKit Go.Proofs.Qxb6003788a.Aid Go.Proofs.Qxb6003788a.Dec
set_option linter.unusedVariables false
set_option linter.unusedSimpArgs false

set_option maxHeartbeats 400000 in
theorem pt_no (s g n p : Nat) (a : Option Addr) (Z : List Int) (pre : ByteArray) (w : World) (hs : Sc w s g n p a Z) (hn : n ≤ 1048576) (hp : p ≤ n) (hpre' : pre.size ≤ 1048576) (hpre : n < p + pre.size ∨ (p + pre.size ≤ n ∧ mtB Z p pre = false)) :
    Calls Try.prog 23 #[.pointer (some ⟨s, 0, none⟩), .string pre] w fun e w' => e = .returned (.tuple #[.int .u64 0, .bool false]) ∧ Sc w' s g n p a Z ∧ Only s w w' := by
  have HS := skip_no s g n p a Z pre w hs hn hp hpre' hpre
  have hpos := hs.pos
  have HP : Hid (n < p + pre.size ∨ (p + pre.size ≤ n ∧ mtB Z p pre = false)) := hpre
  clear hpre HS
  go_enter Try.func23, Try.ntmps23
  go_wp2_with (go_at_call 28; refine (skip_no s g n p a Z pre _ hs hn hp hpre' HP.out).mono ?_; rintro e w1 ⟨rfl, hs1, ho1⟩; have hpos1 := hs1.pos; have hfz1 := hs1.fz)
  go_ret2
  exact ⟨rfl, hs1.move p, ho1.trans (Only.setCell s 1 _ _)⟩

set_option maxHeartbeats 400000 in
theorem pt_char (s g n p k : Nat) (a : Option Addr) (Z : List Int) (pre : ByteArray) (w : World) (hs : Sc w s g n p a Z) (hn : n ≤ 1048576) (hp : p ≤ n) (hpre : p + pre.size ≤ n) (hm : mtB Z p pre = true) (hk : IsEnd Z (p + pre.size) k)
    (hc1 : (pk Z k == 44) = false) (hc2 : (pk Z k == 125) = false) :
    Calls Try.prog 23 #[.pointer (some ⟨s, 0, none⟩), .string pre] w fun e w' => e = .returned (.tuple #[.int .u64 0, .bool false]) ∧ Sc w' s g n p a Z ∧ Only s w w' := by
  have hpos := hs.pos
  have HM : Hid (mtB Z p pre = true) := hm
  clear hm
  have hkn : k ≤ n := by have := hk.2.1; rw [hs.2.2.2] at this; exact this
  go_enter Try.func23, Try.ntmps23
  go_wp2_with (first | (go_at_call 28; refine (skip_yes s g n p a Z pre _ hs hn hp hpre HM.out).mono ?_; rintro e w1 ⟨rfl, hs1, ho1⟩; have hpos1 := hs1.pos; have hfz1 := hs1.fz) | (go_at_call 29; refine (digits_sc s g n (p + pre.size) k a Z _ hs1 hn hpre hk).mono ?_; rintro e w2 ⟨rfl, hs2, ho2⟩; have hpos2 := hs2.pos; have hfz2 := hs2.fz) | (go_at_call 30; refine (peek_sc s g n k a Z _ hs2 hn hkn).mono ?_; rintro e w3 ⟨rfl, hs3, ho3⟩; have hpos3 := hs3.pos; have hfz3 := hs3.fz))
  go_ret2
  exact ⟨rfl, hs3.move p, ((ho1.trans ho2).trans ho3).trans (Only.setCell s 1 _ _)⟩
/-- The digits from d up to k. -/
def seg (Z : List Int) (d k : Nat) : List Int := (Z.drop d).take (k - d)

theorem seg_len (Z : List Int) (d k : Nat) (h : k ≤ Z.length) : (seg Z d k).length = k - d := by unfold seg; simp; omega
theorem seg_get (Z : List Int) (d k i : Nat) (h : i < k - d) : (seg Z d k).getD i 0 = Z.getD (d + i) 0 := by unfold seg; simp [List.getD, h]
theorem seg_digs (Z : List Int) (d k : Nat) (h : IsEnd Z d k) : digs (seg Z d k) := by
  intro c hc
  obtain ⟨i, hi, rfl⟩ := List.mem_iff_getElem.1 hc
  rw [seg_len Z d k h.2.1] at hi
  have e := seg_get Z d k i hi
  have := digB_true (h.2.2.1 (d + i) (by omega) (by omega))
  rw [← e] at this
  simpa [List.getD, seg_len Z d k h.2.1, hi] using this

theorem parse_any (g d m c : Nat) (D : List Int) (w : World) (hmax : m ≤ 1048576) (hD : D.length = m) (hdg : digs D)
    (hc : ∀ i, i < m → w.cell? ⟨g, d + i, none⟩ = some (.int .u8 (D.getD i 0))) :
    Calls Try.prog 31 #[.slice (some ⟨g, d, none⟩) m c] w fun e w' => e = .returned (.tuple #[.int .u64 (Parse.tm D), .bool (okB D)]) ∧ w' = w := by
  by_cases h : 1 ≤ m ∧ m ≤ 20
  · exact Parse.parse_long g d m c D w h.1 h.2 hD hdg hc
  · have hno : okB D = false := by simp only [okB, decide_eq_false_iff_not]; omega
    rw [Parse.tm_no hno, hno]
    exact Parse.parse_short _ m c w (by omega) hmax

set_option maxHeartbeats 800000 in
theorem pt_parse (s g n p k : Nat) (Z : List Int) (pre : ByteArray) (w : World) (hs : Sc w s g n p (some ⟨g, 0, none⟩) Z) (hn : n ≤ 1048576) (hp : p ≤ n) (hpre : p + pre.size ≤ n) (hm : mtB Z p pre = true) (hk : IsEnd Z (p + pre.size) k)
    (hkn : k < n) (hc : (pk Z k == 44) = true ∨ ((pk Z k == 44) = false ∧ (pk Z k == 125) = true)) (q : Nat) (hq : (okB (seg Z (p + pre.size) k) = true ∧ q = k) ∨ (okB (seg Z (p + pre.size) k) = false ∧ q = p)) :
    Calls Try.prog 23 #[.pointer (some ⟨s, 0, none⟩), .string pre] w fun e w' => e = .returned (.tuple #[.int .u64 (Parse.tm (seg Z (p + pre.size) k)), .bool (okB (seg Z (p + pre.size) k))]) ∧ Sc w' s g n q (some ⟨g, 0, none⟩) Z ∧ Only s w w' := by
  have hpos := hs.pos
  have HM : Hid (mtB Z p pre = true) := hm
  clear hm
  have hdk := hk.1
  have hdg := seg_digs Z _ _ hk
  have hlen := seg_len Z (p + pre.size) k (by rw [hs.2.2.2]; omega)
  have HG : Hid (∀ i, i < k - (p + pre.size) → (seg Z (p + pre.size) k).getD i 0 = Z.getD (p + pre.size + i) 0) := fun i hi => seg_get Z _ k i hi
  obtain ⟨D, hD⟩ : ∃ D, seg Z (p + pre.size) k = D := ⟨_, rfl⟩
  rw [hD] at hdg hlen HG hq ⊢
  have HL : Hid (D.length = k - (p + pre.size)) := hlen
  clear hD hlen
  rcases hq with ⟨hok, hqe⟩ | ⟨hok, hqe⟩
  · have htm : Parse.tm D = dval D := Parse.tm_yes hok
    have HT : Hid (Parse.tm D = dval D) := htm
    have HQ : Hid (q = k) := hqe
    clear htm hqe
    rcases hc with hc | ⟨hc, hc'⟩
    all_goals
      go_enter Try.func23, Try.ntmps23
      go_wp2_with (first | (go_at_call 28; refine (skip_yes s g n p _ Z pre _ hs hn hp hpre HM.out).mono ?_; rintro e w1 ⟨rfl, hs1, ho1⟩; have hpos1 := hs1.pos; have hfz1 := hs1.fz) | (go_at_call 29; refine (digits_sc s g n (p + pre.size) k _ Z _ hs1 hn hpre hk).mono ?_; rintro e w2 ⟨rfl, hs2, ho2⟩; have hpos2 := hs2.pos; have hfz2 := hs2.fz) | (go_at_call 30; refine (peek_sc s g n k _ Z _ hs2 hn (Nat.le_of_lt hkn)).mono ?_; rintro e w3 ⟨rfl, hs3, ho3⟩; have hpos3 := hs3.pos; have hfz3 := hs3.fz; have hbuf3 := hs3.buf))
      have HC3 : Hid (∀ i, i < k - (p + pre.size) → w3.cell? ⟨g, p + pre.size + i, none⟩ = some (.int .u8 (D.getD i 0))) := fun i hi => by rw [HG.out i hi]; exact hs3.cel _ (by omega)
      go_quiet ((go_at_call 31; exact Calls.quiet_of_same (parse_any _ _ _ _ D _ (by omega) HL.out hdg HC3.out)))
      go_wp2
      go_ret2
      exact ⟨Parse.ret_pair rfl hok.symm, by rw [HQ.out]; exact hs3.drewN _, ((ho1.trans ho2).trans ho3).trans (Only.drewN s _ _)⟩
  · have HQ : Hid (q = p) := hqe
    have HT : Hid (Parse.tm D = 0) := Parse.tm_no hok
    clear hqe
    rcases hc with hc | ⟨hc, hc'⟩
    all_goals
      go_enter Try.func23, Try.ntmps23
      go_wp2_with (first | (go_at_call 28; refine (skip_yes s g n p _ Z pre _ hs hn hp hpre HM.out).mono ?_; rintro e w1 ⟨rfl, hs1, ho1⟩; have hpos1 := hs1.pos; have hfz1 := hs1.fz) | (go_at_call 29; refine (digits_sc s g n (p + pre.size) k _ Z _ hs1 hn hpre hk).mono ?_; rintro e w2 ⟨rfl, hs2, ho2⟩; have hpos2 := hs2.pos; have hfz2 := hs2.fz) | (go_at_call 30; refine (peek_sc s g n k _ Z _ hs2 hn (Nat.le_of_lt hkn)).mono ?_; rintro e w3 ⟨rfl, hs3, ho3⟩; have hpos3 := hs3.pos; have hfz3 := hs3.fz; have hbuf3 := hs3.buf))
      have HC3 : Hid (∀ i, i < k - (p + pre.size) → w3.cell? ⟨g, p + pre.size + i, none⟩ = some (.int .u8 (D.getD i 0))) := fun i hi => by rw [HG.out i hi]; exact hs3.cel _ (by omega)
      go_quiet ((go_at_call 31; exact Calls.quiet_of_same (parse_any _ _ _ _ D _ (by omega) HL.out hdg HC3.out)))
      go_wp2
      go_ret2
      exact ⟨Parse.ret_pair HT.out.symm hok.symm, by rw [HQ.out]; exact (hs3.move p).drewN _, (((ho1.trans ho2).trans ho3).trans (Only.setCell s 1 _ _)).trans (Only.drewN s _ _)⟩
end Go.Proofs.Qxb6003788a.Scan
