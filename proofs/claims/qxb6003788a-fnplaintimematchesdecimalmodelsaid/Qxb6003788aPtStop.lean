import Derived.Test.Qxb6003788aPtLaw
namespace Go.Proofs.Qxb6003788a.Scan
open Go.RowKit Go.Proofs.Qxb6003788a.Aid Go.Proofs.Qxb6003788a.Dec
set_option linter.unusedVariables false
set_option linter.unusedSimpArgs false

theorem PT_char (g n p k : Nat) (a : Option Addr) (Z : List Int) (pre : ByteArray) (hn : n ≤ 1048576) (hp : p ≤ n) (hpre : p + pre.size ≤ n) (hm : mtB Z p pre = true) (hk : IsEnd Z (p + pre.size) k)
    (hc1 : (pk Z k == 44) = false) (hc2 : (pk Z k == 125) = false) : PT g n p a Z pre 0 false p := fun s w hs => pt_char s g n p k a Z pre w hs hn hp hpre hm hk hc1 hc2

theorem PT_bad (g n p k : Nat) (Z : List Int) (pre : ByteArray) (hn : n ≤ 1048576) (hp : p ≤ n) (hpre : p + pre.size ≤ n) (hm : mtB Z p pre = true) (hk : IsEnd Z (p + pre.size) k) (hkn : k < n)
    (hc : pk Z k = 44 ∨ pk Z k = 125) (hok : okB (seg Z (p + pre.size) k) = false) : PT g n p (some ⟨g, 0, none⟩) Z pre 0 false p := by
  intro s w hs
  have := pt_parse s g n p k Z pre w hs hn hp hpre hm hk hkn (by rcases hc with h | h <;> simp [h]) p (.inr ⟨hok, rfl⟩)
  rw [hok, Parse.tm_no hok] at this
  exact this

theorem PT_good (g n p k : Nat) (Z : List Int) (pre : ByteArray) (hn : n ≤ 1048576) (hp : p ≤ n) (hpre : p + pre.size ≤ n) (hm : mtB Z p pre = true) (hk : IsEnd Z (p + pre.size) k) (hkn : k < n)
    (hc : pk Z k = 44 ∨ pk Z k = 125) (hok : okB (seg Z (p + pre.size) k) = true) : PT g n p (some ⟨g, 0, none⟩) Z pre (dval (seg Z (p + pre.size) k)) true k := by
  intro s w hs
  have := pt_parse s g n p k Z pre w hs hn hp hpre hm hk hkn (by rcases hc with h | h <;> simp [h]) k (.inl ⟨hok, rfl⟩)
  rw [hok, Parse.tm_yes hok] at this
  exact this

theorem gt_m (g d m c : Nat) (D : List Int) (w : World) (hm : m = 20) (hD : D.length = m) (hdg : digs D) (b : Bool) (hb : b = decide (18446744073709551615 < dval D))
    (hc : ∀ i, i < m → w.cell? ⟨g, d + i, none⟩ = some (.int .u8 (D.getD i 0))) :
    Calls Try.prog 15 #[.slice (some ⟨g, d, none⟩) m c] w fun e w' => e = .returned (.bool b) ∧ ∃ nq, w' = w.drewN nq := by
  subst hm; subst hb; exact Max.gt_any g d c D w hD hdg hc

set_option maxHeartbeats 1600000 in
set_option maxRecDepth 100000 in
theorem law_stop (a : Option Addr) (n cap p k : Nat) (zs Z : List Int) (pre : ByteArray) (w : World) (hsrc : Src w a n cap zs) (HZ : Hid (zs.take n = Z)) (hZl : Z.length = n) (hn : n + pre.size ≤ 1048576) (hp : p < n) (hfit : p + pre.size ≤ n) (hm : mtB Z p pre = true) (hk : IsEnd Z (p + pre.size) k)
    (hc1 : (pk Z k == 44) = false) (hc2 : (pk Z k == 125) = false) :
    Calls Try.prog 5 #[.slice a n cap, .int .i64 p, .string pre] w fun e w' => e = .returned (.bool true) ∧ Below w.heap.size w w' := by
  have HM : Hid (mtB Z p pre = true) := hm
  have hdk := hk.1
  have hkn' : k ≤ n := by have := hk.2.1; omega
  have HD : Hid (∀ i, p + pre.size ≤ i → i < k → digB (Z.getD i 0) = true) := hk.2.2.1
  unfold mtB at hm
  obtain ⟨S, hS⟩ : ∃ S, subS Z p pre.size = S := ⟨_, rfl⟩
  have HS : Hid (subS Z p pre.size = S) := hS
  rw [hS] at hm
  clear hS
  have HC1 : Hid ((pk Z k == 44) = false) := hc1
  have HC2 : Hid ((pk Z k == 125) = false) := hc2
  have HK : Hid (IsEnd Z (p + pre.size) k) := hk
  clear hk hc1 hc2
  go_enter Try.func5, Try.ntmps5
  go_wp2_with (first | (go_at_call 13; refine (clone_clZ _ _ _ zs Z _ hsrc (by omega) HZ.out).mono ?_; rintro e wc ⟨a', rfl, ⟨g, hcl⟩, hbc⟩; obtain rfl := hcl.adr (by omega); have hrowc := hcl.row (by omega)) | (go_at_call 14; refine (zz_cl g n p p _ Z pre 0 false w _ (PT_char g n p k _ Z pre (by omega) (by omega) hfit HM.out HK.out HC1.out HC2.out) (by omega) hcl).mono ?_; rintro e w1 ⟨rfl, hb1⟩; have hrow1 := hrowc.below hb1 hrowc.lt; have hconv : ∀ c, (convert 27 9 (.slice (some ⟨g, p, none⟩) pre.size c)).run Try.prog w1 = .ok (.string S) w1 := fun c => by rw [conv_row g p pre.size c Z w1 (by rw [hcl.2.2]; exact hfit) (fun i hi => hrow1.cell i hi), HS.out]) | (go_at_call 12; go_in))
  clear hconv
  go_loop [14] (fun i => ∃ j : Nat, p + pre.size ≤ j ∧ j ≤ k ∧ i = .int .i64 j) (fun i => k - (intOf i).toNat)
  case atStart => exact ⟨p + pre.size, Nat.le_refl _, hdk, by go_num⟩
  case round =>
    obtain ⟨j, hj1, hj2, rfl⟩ := hrel
    by_cases hlt : j < k
    · have hcj := hrow1.cell j (by omega)
      have hdj := digB_true (HD.out j hj1 hlt)
      obtain ⟨y, hy⟩ : ∃ c, Z.getD j 0 = c := ⟨_, rfl⟩
      rw [hy] at hcj hdj
      clear hy
      have hd0 := hdj.1
      have hd1 := hdj.2
      clear hdj
      have hjn : (j : Int) < (n : Int) := by omega
      go_wp2
      go_round
      case rel => exact ⟨j + 1, by omega, by omega, by go_num⟩
      case measure => simp [intOf]; omega
    · have hjk : j = k := by omega
      subst hjk
      by_cases hjn : j < n
      · have hcj := hrow1.cell j (by omega)
        have hno := digB_false (HK.out.2.2.2 (by omega))
        have hp1 := HC1.out
        have hp2 := HC2.out
        unfold pk at hp1 hp2
        rw [if_pos (by omega)] at hp1 hp2
        obtain ⟨y, hy⟩ : ∃ c, Z.getD j 0 = c := ⟨_, rfl⟩
        rw [hy] at hcj hno hp1 hp2
        clear hy
        have hjn' : (j : Int) < (n : Int) := by omega
        rcases (show y < 48 ∨ 57 < y by omega) with hy | hy
        · clear hno
          go_wp2
          go_ret
          exact ⟨rfl, hbc.trans (hb1.mono hbc.size)⟩
        · have hy' : 48 ≤ y := by omega
          clear hno
          go_wp2
          go_ret
          exact ⟨rfl, hbc.trans (hb1.mono hbc.size)⟩
      · have hjn' : ¬ (j : Int) < (n : Int) := by omega
        go_wp2
        go_ret
        exact ⟨rfl, hbc.trans (hb1.mono hbc.size)⟩

end Go.Proofs.Qxb6003788a.Scan
