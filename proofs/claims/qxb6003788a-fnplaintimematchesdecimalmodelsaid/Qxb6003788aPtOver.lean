import Derived.Test.Qxb6003788aPtBad
namespace Go.Proofs.Qxb6003788a.Scan
open Go.RowKit Go.Proofs.Qxb6003788a.Aid Go.Proofs.Qxb6003788a.Dec
set_option linter.unusedVariables false
set_option linter.unusedSimpArgs false

theorem u64_eq {a b : Int} (h : a = b) : Value.int .u64 a = .int .u64 b := by rw [h]

set_option maxHeartbeats 1600000 in
set_option maxRecDepth 100000 in
theorem law_over (a : Option Addr) (n cap p k : Nat) (zs Z : List Int) (pre : ByteArray) (w : World) (hsrc : Src w a n cap zs) (HZ : Hid (zs.take n = Z)) (hZl : Z.length = n) (hn : n + pre.size ≤ 1048576) (hp : p < n) (hfit : p + pre.size ≤ n) (hm : mtB Z p pre = true) (hk : IsEnd Z (p + pre.size) k)
    (hkn : k < n) (hx : Z.getD k 0 = 44 ∨ Z.getD k 0 = 125) (hok : okB (seg Z (p + pre.size) k) = false) (hlen1 : p + pre.size + 20 ≤ k) (hlen2 : k ≤ p + pre.size + 20) (hz : Z.getD (p + pre.size) 0 ≠ 48) (hgt : 18446744073709551615 < dval (seg Z (p + pre.size) k)) :
    Calls Try.prog 5 #[.slice a n cap, .int .i64 p, .string pre] w fun e w' => e = .returned (.bool true) ∧ Below w.heap.size w w' := by
  have HM : Hid (mtB Z p pre = true) := hm
  have hdk := hk.1
  have HD : Hid (∀ i, p + pre.size ≤ i → i < k → digB (Z.getD i 0) = true) := hk.2.2.1
  unfold mtB at hm
  obtain ⟨S, hS⟩ : ∃ S, subS Z p pre.size = S := ⟨_, rfl⟩
  have HS : Hid (subS Z p pre.size = S) := hS
  rw [hS] at hm
  clear hS
  have HK : Hid (IsEnd Z (p + pre.size) k) := hk
  have HX : Hid (Z.getD k 0 = 44 ∨ Z.getD k 0 = 125) := hx
  have HPK : Hid (pk Z k = 44 ∨ pk Z k = 125) := by rw [pk_at (by omega)]; exact hx
  have HOK : Hid (okB (seg Z (p + pre.size) k) = false) := hok
  have hdg := seg_digs Z _ _ hk
  have HL : Hid ((seg Z (p + pre.size) k).length = k - (p + pre.size)) := seg_len Z (p + pre.size) k (by omega)
  have HG : Hid (∀ i, i < k - (p + pre.size) → (seg Z (p + pre.size) k).getD i 0 = Z.getD (p + pre.size + i) 0) := fun i hi => seg_get Z _ k i hi
  have hz' : (Z.getD (p + pre.size) 0 == 48) = false := by simpa using hz
  obtain ⟨z0, hz0⟩ : ∃ c, Z.getD (p + pre.size) 0 = c := ⟨_, rfl⟩
  have HQ : Hid (Z.getD (p + pre.size) 0 = z0) := hz0
  rw [hz0] at hz'
  have hz1 : (z0 != 48) = true := by simpa using hz'
  clear hk hx hok hz hz0 hz'
  have HGT : Hid (true = decide (18446744073709551615 < dval (seg Z (p + pre.size) k))) := (decide_eq_true hgt).symm
  clear hgt
  go_enter Try.func5, Try.ntmps5
  go_wp2_with (first | (go_at_call 13; refine (clone_clZ _ _ _ zs Z _ hsrc (by omega) HZ.out).mono ?_; rintro e wc ⟨a', rfl, ⟨g, hcl⟩, hbc⟩; obtain rfl := hcl.adr (by omega); have hrowc := hcl.row (by omega)) | (go_at_call 14; refine (zz_cl g n p p _ Z pre 0 false w _ (PT_bad g n p k Z pre (by omega) (by omega) hfit HM.out HK.out hkn HPK.out HOK.out) (by omega) hcl).mono ?_; rintro e w1 ⟨rfl, hb1⟩; have hrow1 := hrowc.below hb1 hrowc.lt; have hconv : ∀ c, (convert 27 9 (.slice (some ⟨g, p, none⟩) pre.size c)).run Try.prog w1 = .ok (.string S) w1 := fun c => by rw [conv_row g p pre.size c Z w1 (by rw [hcl.2.2]; exact hfit) (fun i hi => hrow1.cell i hi), HS.out]) | (go_at_call 12; go_in))
  clear hconv
  go_loop [14] (fun i => ∃ j : Nat, p + pre.size ≤ j ∧ j ≤ k ∧ i = .int .i64 j) (fun i => k - (intOf i).toNat)
  case atStart => exact ⟨p + pre.size, Nat.le_refl _, hdk, by go_num⟩
  case round =>
    obtain ⟨j, hj1, hj2, rfl⟩ := hrel
    by_cases hlt : j < k
    · have hcj := hrow1.cell j (by omega)
      have hdj := digB_true (HD.out j hj1 hlt)
      obtain ⟨y, hy⟩ : ∃ c, Z.getD j 0 = c := ⟨_, rfl⟩
      rw [hy] at hcj hdj
      clear hy
      have hd0 := hdj.1
      have hd1 := hdj.2
      clear hdj
      have hjn : (j : Int) < (n : Int) := by omega
      go_wp2
      go_round
      case rel => exact ⟨j + 1, by omega, by omega, by go_num⟩
      case measure => simp [intOf]; omega
    · have hjk : j = k := by omega
      subst hjk
      have hcj := hrow1.cell j (by omega)
      have hjn' : (j : Int) < (n : Int) := by omega
      have hl0 : (1 : Int) ≤ (j : Int) - ((p : Int) + (pre.size : Int)) := by omega
      have hl1 : (j : Int) - ((p : Int) + (pre.size : Int)) ≤ 20 := by omega
      have hcd := hrow1.cell (p + pre.size) (by omega)
      rw [HQ.out] at hcd
      have hdn : (p : Int) + (pre.size : Int) < (n : Int) := by omega
      have HC1 : Hid (∀ i, i < j - (p + pre.size) → w1.cell? ⟨g, p + pre.size + i, none⟩ = some (.int .u8 ((seg Z (p + pre.size) j).getD i 0))) := fun i hi => by rw [HG.out i hi]; exact hrow1.cell _ (by omega)
      rcases HX.out with hx | hx
      all_goals
        rw [hx] at hcj
        clear hx
        have hl2 : ¬ (j : Int) - ((p : Int) + (pre.size : Int)) < 20 := by omega
        go_wp2_with (go_at_call 15; refine (gt_m g (p + pre.size) _ _ (seg Z (p + pre.size) j) _ (by omega) HL.out hdg true HGT.out HC1.out).mono ?_; rintro e w2 ⟨rfl, nq, rfl⟩)
        go_ret
        exact ⟨rfl, (hbc.trans (hb1.mono hbc.size)).trans ⟨rfl, rfl, rfl, Nat.le_refl _, fun _ _ => rfl⟩⟩

end Go.Proofs.Qxb6003788a.Scan
