import Derived.Test.Qxb6003788aPtOk
namespace Go.Proofs.Qxb6003788a.Scan
open Go.RowKit Go.Proofs.Qxb6003788a.Aid Go.Proofs.Qxb6003788a.Dec
set_option linter.unusedVariables false
set_option linter.unusedSimpArgs false

set_option maxHeartbeats 3000000 in
set_option maxRecDepth 100000 in
theorem law_ok20 (a : Option Addr) (n cap p k : Nat) (zs Z : List Int) (pre : ByteArray) (w : World) (hsrc : Src w a n cap zs) (HZ : Hid (zs.take n = Z)) (hZl : Z.length = n) (hn : n + pre.size ≤ 1048576) (hp : p < n) (hfit : p + pre.size ≤ n) (hm : mtB Z p pre = true) (hk : IsEnd Z (p + pre.size) k)
    (hkn : k < n) (hx : Z.getD k 0 = 44 ∨ Z.getD k 0 = 125) (hok : okB (seg Z (p + pre.size) k) = true) (hlen3 : p + pre.size + 20 ≤ k) :
    Calls Try.prog 5 #[.slice a n cap, .int .i64 p, .string pre] w fun e w' => e = .returned (.bool true) ∧ Below w.heap.size w w' := by
  have HM : Hid (mtB Z p pre = true) := hm
  have hdk := hk.1
  have HD : Hid (∀ i, p + pre.size ≤ i → i < k → digB (Z.getD i 0) = true) := hk.2.2.1
  unfold mtB at hm
  obtain ⟨S, hS⟩ : ∃ S, subS Z p pre.size = S := ⟨_, rfl⟩
  have HS : Hid (subS Z p pre.size = S) := hS
  rw [hS] at hm
  clear hS
  have HK : Hid (IsEnd Z (p + pre.size) k) := hk
  have HX : Hid (Z.getD k 0 = 44 ∨ Z.getD k 0 = 125) := hx
  have HPK : Hid (pk Z k = 44 ∨ pk Z k = 125) := by rw [pk_at (by omega)]; exact hx
  have hdg := seg_digs Z _ _ hk
  have hL := seg_len Z (p + pre.size) k (by omega)
  have hG : ∀ i, i < k - (p + pre.size) → (seg Z (p + pre.size) k).getD i 0 = Z.getD (p + pre.size + i) 0 := fun i hi => seg_get Z _ k i hi
  obtain ⟨D, hD⟩ : ∃ D, seg Z (p + pre.size) k = D := ⟨_, rfl⟩
  rw [hD] at hdg hL hG hok
  have HDD : Hid (seg Z (p + pre.size) k = D) := hD
  have HOK : Hid (okB D = true) := hok
  have HL : Hid (D.length = k - (p + pre.size)) := hL
  have HG : Hid (∀ i, i < k - (p + pre.size) → D.getD i 0 = Z.getD (p + pre.size + i) 0) := hG
  have hol := okB_len hok
  rw [hL] at hol
  have hz : Z.getD (p + pre.size) 0 ≠ 48 := by
    have h1 := hG 0 (by omega)
    rw [Nat.add_zero] at h1
    rw [← h1]; exact hol.2.2.1
  have hlen1 := hol.1
  have hlen2 := hol.2.1
  have HV : Hid (dval D ≤ 18446744073709551615) := hol.2.2.2
  have hz' : (Z.getD (p + pre.size) 0 == 48) = false := by simpa using hz
  obtain ⟨z0, hz0⟩ : ∃ c, Z.getD (p + pre.size) 0 = c := ⟨_, rfl⟩
  have HQ : Hid (Z.getD (p + pre.size) 0 = z0) := hz0
  rw [hz0] at hz'
  have hz1 : (z0 != 48) = true := by simpa using hz'
  clear hk hx hok hz hz0 hz' hol hL hG hD
  have HGT : Hid (false = decide (18446744073709551615 < dval D)) := (decide_eq_false (by have := HV.out; omega)).symm
  go_enter Try.func5, Try.ntmps5
  go_wp2_with (first | (go_at_call 13; refine (clone_clZ _ _ _ zs Z _ hsrc (by omega) HZ.out).mono ?_; rintro e wc ⟨a', rfl, ⟨g, hcl⟩, hbc⟩; obtain rfl := hcl.adr (by omega); have hrowc := hcl.row (by omega)) | (go_at_call 14; refine (zz_cl g n p k _ Z pre (dval D) true w _ (PT_goodD g n p k Z D pre (by omega) (by omega) hfit HM.out HK.out hkn HPK.out HDD.out HOK.out) (by omega) hcl).mono ?_; rintro e w1 ⟨rfl, hb1⟩; have hrow1 := hrowc.below hb1 hrowc.lt; have hconv : ∀ c, (convert 27 9 (.slice (some ⟨g, p, none⟩) pre.size c)).run Try.prog w1 = .ok (.string S) w1 := fun c => by rw [conv_row g p pre.size c Z w1 (by rw [hcl.2.2]; exact hfit) (fun i hi => hrow1.cell i hi), HS.out]) | (go_at_call 12; go_in))
  clear hconv
  go_loop [14] (fun i => ∃ j : Nat, p + pre.size ≤ j ∧ j ≤ k ∧ i = .int .i64 j) (fun i => k - (intOf i).toNat)
  case atStart => exact ⟨p + pre.size, Nat.le_refl _, hdk, by go_num⟩
  case round =>
    obtain ⟨j, hj1, hj2, rfl⟩ := hrel
    by_cases hlt : j < k
    · have hcj := hrow1.cell j (by omega)
      have hdj := digB_true (HD.out j hj1 hlt)
      obtain ⟨y, hy⟩ : ∃ c, Z.getD j 0 = c := ⟨_, rfl⟩
      rw [hy] at hcj hdj
      clear hy
      have hd0 := hdj.1
      have hd1 := hdj.2
      clear hdj
      have hjn : (j : Int) < (n : Int) := by omega
      go_wp2
      go_round
      case rel => exact ⟨j + 1, by omega, by omega, by go_num⟩
      case measure => simp [intOf]; omega
    · have hjk : j = k := by omega
      subst hjk
      have hcj := hrow1.cell j (by omega)
      have hjn' : (j : Int) < (n : Int) := by omega
      have hl0 : (1 : Int) ≤ (j : Int) - ((p : Int) + (pre.size : Int)) := by omega
      have hl1 : (j : Int) - ((p : Int) + (pre.size : Int)) ≤ 20 := by omega
      have hcd := hrow1.cell (p + pre.size) (by omega)
      rw [HQ.out] at hcd
      have hdn : (p : Int) + (pre.size : Int) < (n : Int) := by omega
      have HC1 : Hid (∀ i, i < j - (p + pre.size) → w1.cell? ⟨g, p + pre.size + i, none⟩ = some (.int .u8 (D.getD i 0))) := fun i hi => by rw [HG.out i hi]; exact hrow1.cell _ (by omega)
      rcases HX.out with hx | hx
      all_goals
        rw [hx] at hcj
        clear hx
        have hl2 : ¬ (j : Int) - ((p : Int) + (pre.size : Int)) < 20 := by omega
        go_wp2_with (go_at_call 15; refine (gt_m g (p + pre.size) _ _ D _ (by omega) HL.out hdg false HGT.out HC1.out).mono ?_; rintro e w2 ⟨rfl, nq, rfl⟩)
        go_loop [11, 16] (fun t i => ∃ q : Nat, q ≤ j - (p + pre.size) ∧ i = .int .i64 ((p : Int) + (pre.size : Int) + (q : Int)) ∧ t = .int .u64 (dval (D.take q))) (fun _ i => j - (intOf i).toNat)
        case atStart => exact ⟨0, Nat.zero_le _, by simp, rfl⟩
        case round =>
          obtain ⟨q, hq, rfl, rfl⟩ := hrel
          by_cases hlt2 : q < j - (p + pre.size)
          · have hcq := HC1.out q hlt2
            have HSt : Hid (dval (D.take (q + 1)) = dval (D.take q) * 10 + (D.getD q 0 - 48)) := Parse.dval_take D q (by rw [HL.out]; exact hlt2)
            have hbq := hdg (D.getD q 0) (by have : q < D.length := by rw [HL.out]; exact hlt2
                                             simp [List.getD, this])
            have hb19 := Parse.take_19 hdg q (by omega)
            have hfitq : dval (D.take q) * 10 + (D.getD q 0 - 48) ≤ 18446744073709551615 := by
              by_cases e : q ≤ 18
              · have := Parse.take_lt19 hdg q e
                omega
              · rw [← HSt.out, List.take_of_length_le (by rw [HL.out]; omega)]
                exact HV.out
            obtain ⟨y, hy⟩ : ∃ c, D.getD q 0 = c := ⟨_, rfl⟩
            obtain ⟨t, ht⟩ : ∃ c, dval (D.take q) = c := ⟨_, rfl⟩
            rw [hy] at hcq HSt hbq hfitq
            rw [ht] at HSt hb19 hfitq ⊢
            have hy0 := hbq.1
            have hy1 := hbq.2
            have ht0 := hb19.1
            clear hy ht hbq hb19
            have hqj : (p : Int) + (pre.size : Int) + (q : Int) < (j : Int) := by omega
            have hqn : (p : Int) + (pre.size : Int) + (q : Int) < (n : Int) := by omega
            go_wp2
            go_round
            case rel => exact ⟨q + 1, by omega, by go_num, u64_eq (by rw [HSt.out])⟩
            case measure => simp [intOf]; omega
          · have hqj : ¬ (p : Int) + (pre.size : Int) + (q : Int) < (j : Int) := by omega
            have HE : Hid (dval (D.take q) = dval D) := by rw [List.take_of_length_le (by rw [HL.out]; omega)]; trivial
            have he : dval (D.take q) ≤ dval D := by rw [HE.out]; omega
            have he' : dval D ≤ dval (D.take q) := by rw [HE.out]; omega
            go_wp2
            go_ret
            exact ⟨rfl, (hbc.trans (hb1.mono hbc.size)).trans ⟨rfl, rfl, rfl, Nat.le_refl _, fun _ _ => rfl⟩⟩

end Go.Proofs.Qxb6003788a.Scan
