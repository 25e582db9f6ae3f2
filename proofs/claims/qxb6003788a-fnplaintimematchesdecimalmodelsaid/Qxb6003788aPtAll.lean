import Derived.Test.Qxb6003788aPtOk20
namespace Go.Proofs.Qxb6003788a.Scan
open Go.RowKit Go.Proofs.Qxb6003788a.Aid Go.Proofs.Qxb6003788a.Dec
set_option linter.unusedVariables false
set_option linter.unusedSimpArgs false

set_option maxHeartbeats 1600000 in
set_option maxRecDepth 100000 in
theorem law_end (a : Option Addr) (n cap : Nat) (zs Z : List Int) (w : World) (hsrc : Src w a n cap zs) (HZ : Hid (zs.take n = Z)) (hZl : Z.length = n) (hn : n ≤ 1048576) :
    Calls Try.prog 5 #[.slice a n cap, .int .i64 n, .string ⟨#[]⟩] w fun e w' => e = .returned (.bool true) ∧ Below w.heap.size w w' := by
  have HK : Hid (IsEnd Z n n) := ⟨Nat.le_refl _, by omega, fun i h1 h2 => by omega, fun h => by omega⟩
  have HP : Hid (pk Z n = 0) := by unfold pk; rw [if_neg (by omega)]; trivial
  have HM : Hid (mtB Z n ⟨#[]⟩ = true) := mtB_empty Z n
  go_enter Try.func5, Try.ntmps5
  go_wp2_with (first | (go_at_call 13; refine (clone_clZ _ _ _ zs Z _ hsrc (by omega) HZ.out).mono ?_; rintro e wc ⟨a', rfl, ⟨g, hcl⟩, hbc⟩) | (go_at_call 12; go_in))
  refine (zz_cl g n n n a' Z ⟨#[]⟩ 0 false w wc (PT_char g n n n a' Z ⟨#[]⟩ hn (Nat.le_refl _) (Nat.le_refl _) HM.out HK.out (by rw [HP.out]; rfl) (by rw [HP.out]; rfl)) hn hcl).mono ?_
  rintro e w1 ⟨rfl, hb1⟩
  have hc0 := conv_zero
  have hc1 := conv_none
  rcases hcl.2.1 with ⟨rfl, hn0⟩ | ⟨rfl, _⟩
  · subst hn0
    go_wp2
    refine wp_loop_rounds 1 ?_
    rw [rounds_succ]
    go_wp2
    go_ret
    exact ⟨rfl, hbc.trans (hb1.mono hbc.size)⟩
  · go_wp2
    go_loop [14] (fun i => i = .int .i64 n) (fun i => 0)
    case atStart => rfl
    case round =>
      subst hrel
      go_wp2
      go_ret
      exact ⟨rfl, hbc.trans (hb1.mono hbc.size)⟩

theorem law_all (a : Option Addr) (n cap p : Nat) (zs : List Int) (pre : ByteArray) (w : World) (hsrc : Src w a n cap zs) (hn : n + pre.size ≤ 1048576) (hp : p ≤ n) :
    Calls Try.prog 5 #[.slice a n cap, .int .i64 p, .string pre] w fun e w' => e = .returned (.bool true) ∧ Below w.heap.size w w' := by
  by_cases hfit : p + pre.size ≤ n
  · cases hm : mtB (zs.take n) p pre with
    | false => exact law_miss a n cap p zs pre w hsrc hn hp hfit hm
    | true =>
      have hzl : (zs.take n).length = n := by
        rcases hsrc with ⟨_, rfl, _, rfl⟩ | ⟨_, _, h1, h2, _⟩
        · simp
        · simp; omega
      by_cases hpn : p < n
      · obtain ⟨k, hk⟩ := end_ex' (zs.take n) (p + pre.size) (by omega)
        have hk2 := hk.2.1
        rw [hzl] at hk2
        have HZ : Hid (zs.take n = zs.take n) := rfl
        by_cases hc : k < n ∧ ((zs.take n).getD k 0 = 44 ∨ (zs.take n).getD k 0 = 125)
        · obtain ⟨hkn, hx⟩ := hc
          have hlen := seg_len (zs.take n) (p + pre.size) k (by omega)
          cases hok : okB (seg (zs.take n) (p + pre.size) k) with
          | true =>
            by_cases h20 : k < p + pre.size + 20
            · exact law_ok a n cap p k zs _ pre w hsrc HZ hzl hn hpn hfit hm hk hkn hx hok h20
            · exact law_ok20 a n cap p k zs _ pre w hsrc HZ hzl hn hpn hfit hm hk hkn hx hok (by omega)
          | false =>
            have hd1 := hk.1
            by_cases h0 : k ≤ p + pre.size
            · exact law_none a n cap p k zs _ pre w hsrc HZ hzl hn hpn hfit hm hk hkn hx hok h0
            · by_cases h20 : p + pre.size + 20 < k
              · exact law_many a n cap p k zs _ pre w hsrc HZ hzl hn hpn hfit hm hk hkn hx hok h20
              · by_cases hz : (zs.take n).getD (p + pre.size) 0 = 48
                · exact law_zero a n cap p k zs _ pre w hsrc HZ hzl hn hpn hfit hm hk hkn hx hok (by omega) (by omega) hz
                · have hg := seg_get (zs.take n) (p + pre.size) k 0 (by omega)
                  rw [Nat.add_zero] at hg
                  have hgt : 18446744073709551615 < dval (seg (zs.take n) (p + pre.size) k) := by
                    simp only [okB, decide_eq_false_iff_not, hlen, hg] at hok
                    have : ¬ dval (seg (zs.take n) (p + pre.size) k) ≤ 18446744073709551615 := fun h => hok ⟨by omega, by omega, hz, h⟩
                    omega
                  have h19 : p + pre.size + 20 ≤ k := by
                    rcases Nat.lt_or_ge k (p + pre.size + 20) with h | h
                    · have h1 := Parse.take_19 (seg_digs _ _ _ hk) 19 (Nat.le_refl _)
                      rw [List.take_of_length_le (by rw [hlen]; omega)] at h1
                      omega
                    · exact h
                  exact law_over a n cap p k zs _ pre w hsrc HZ hzl hn hpn hfit hm hk hkn hx hok h19 (by omega) hz hgt
        · refine law_stop a n cap p k zs _ pre w hsrc HZ hzl hn hpn hfit hm hk ?_ ?_
          · unfold pk
            rw [hzl]
            by_cases hkn : k < n
            · rw [if_pos hkn]; simp only [beq_eq_false_iff_ne]; exact fun h => hc ⟨hkn, .inl h⟩
            · rw [if_neg hkn]; rfl
          · unfold pk
            rw [hzl]
            by_cases hkn : k < n
            · rw [if_pos hkn]; simp only [beq_eq_false_iff_ne]; exact fun h => hc ⟨hkn, .inr h⟩
            · rw [if_neg hkn]; rfl
      · obtain rfl : p = n := by omega
        obtain rfl := pre_empty (show pre.size = 0 by omega)
        exact law_end a p cap zs _ w hsrc rfl hzl (by omega)
  · exact law_past a n cap p zs pre w hsrc hn hp (by omega)
end Go.Proofs.Qxb6003788a.Scan
