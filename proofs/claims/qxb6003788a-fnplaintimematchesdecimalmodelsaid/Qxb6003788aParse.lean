import Derived.Test.Qxb6003788aRows
import Derived.Test.Qxb6003788aAid
import Derived.Test.Qxb6003788aDec
import Derived.WalkSpells
import Derived.Deep.QuietTactic
import Derived.BigQuiet
import Derived.Deep.Light
namespace Go.Proofs.Qxb6003788a.Parse
open Go.RowKit Go.Proofs.Qxb6003788a.Aid Go.Proofs.Qxb6003788a.Dec
set_option linter.unusedVariables false
set_option linter.unusedSimpArgs false

theorem ret_pair {a b : Int} {x y : Bool} (h : a = b) (h' : x = y) : Ending.returned (.tuple #[.int .u64 a, .bool x]) = .returned (.tuple #[.int .u64 b, .bool y]) := by rw [h, h']

/-- What parseTime hands back for a text of digits. -/
def tm (D : List Int) : Int := if okB D = true then dval D else 0

theorem tm_no {D : List Int} (h : okB D = false) : tm D = 0 := by unfold tm; rw [h]; rfl
theorem tm_yes {D : List Int} (h : okB D = true) : tm D = dval D := by unfold tm; rw [if_pos h]

theorem take_snoc (D : List Int) (k : Nat) (h : k < D.length) : D.take (k + 1) = D.take k ++ [D.getD k 0] := by
  rw [List.take_succ_eq_append_getElem h]; simp [List.getD, h]

theorem dval_take (D : List Int) (k : Nat) (h : k < D.length) : dval (D.take (k + 1)) = dval (D.take k) * 10 + (D.getD k 0 - 48) := by
  rw [take_snoc D k h, dval_snoc]

theorem digs_take {D : List Int} (h : digs D) (k : Nat) : digs (D.take k) := fun c hc => h c (List.mem_of_mem_take hc)

theorem pow10_mono (n : Nat) : ∀ j, (10 : Int) ^ n ≤ 10 ^ (n + j)
  | 0 => by simp
  | j + 1 => by
    have := pow10_mono n j
    have hp := pow_pos10 (n + j)
    rw [← Nat.add_assoc, Int.pow_succ]
    omega
theorem pow10_le (n k : Nat) (h : n ≤ k) : (10 : Int) ^ n ≤ 10 ^ k := by
  have := pow10_mono n (k - n)
  rwa [show n + (k - n) = k by omega] at this

theorem take_lt19 {D : List Int} (h : digs D) (k : Nat) (hk : k ≤ 18) : 0 ≤ dval (D.take k) ∧ dval (D.take k) < 1000000000000000000 := by
  have h1 := dval_bd _ (digs_take h k)
  have h2 : (10 : Int) ^ (D.take k).length ≤ 10 ^ 18 := pow10_le _ _ (by simp; omega)
  have h3 : (10 : Int) ^ 18 = 1000000000000000000 := by decide
  omega
theorem take_19 {D : List Int} (h : digs D) (k : Nat) (hk : k ≤ 19) : 0 ≤ dval (D.take k) ∧ dval (D.take k) < 10000000000000000000 := by
  have h1 := dval_bd _ (digs_take h k)
  have h2 : (10 : Int) ^ (D.take k).length ≤ 10 ^ 19 := pow10_le _ _ (by simp; omega)
  have h3 : (10 : Int) ^ 19 = 10000000000000000000 := by decide
  omega

set_option maxHeartbeats 400000 in
theorem parse_short (a : Option Addr) (m c : Nat) (w : World) (hm : m = 0 ∨ 20 < m) (hmax : m ≤ 1048576) :
    Calls Try.prog 31 #[.slice a m c] w fun e w' => e = .returned (.tuple #[.int .u64 0, .bool false]) ∧ w' = w := by
  rcases hm with rfl | hm
  · go_enter Try.func31, Try.ntmps31
    go_wp2
    go_ret2
    exact ⟨rfl, rfl⟩
  · have h0 : ((m : Int) == 0) = false := by simp; omega
    have h20 : (20 : Int) < (m : Int) := by omega
    go_enter Try.func31, Try.ntmps31
    go_wp2
    go_ret2
    exact ⟨rfl, rfl⟩

set_option maxHeartbeats 800000 in
theorem parse_long (g d m c : Nat) (D : List Int) (w : World) (h1 : 1 ≤ m) (h2 : m ≤ 20) (hD : D.length = m) (hdg : digs D)
    (hc : ∀ i, i < m → w.cell? ⟨g, d + i, none⟩ = some (.int .u8 (D.getD i 0))) :
    Calls Try.prog 31 #[.slice (some ⟨g, d, none⟩) m c] w fun e w' => e = .returned (.tuple #[.int .u64 (tm D), .bool (okB D)]) ∧ w' = w := by
  have h0 : ((m : Int) == 0) = false := by simp; omega
  have h20 : ¬ (20 : Int) < (m : Int) := by omega
  have hi0 : (0 : Int) < (m : Int) := by omega
  have hc0 := hc 0 (by omega)
  rw [Nat.add_zero] at hc0
  have HC : Hid (∀ i, i < m → w.cell? ⟨g, d + i, none⟩ = some (.int .u8 (D.getD i 0))) := hc
  clear hc
  obtain ⟨c0, hcd⟩ : ∃ c, D.getD 0 0 = c := ⟨_, rfl⟩
  rw [hcd] at hc0
  have HD0 : Hid (D.getD 0 0 = c0) := hcd
  clear hcd
  by_cases hz : c0 = 48
  · subst hz
    have HN : Hid (okB D = false) := by
      show okB D = false
      simp only [okB, decide_eq_false_iff_not, HD0.out]; omega
    go_enter Try.func31, Try.ntmps31
    go_wp2
    go_ret2
    exact ⟨ret_pair (tm_no HN.out).symm HN.out.symm, rfl⟩
  · have hz' : (c0 == 48) = false := by simpa using hz
    clear hz
    go_enter Try.func31, Try.ntmps31
    go_wp2
    go_loop [4, 5] (fun t i => ∃ k : Nat, k ≤ m ∧ i = .int .i64 k ∧ t = .int .u64 (dval (D.take k)) ∧ Hid (k = 20 → dval D ≤ 18446744073709551615)) (fun _ i => m - (intOf i).toNat)
    case atStart => exact ⟨0, Nat.zero_le _, rfl, rfl, fun h => by omega⟩
    case round =>
      obtain ⟨k, hk, rfl, rfl, hok⟩ := hrel
      by_cases hlt : k < m
      · have hck := HC.out k hlt
        have hb := hdg (D.getD k 0) (by simp [List.getD, show k < D.length by omega])
        have HS : Hid (dval (D.take (k + 1)) = dval (D.take k) * 10 + (D.getD k 0 - 48)) := dval_take D k (by omega)
        obtain ⟨x, hx⟩ : ∃ c, D.getD k 0 = c := ⟨_, rfl⟩
        rw [hx] at hck hb HS
        have HX : Hid (D.getD k 0 = x) := hx
        have hb0 := hb.1
        have hb1 := hb.2
        clear hx hb
        by_cases h19 : k < 19
        · have ht := take_lt19 hdg k (by omega)
          obtain ⟨t, ht'⟩ : ∃ t, dval (D.take k) = t := ⟨_, rfl⟩
          rw [ht'] at ht HS ⊢
          have ht0 := ht.1
          have ht1 := ht.2
          clear ht ht'
          have hk19 : ((k : Int) == 19) = false := by simp; omega
          go_wp2
          refine ⟨⟨k + 1, by omega, by go_num, ?_, fun h => by omega⟩, by simp [intOf]; omega⟩
          rw [HS.out]
        · have ht := take_19 hdg k (by omega)
          have HV : Hid (dval D = dval (D.take k) * 10 + (x - 48)) := by
            have h := HS.out
            rw [List.take_of_length_le (by omega)] at h
            exact h
          obtain ⟨t, ht'⟩ : ∃ t, dval (D.take k) = t := ⟨_, rfl⟩
          rw [ht'] at ht HS HV ⊢
          have ht0 := ht.1
          have ht1 := ht.2
          clear ht ht'
          have hk19 : ((k : Int) == 19) = true := by simp; omega
          by_cases hov : (18446744073709551615 - (x - 48)) / 10 < t
          · have HN : Hid (okB D = false) := by
              show okB D = false
              simp only [okB, decide_eq_false_iff_not, HV.out]; omega
            go_wp2
            go_ret2
            exact ⟨ret_pair (tm_no HN.out).symm HN.out.symm, rfl⟩
          · have hov' : t ≤ (18446744073709551615 - (x - 48)) / 10 := by omega
            have hfit : t * 10 + (x - 48) ≤ 18446744073709551615 := by omega
            clear hov
            go_wp2
            refine ⟨⟨k + 1, by omega, by go_num, ?_, fun h => by rw [HV.out]; exact hfit⟩, by simp [intOf]; omega⟩
            rw [HS.out]
      · obtain rfl : k = m := by omega
        have HE : Hid (dval (D.take k) = dval D) := by rw [List.take_of_length_le (by omega)]; trivial
        have HY : Hid (okB D = true) := by
          show okB D = true
          have hle : dval D ≤ 18446744073709551615 := by
            by_cases e : k = 20
            · exact hok.out e
            · have := take_19 hdg k (by omega)
              rw [HE.out] at this
              omega
          have hne : c0 ≠ 48 := by simpa using hz'
          simp only [okB, decide_eq_true_eq, HD0.out]
          exact ⟨by omega, by omega, hne, hle⟩
        go_wp2
        go_ret2
        exact ⟨ret_pair (by rw [tm_yes HY.out]; exact HE.out) HY.out.symm, rfl⟩
end Go.Proofs.Qxb6003788a.Parse
