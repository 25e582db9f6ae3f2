import Derived.Test.Qxb6605363aInv
namespace Go.Proofs.Qxb6605363a.Swap
open Go.RowKit Go.Proofs.Qxb6605363a.Aid Go.Proofs.Qxb6605363a.Tr
set_option linter.unusedVariables false
set_option linter.unusedSimpArgs false

theorem bytes2_ok (s : Int) (a a' : Option Addr) (n cap m cap' : Nat) (w : World) (hn : n ≤ 1048576) (hm : m ≤ 131072) (h : n + 8 * m ≤ 1048576) :
    Calls Try.prog 8 #[.int .i64 s, .slice a n cap, .slice a' m cap'] w fun e w' => e = .returned (.bool true) ∧ w = w' := by
  go_enter Try.func8, Try.ntmps8
  go_wp2
  go_ret
  exact ⟨rfl, rfl⟩

theorem Src.plain {k : IntKind} {w : World} {a : Option Addr} {len cap : Nat} {zs : List Int} (h : Src k w a len cap zs) (hl : 0 < len) : ∃ b off, a = some ⟨b, off, none⟩ ∧ ∀ i, i < len → w.cell? ⟨b, off + i, none⟩ = some (.int k ((zs.take len).getD i 0)) := by
  rcases h with ⟨_, h, _⟩ | ⟨x, rfl, h1, h2, h3⟩
  · omega
  · obtain ⟨b, off, rfl⟩ := plain_addr (h3 0 (by omega))
    refine ⟨b, off, rfl, fun i hi => ?_⟩
    have := h3 i (by omega)
    rw [Addr.add_lit] at this
    rw [this]
    simp [List.getD, hi]

/-- The pairs of S are record numbers. -/
def Pairs (S : List Int) (N m t : Nat) : Prop := ∀ u, u % 2 = 0 → u < t → u + 1 < m → (0 ≤ S.getD u 0 ∧ S.getD u 0 < (N : Int)) ∧ (0 ≤ S.getD (u + 1) 0 ∧ S.getD (u + 1) 0 < (N : Int))

set_option maxHeartbeats 1000000 in
set_option maxRecDepth 100000 in
theorem script_pos (s n cap1 m cap2 N L : Nat) (a1 a2 : Option Addr) (z1 z2 Z S : List Int) (w : World) (hs1 : Src .u8 w a1 n cap1 z1) (hs2 : Src .i64 w a2 m cap2 z2) (HZ : Hid (z1.take n = Z)) (HS : Hid (z2.take m = S))
    (hs : 0 < s) (hsm : s ≤ 9223372036854775807) (hn : n ≤ 1048576) (hm : m ≤ 131072) (hnm : n + 8 * m ≤ 1048576) (hN : n / s = N) (hL : N * s = L) :
    Calls Try.prog 4 #[.int .i64 s, .slice a1 n cap1, .slice a2 m cap2] w fun e w' => e = .returned (.bool true) ∧ Below w.heap.size w w' := by
  have hsI : (0 : Int) < (s : Int) := by omega
  have hq := wrap_div n s hn
  rw [hN] at hq
  have HN : Hid (n / s = N) := hN
  have HL : Hid (N * s = L) := hL
  have hNn : N ≤ n := by rw [← hN]; exact Nat.div_le_self n s
  clear hN hL
  go_enter Try.func4, Try.ntmps4
  go_wp2_with (first | (go_at_call 8; refine (bytes2_ok _ _ _ _ _ _ _ _ hn hm hnm).mono ?_; rintro e w' ⟨rfl, rfl⟩))
  go_loop [8] (fun v => ∃ t : Nat, t % 2 = 0 ∧ t ≤ m + 1 ∧ v = .int .i64 t ∧ Pairs S N m t) (fun v => m + 2 - (intOf v).toNat)
  case atStart => exact ⟨0, rfl, Nat.zero_le _, rfl, fun u _ h => by omega⟩
  case round =>
    obtain ⟨t, ht2, htm, rfl, hpr⟩ := hrel
    by_cases hlt : t + 1 < m
    · obtain ⟨b, off, rfl, hc⟩ := hs2.plain (by omega)
      rw [HS.out] at hc
      have hc1 := hc t (by omega)
      have hc2 := hc (t + 1) hlt
      obtain ⟨x, hx⟩ : ∃ x, S.getD t 0 = x := ⟨_, rfl⟩
      obtain ⟨y, hy⟩ : ∃ y, S.getD (t + 1) 0 = y := ⟨_, rfl⟩
      rw [hx] at hc1
      rw [hy] at hc2
      have HX : Hid (S.getD t 0 = x) := hx
      have HY : Hid (S.getD (t + 1) 0 = y) := hy
      clear hx hy hc
      have hlt' : (t : Int) + 1 < (m : Int) := by omega
      have hlt2 : (t : Int) < (m : Int) := by omega
      by_cases g1 : x < 0
      · go_wp2
        go_ret
        exact ⟨rfl, Below.refl _ _⟩
      by_cases g2 : (N : Int) ≤ x
      · go_wp2
        go_ret
        exact ⟨rfl, Below.refl _ _⟩
      by_cases g3 : y < 0
      · go_wp2
        go_ret
        exact ⟨rfl, Below.refl _ _⟩
      by_cases g4 : (N : Int) ≤ y
      · go_wp2
        go_ret
        exact ⟨rfl, Below.refl _ _⟩
      go_wp2
      go_round
      case rel =>
        refine ⟨t + 2, by omega, by omega, by go_num, fun u hu2 hut hum => ?_⟩
        by_cases e : u = t
        · subst e
          rw [HX.out, HY.out]; omega
        · exact hpr u hu2 (by omega) hum
      case measure => simp [intOf]; omega
    · have hlt' : ¬ (t : Int) + 1 < (m : Int) := by omega
      have hpa : Hid (∀ u, u % 2 = 0 → u + 1 < m → (0 ≤ S.getD u 0 ∧ S.getD u 0 < (N : Int)) ∧ (0 ≤ S.getD (u + 1) 0 ∧ S.getD (u + 1) 0 < (N : Int))) := fun u h2 hu => hpr u h2 (by omega) hu
      clear hpr
      have hZl : Z.length = n := by rw [← HZ.out]; exact hs1.len
      have hSl : S.length = m := by rw [← HS.out]; exact hs2.len
      obtain ⟨i0, hi, hz0, hz1, hz2⟩ := info_parts CloneI.info3
      go_wp2_with fail
      · go_ret
        exact ⟨rfl, Below.refl _ _⟩
      refine (cloneB a1 n cap1 z1 Z _ hs1 hn HZ.out).mono ?_
      rintro e w1 ⟨a1', rfl, hc1, hb1⟩
      go_wp2_with fail
      refine (cloneI a2 m cap2 z2 S _ (hs2.later hb1) hm HS.out).mono ?_
      rintro e w2 ⟨a2', rfl, hc2, hb2⟩
      go_wp2_with fail
      refine (cloneB a1' n n Z Z _ (hc1.src.later hb2) hn (List.take_of_length_le (by omega))).mono ?_
      rintro e w3 ⟨a3', rfl, hc3, hb3⟩
      go_wp2_with (at_make; refine wpList_make_row _ rfl _ _ 26 rfl 3 i0 .i64 Try.underlying26 hi hz0 hz1 (by omega) _ _ _ _ N N rfl rfl rfl rfl (Nat.le_refl _) (by omega) ?_; intro w4 hrow4 hsz4 hb4)
      obtain ⟨g1, g2, g3, hinv⟩ := Inv.start hc1 hb1 hc2 hb2 hc3 hb3 hrow4 hb4
      clear hc1 hb1 hc2 hb2 hc3 hb3 hrow4 hb4 hsz4 hs1 hs2
      obtain ⟨g4, hg4⟩ : ∃ g4, w3.heap.size = g4 := ⟨_, rfl⟩
      rw [hg4] at hinv ⊢
      clear hg4
      go_loopw [11] (fun v wr => ∃ (k : Nat) (P : List Int), k ≤ N ∧ v = .int .i64 k ∧ Inv w.heap.size w wr a1' a2' a3' g1 g2 g3 g4 n m Z S Z P ∧ P.length = N ∧ Hid (∀ r, r < k → P.getD r 0 = (r : Int))) (fun v _ => N - (intOf v).toNat)
      case atStart => exact ⟨0, _, Nat.zero_le _, rfl, hinv, by simp, fun r h => by omega⟩
      case round =>
        obtain ⟨k, P, hk, rfl, hin, hP, hall⟩ := hrel
        by_cases hkN : k < N
        · have hcp := hin.r4.cell k (by omega)
          have hfp := hin.r4.frozen k
          have hkN' : (k : Int) < (N : Int) := by omega
          go_wp2
          go_roundw
          case rel =>
            refine ⟨k + 1, P.set k (k : Int), by omega, by go_num, hin.perm k (k : Int), by simpa using hP, fun r hr => ?_⟩
            rw [getD_set _ _ _ _ (by omega)]
            by_cases e : r = k
            · rw [if_pos e, e]
            · rw [if_neg e]; exact hall.out r (by omega)
          case measure => simp [intOf]; omega
        · have hkN' : ¬ (k : Int) < (N : Int) := by omega
          have hrl : Rel Z Z P s N n := Rel.init Z P s N n hZl hP (fun r hr => hall.out r (by omega))
          go_wp2_with fail
          go_loopw [12] (fun v wr => ∃ (t : Nat) (Y P : List Int), t % 2 = 0 ∧ t ≤ m + 1 ∧ v = .int .i64 t ∧ Inv w.heap.size w wr a1' a2' a3' g1 g2 g3 g4 n m Y S Z P ∧ Rel Z Y P s N n) (fun v _ => m + 2 - (intOf v).toNat)
          case atStart => exact ⟨0, Z, P, rfl, Nat.zero_le _, rfl, hin, hrl⟩
          case round =>
            obtain ⟨t, Y, P, ht2, htm, rfl, hin, hrl⟩ := hrel
            by_cases hlt : t + 1 < m
            · obtain ⟨⟨x0, x1⟩, y0, y1⟩ := hpa.out t ht2 hlt
              obtain ⟨ia, hia⟩ := Int.eq_ofNat_of_zero_le x0
              obtain ⟨ib, hib⟩ := Int.eq_ofNat_of_zero_le y0
              rw [hia] at x1
              rw [hib] at y1
              have ha : ia < N := by omega
              have hb : ib < N := by omega
              have hn0 : 0 < n := by omega
              obtain rfl := hin.c1.adr hn0
              obtain rfl := hin.c2.adr (by omega)
              have hcs1 := (hin.c2.row (by omega)).cell t (by omega)
              have hcs2 := (hin.c2.row (by omega)).cell (t + 1) (by omega)
              rw [hia] at hcs1
              rw [hib] at hcs2
              clear x0 y0 x1 y1 hia hib
              have hlt' : (t : Int) + 1 < (m : Int) := by omega
              have hlt2 : (t : Int) < (m : Int) := by omega
              have HNs := HN.out
              have hfa : ia * s + s ≤ n := fits ia s n hs (by omega)
              have hfb : ib * s + s ≤ n := fits ib s n hs (by omega)
              have HFA : Hid (ia * s + s ≤ n) := hfa
              have HFB : Hid (ib * s + s ≤ n) := hfb
              have hYl : Y.length = n := hrl.1
              have hPl : P.length = N := hrl.2.1
              clear HNs hfa hfb
              go_wp2_with fail
              refine (zz_row g1 n ia ib s (ia * s) (ib * s) Y _ hs rfl rfl HFA.out HFB.out hn (apart' ia ib s) hYl (hin.c1.row hn0)).mono ?_
              rintro e w5 ⟨rfl, Y', hsw, hrow5, hoth⟩
              have hin5 := hin.swap hoth hrow5 (by rw [hsw.1]; exact hYl) hn0
              have hrl5 := hrl.step ha hb hsw
              clear hsw hrow5 hoth hin hrl
              have hpa5 := hin5.r4.cell ia (by omega)
              have hpb5 := hin5.r4.cell ib (by omega)
              have hfa5 := hin5.r4.frozen ia
              have hfb5 := hin5.r4.frozen ib
              have haN : (ia : Int) < (N : Int) := by omega
              have hbN : (ib : Int) < (N : Int) := by omega
              by_cases hab : ia = ib
              · subst hab
                obtain ⟨pa, hpa'⟩ : ∃ c, P.getD ia 0 = c := ⟨_, rfl⟩
                rw [hpa'] at hpa5 hpb5 hrl5
                clear hpa'
                go_wp2
                go_roundw
                case rel => exact ⟨t + 2, Y', _, by omega, by omega, by go_num, (hin5.perm ia pa).perm ia pa, hrl5⟩
                case measure => simp [intOf]; omega
              · have hba : ¬ ib = ia := fun e => hab e.symm
                obtain ⟨pa, hpa'⟩ : ∃ c, P.getD ia 0 = c := ⟨_, rfl⟩
                obtain ⟨pb, hpb'⟩ : ∃ c, P.getD ib 0 = c := ⟨_, rfl⟩
                rw [hpa'] at hpa5
                rw [hpb'] at hpb5
                rw [hpa', hpb'] at hrl5
                clear hpa' hpb'
                go_wp2
                go_roundw
                case rel => exact ⟨t + 2, Y', _, by omega, by omega, by go_num, (hin5.perm ia pb).perm ib pa, hrl5⟩
                case measure => simp [intOf]; omega
            · have hlt' : ¬ (t : Int) + 1 < (m : Int) := by omega
              have hbel := hin.bel
              have hLn : L ≤ n := by rw [← HL.out, ← HN.out]; exact Nat.div_mul_le_self n s
              have eN : (N : Int) * (s : Int) = (L : Int) := by rw [← Int.natCast_mul, HL.out]
              go_wp2_with fail
              go_loop [17] (fun v => ∃ p : Nat, p ≤ n ∧ v = .int .i64 p) (fun v => n - (intOf v).toNat)
              case atStart => exact ⟨0, Nat.zero_le _, rfl⟩
              case round =>
                obtain ⟨p, hp, rfl⟩ := hrel
                by_cases hpn : p < n
                · obtain rfl := hin.c1.adr (by omega)
                  obtain rfl := hin.c3.adr (by omega)
                  have hcd := (hin.c1.row (by omega)).cell p (by rw [hrl.1]; omega)
                  have hco := (hin.c3.row (by omega)).cell p (by omega)
                  have hpn' : (p : Int) < (n : Int) := by omega
                  obtain ⟨y, hy⟩ : ∃ y, Y.getD p 0 = y := ⟨_, rfl⟩
                  by_cases hpL : p < L
                  · have hdp := wrap_div p s (by omega)
                    obtain ⟨R, hR⟩ : ∃ R, p / s = R := ⟨_, rfl⟩
                    have hRs : R * s ≤ p ∧ p < R * s + s := by
                      rw [← hR]
                      have h1 := Nat.div_add_mod p s
                      have h2 := Nat.mod_lt p hs
                      rw [Nat.mul_comm] at h1
                      omega
                    have hRN : R < N := by
                      rw [← hR]
                      refine (Nat.div_lt_iff_lt_mul hs).2 ?_
                      rw [HL.out]; exact hpL
                    rw [hR] at hdp
                    clear hR
                    obtain ⟨c, hcN, hPc, hYc⟩ := hrl.2.2.1 R hRN
                    have hYp := hYc (p - R * s) (by omega)
                    rw [show R * s + (p - R * s) = p by omega, hy] at hYp
                    have hcb : c * s + s ≤ n := fits c s n hs (by rw [HN.out]; exact hcN)
                    have eR : (R : Int) * (s : Int) = ((R * s : Nat) : Int) := (Int.natCast_mul R s).symm
                    have eC : (c : Int) * (s : Int) = ((c * s : Nat) : Int) := (Int.natCast_mul c s).symm
                    have hRM : R ≤ R * s := Nat.le_mul_of_pos_right R hs
                    have hcC : c ≤ c * s := Nat.le_mul_of_pos_right c hs
                    obtain ⟨M, hM⟩ : ∃ M, R * s = M := ⟨_, rfl⟩
                    obtain ⟨C, hC⟩ : ∃ C, c * s = C := ⟨_, rfl⟩
                    rw [hM] at hRs eR hYp hRM
                    rw [hC] at hcb eC hYp hcC
                    have hM0 := hRs.1
                    have hM1 := hRs.2
                    have hcp := hin.r4.cell R (by rw [hrl.2.1]; exact hRN)
                    rw [hPc] at hcp
                    have hco2 := (hin.c3.row (by omega)).cell (C + (p - M)) (by omega)
                    rw [← hYp] at hco2
                    rw [hy] at hcd
                    obtain ⟨z, hz⟩ : ∃ z, Z.getD p 0 = z := ⟨_, rfl⟩
                    rw [hz] at hco
                    have hRN' : (R : Int) < (N : Int) := by omega
                    have hpL' : (p : Int) < (L : Int) := by omega
                    have HIN : Hid (Inv w.heap.size w _ _ _ _ g1 g2 g3 g4 n m Y S Z P) := hin
                    clear hM hC hRs hYp hPc hYc hy hz hrl hin
                    go_wp2
                    go_round
                    case rel => exact ⟨p + 1, by omega, by go_num⟩
                    case measure => simp [intOf]; omega
                  · have hYp := hrl.2.2.2 p (by rw [HL.out]; omega)
                    rw [hy] at hYp
                    rw [← hYp] at hco
                    rw [hy] at hcd
                    have hpL' : ¬ (p : Int) < (L : Int) := by omega
                    clear hYp hy hrl hin
                    go_wp2
                    go_round
                    case rel => exact ⟨p + 1, by omega, by go_num⟩
                    case measure => simp [intOf]; omega
                · have hpn' : ¬ (p : Int) < (n : Int) := by omega
                  clear hrl hin
                  go_wp2
                  go_ret
                  exact ⟨rfl, hbel⟩
end Go.Proofs.Qxb6605363a.Swap
