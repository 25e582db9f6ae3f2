import Derived.Test.Qxb6003788aRows
import Derived.Test.Qxb6003788aClone
import Derived.Test.Qxb6003788aHexWalks
import Derived.WalkSpells
import Derived.Deep.Light
namespace Go.Proofs.Qxb6003788a.Hex
open Go.RowKit Go.Proofs.Qxb6003788a.Aid
set_option linter.unusedVariables false
set_option linter.unusedSimpArgs false

/-- What the law knows of the slice that came in. -/
def Src (w : World) (a : Option Addr) (len cap : Nat) (zs : List Int) : Prop :=
  (a = none ∧ len = 0 ∧ cap = 0 ∧ zs = []) ∨ ∃ x, a = some x ∧ len ≤ cap ∧ zs.length = cap ∧ (∀ i, i < zs.length → w.cell? (x.add i) = some (.int .u8 (zs.getD i 0)))

def dg (v : Int) : Nat → Int
  | 0 => v / 4096 % 16
  | 1 => v / 256 % 16
  | 2 => v / 16 % 16
  | _ => v % 16

theorem dg_bd (v : Int) (j : Nat) : 0 ≤ dg v j ∧ dg v j ≤ 15 := by
  rcases j with _ | _ | _ | j <;> (simp only [dg]; omega)
theorem dg_sum (v : Int) (h0 : 0 ≤ v) (h1 : v ≤ 65535) : ((dg v 0 * 16 + dg v 1) * 16 + dg v 2) * 16 + dg v 3 = v := by simp only [dg]; omega
theorem and15 (x : Int) (h0 : 0 ≤ x) (h1 : x ≤ 65535) : bits .and .u16 x 15 = x % 16 :=
  bits_mask .u16 16 (by decide) (fun n h h' => by rw [IntKind.wrap_u16]; omega) 4 (by decide) x h0 (by omega)
theorem is_dig (d x : Int) (h0 : 0 ≤ d) (h1 : d ≤ 15) (e : x = d) (h : x % 256 < 10) : isHex (48 + x % 256) d := by unfold isHex; omega
theorem is_up (d x : Int) (h0 : 0 ≤ d) (h1 : d ≤ 15) (e : x = d) (h : 10 ≤ x % 256) : isHex ((65 + x - 10) % 256) d := by unfold isHex; omega
theorem is_lo (d x : Int) (h0 : 0 ≤ d) (h1 : d ≤ 15) (e : x = d) (h : 10 ≤ x % 256) : isHex ((97 + x - 10) % 256) d := by unfold isHex; omega

theorem take4 (Z : List Int) (j : Nat) (hj : j < 4) : (Z.take 4).getD j 0 = Z.getD j 0 := by simp [List.getD, List.getElem?_take, hj]

theorem step {wr wc : World} {g len k : Nat} {v c : Int} {Z : List Int} {i : Value} (hk : k < 4) (hrow : BRow wr g .u8 5 Z) (hZ : Z.length = 4 + len) (hh : Hid (∀ j, j < k → isHex (Z.getD j 0) (dg v j)))
    (hbel : Below g wc wr) (hc : isHex c (dg v k)) (hi : i = .int .i64 ((k + 1 : Nat) : Int)) :
    ∃ (k' : Nat) (Z' : List Int), k' ≤ 4 ∧ i = .int .i64 k' ∧ BRow (wr.setCell ⟨g, k, none⟩ (.int .u8 c)) g .u8 5 Z' ∧ Z'.length = 4 + len ∧ Hid (∀ j, j < k' → isHex (Z'.getD j 0) (dg v j)) ∧ Below g wc (wr.setCell ⟨g, k, none⟩ (.int .u8 c)) := by
  refine ⟨k + 1, Z.set k c, by omega, hi, hrow.set k c, by simpa using hZ, ?_, hbel.setCell (Nat.le_refl _) _⟩
  intro j hj
  by_cases e : j = k
  · subst e
    have : j < Z.length := by omega
    simpa [List.getD, this] using hc
  · have : (Z.set k c).getD j 0 = Z.getD j 0 := by simp [List.getD, List.getElem?_set, Ne.symm e]
    rw [this]
    exact hh.out j (by omega)

set_option maxHeartbeats 800000 in
theorem law (v m : Int) (a : Option Addr) (len cap : Nat) (zs : List Int) (w : World) (hv0 : 0 ≤ v) (hv1 : v ≤ 65535) (hm0 : 0 ≤ m) (hm1 : m ≤ 255) (hsrc : Src w a len cap zs) (hlen : len ≤ 65536) :
    Calls Try.prog 6 #[.int .u16 v, .int .u8 m, .slice a len cap] w fun e w' => e = .returned (.bool true) ∧ Below w.heap.size w w' := by
  obtain ⟨i0, hi, hz0, hz1, hz2⟩ := info_parts Clone.info5
  have hzl : len ≤ zs.length := by
    rcases hsrc with ⟨_, rfl, _, rfl⟩ | ⟨_, _, h1, h2, _⟩
    · simp
    · omega
  go_enter Try.func6, Try.ntmps6
  go_wp2_with (first | (go_at_call 13; refine (Clone.clone_any _ _ _ zs _ hsrc (by omega)).mono ?_; rintro e wc ⟨a', rfl, hnil, hrow, hbc⟩) | (at_make; refine wpList_make_row _ rfl _ _ 27 rfl 5 i0 .u8 Try.underlying27 hi hz0 hz1 (by omega) _ _ _ _ 4 (4 + len) rfl rfl rfl (by omega) (by omega) (by omega) ?_; intro w1 hrow1 hsz1 hb1) | (go_at_call 16; go_in))
  have HR : Hid (∀ (ad : Addr), a' = some ad → ad = { block := w.heap.size, off := 0 } ∧ BRow wc w.heap.size IntKind.u8 5 (List.take len zs)) := hrow
  have HN : Hid (a' = none → len = 0) := hnil
  clear hrow hnil hsrc
  go_loopw [8] (fun i wr => ∃ (k : Nat) (Z : List Int), k ≤ 4 ∧ i = .int .i64 k ∧ BRow wr wc.heap.size .u8 5 Z ∧ Z.length = 4 + len ∧ Hid (∀ j, j < k → isHex (Z.getD j 0) (dg v j)) ∧ Below wc.heap.size wc wr) (fun i _ => 4 - (intOf i).toNat)
  case atStart => exact ⟨0, _, Nat.zero_le _, rfl, hrow1, by simp, fun j hj => by omega, hb1⟩
  case round =>
    obtain ⟨k, Z, hk, rfl, hrow, hZ, hh, hbel⟩ := hrel
    have hfz := hrow.frozen k
    by_cases hk4 : k < 4
    · have hcl := hrow.cell k (by omega)
      rcases (show k = 0 ∨ k = 1 ∨ k = 2 ∨ k = 3 by omega) with rfl | rfl | rfl | rfl
      · have b0 := (dg_bd v 0).1
        have b1 := (dg_bd v 0).2
        have he : bits .and .u16 (v / 4096) 15 = dg v 0 := and15 _ (by omega) (by omega)
        have HE : Hid (bits .and .u16 (v / 4096) 15 = dg v 0) := he
        clear he
        go_wp2
        · exact ⟨step (by omega) hrow hZ hh hbel (is_dig _ _ b0 b1 HE.out (by assumption)) rfl, by simp [intOf]⟩
        · exact ⟨step (by omega) hrow hZ hh hbel (is_up _ _ b0 b1 HE.out (by assumption)) rfl, by simp [intOf]⟩
        · exact ⟨step (by omega) hrow hZ hh hbel (is_lo _ _ b0 b1 HE.out (by assumption)) rfl, by simp [intOf]⟩
      · have b0 := (dg_bd v 1).1
        have b1 := (dg_bd v 1).2
        have he : bits .and .u16 (v / 256) 15 = dg v 1 := and15 _ (by omega) (by omega)
        have HE : Hid (bits .and .u16 (v / 256) 15 = dg v 1) := he
        clear he
        go_wp2
        · exact ⟨step (by omega) hrow hZ hh hbel (is_dig _ _ b0 b1 HE.out (by assumption)) rfl, by simp [intOf]⟩
        · exact ⟨step (by omega) hrow hZ hh hbel (is_up _ _ b0 b1 HE.out (by assumption)) rfl, by simp [intOf]⟩
        · exact ⟨step (by omega) hrow hZ hh hbel (is_lo _ _ b0 b1 HE.out (by assumption)) rfl, by simp [intOf]⟩
      · have b0 := (dg_bd v 2).1
        have b1 := (dg_bd v 2).2
        have he : bits .and .u16 (v / 16) 15 = dg v 2 := and15 _ (by omega) (by omega)
        have HE : Hid (bits .and .u16 (v / 16) 15 = dg v 2) := he
        clear he
        go_wp2
        · exact ⟨step (by omega) hrow hZ hh hbel (is_dig _ _ b0 b1 HE.out (by assumption)) rfl, by simp [intOf]⟩
        · exact ⟨step (by omega) hrow hZ hh hbel (is_up _ _ b0 b1 HE.out (by assumption)) rfl, by simp [intOf]⟩
        · exact ⟨step (by omega) hrow hZ hh hbel (is_lo _ _ b0 b1 HE.out (by assumption)) rfl, by simp [intOf]⟩
      · have b0 := (dg_bd v 3).1
        have b1 := (dg_bd v 3).2
        have he : bits .and .u16 (v) 15 = dg v 3 := and15 _ (by omega) (by omega)
        have HE : Hid (bits .and .u16 (v) 15 = dg v 3) := he
        clear he
        go_wp2
        · exact ⟨step (by omega) hrow hZ hh hbel (is_dig _ _ b0 b1 HE.out (by assumption)) rfl, by simp [intOf]⟩
        · exact ⟨step (by omega) hrow hZ hh hbel (is_up _ _ b0 b1 HE.out (by assumption)) rfl, by simp [intOf]⟩
        · exact ⟨step (by omega) hrow hZ hh hbel (is_lo _ _ b0 b1 HE.out (by assumption)) rfl, by simp [intOf]⟩
    · obtain rfl : k = 4 := by omega
      have hgw := hbc.size
      have HA : Hid (∀ ad, a' = some ad → ∀ j u, ((zs.take len).map (Value.int .u8))[j]? = some u → wr.cell? (ad.add j) = some u) := by
        intro ad had
        obtain ⟨rfl, hr⟩ := HR.out ad had
        exact (hr.below hbel hr.lt).src
      have HN' : Hid (a' = none → len = 0 ∧ len = 0) := fun h => ⟨HN.out h, HN.out h⟩
      have hs0 : ((dg v 0 * 16 + dg v 1) * 16 + dg v 2) * 16 + dg v 3 ≤ v := by rw [dg_sum v hv0 hv1]; omega
      have hs1 : v ≤ ((dg v 0 * 16 + dg v 1) * 16 + dg v 2) * 16 + dg v 3 := by rw [dg_sum v hv0 hv1]; omega
      clear HR HN hfz
      go_wp2_with (first | (at_builtin; refine wpList_append_fits_any _ rfl (.tmp 61) (.tmp 62) 27 rfl w.heap.size 5 i0 1 Try.underlying27 hi hz1 wc.heap.size 4 (4 + len) _ rfl (hrow.owns 4 (4 + len) w.heap.size hZ (by omega) (by unfold maxLen; omega) hgw) a' len len ((zs.take len).map (Value.int .u8)) rfl (by simp; omega) HN'.out HA.out (ints_oneCell _ _) (by omega) ?_; intro w2 hown2 hgrow2) | (go_at_call 17; refine (zzhex4_any _ _ _ _ (by omega) (by omega) (by omega) ((Z.take 4).getD 0 0) ((Z.take 4).getD 1 0) ((Z.take 4).getD 2 0) ((Z.take 4).getD 3 0) (dg v 0) (dg v 1) (dg v 2) (dg v 3) (owns_cell hown2 0 (by simp; omega)) (owns_cell hown2 1 (by simp; omega)) (owns_cell hown2 2 (by simp; omega)) (owns_cell hown2 3 (by simp; omega)) ?_ ?_ ?_ ?_).mono ?_; rotate_right; rintro e w3 ⟨rfl, rfl⟩))
      · go_ret
        refine ⟨ret_bool (by rw [dg_sum v hv0 hv1]; simp), ?_⟩
        exact (hbc.trans (hbel.mono hgw)).grown hgrow2 (by have := hbel.size; omega) (fun k hk => by simp at hk; omega)
      · rw [take4 Z 0 (by omega)]; exact hh.out 0 (by omega)
      · rw [take4 Z 1 (by omega)]; exact hh.out 1 (by omega)
      · rw [take4 Z 2 (by omega)]; exact hh.out 2 (by omega)
      · rw [take4 Z 3 (by omega)]; exact hh.out 3 (by omega)
end Go.Proofs.Qxb6003788a.Hex
