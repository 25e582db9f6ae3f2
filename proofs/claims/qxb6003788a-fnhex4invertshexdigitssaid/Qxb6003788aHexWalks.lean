import Derived.Test.Qxb6003788aRows
import Derived.Test.Qxb6003788aAid
import Derived.WalkSpells
namespace Go.Proofs.Qxb6003788a.Hex
open Go.RowKit Go.Proofs.Qxb6003788a.Aid
set_option linter.unusedVariables false
set_option linter.unusedSimpArgs false

/-- c is a way to write the hexadecimal digit d. -/
def isHex (c d : Int) : Prop := 0 ≤ d ∧ d ≤ 15 ∧ ((d ≤ 9 ∧ c = 48 + d) ∨ (10 ≤ d ∧ c = 55 + d) ∨ (10 ≤ d ∧ c = 87 + d))

theorem hex_dig {c d : Int} (h : isHex c d) (hc : c ≤ 57) : (c - 48) % 256 = d := by unfold isHex at h; omega
theorem hex_up {c d : Int} (h : isHex c d) (hc : 57 < c) (hc' : c ≤ 70) : (c - 65 + 10) % 256 = d := by unfold isHex at h; omega
theorem hex_lo {c d : Int} (h : isHex c d) (hc : 57 < c) (hc' : 70 < c) : (c - 97 + 10) % 256 = d := by unfold isHex at h; omega
theorem or4 (x y : Int) (h0 : 0 ≤ x) (h1 : x < 4096) (h2 : 0 ≤ y) (h3 : y ≤ 15) : bits .or .i32 (x * 16) y = x * 16 + y :=
  bits_join .i32 31 (by decide) wraps_i32 4 (x * 16) y (by omega) (by omega) (by omega) h2 (by omega) (by omega)
theorem val_i32 {a b : Int} (h : a = b) : Value.int .i32 a = .int .i32 b := by rw [h]

set_option maxHeartbeats 800000 in
theorem hex4_any (g n cap : Nat) (w : World) (hn : 4 ≤ n) (hcap : n ≤ cap) (hmax : cap ≤ 1048580) (c0 c1 c2 c3 d0 d1 d2 d3 : Int)
    (x0 : w.cell? ⟨g, 0, none⟩ = some (.int .u8 c0)) (x1 : w.cell? ⟨g, 1, none⟩ = some (.int .u8 c1)) (x2 : w.cell? ⟨g, 2, none⟩ = some (.int .u8 c2)) (x3 : w.cell? ⟨g, 3, none⟩ = some (.int .u8 c3))
    (h0 : isHex c0 d0) (h1 : isHex c1 d1) (h2 : isHex c2 d2) (h3 : isHex c3 d3) :
    Calls Try.prog 24 #[.slice (some ⟨g, 0, none⟩) n cap] w fun e w' => e = .returned (.int .i32 (((d0 * 16 + d1) * 16 + d2) * 16 + d3)) ∧ w' = w := by
  have p0 := h0.1
  have q0 := h0.2.1
  have p1 := h1.1
  have q1 := h1.2.1
  have p2 := h2.1
  have q2 := h2.2.1
  have p3 := h3.1
  have q3 := h3.2.1
  go_enter Try.func24, Try.ntmps24
  go_wp2
  go_loop [3, 9] (fun r i => (i = .int .i64 0 ∧ r = .int .i32 0) ∨ (i = .int .i64 1 ∧ r = .int .i32 d0) ∨ (i = .int .i64 2 ∧ r = .int .i32 (d0 * 16 + d1)) ∨ (i = .int .i64 3 ∧ r = .int .i32 ((d0 * 16 + d1) * 16 + d2)) ∨ (i = .int .i64 4 ∧ r = .int .i32 (((d0 * 16 + d1) * 16 + d2) * 16 + d3)))
    (fun _ i => 4 - (intOf i).toNat)
  case atStart => exact .inl ⟨rfl, rfl⟩
  case round =>
    rcases hrel with ⟨rfl, rfl⟩ | ⟨rfl, rfl⟩ | ⟨rfl, rfl⟩ | ⟨rfl, rfl⟩ | ⟨rfl, rfl⟩
    · go_wp2
      · exact ⟨.inr (.inl ⟨rfl, val_i32 (by rw [hex_dig h0 (by assumption)]; omega)⟩), by simp [intOf]⟩
      · exact ⟨.inr (.inl ⟨rfl, val_i32 (by rw [hex_up h0 (by assumption) (by assumption)]; omega)⟩), by simp [intOf]⟩
      · exact ⟨.inr (.inl ⟨rfl, val_i32 (by rw [hex_lo h0 (by assumption) (by assumption)]; omega)⟩), by simp [intOf]⟩
    · go_wp2
      · exact ⟨.inr (.inr (.inl ⟨rfl, val_i32 (by rw [hex_dig h1 (by assumption), or4 _ _ (by omega) (by omega) p1 q1])⟩)), by simp [intOf]⟩
      · exact ⟨.inr (.inr (.inl ⟨rfl, val_i32 (by rw [hex_up h1 (by assumption) (by assumption), or4 _ _ (by omega) (by omega) p1 q1])⟩)), by simp [intOf]⟩
      · exact ⟨.inr (.inr (.inl ⟨rfl, val_i32 (by rw [hex_lo h1 (by assumption) (by assumption), or4 _ _ (by omega) (by omega) p1 q1])⟩)), by simp [intOf]⟩
    · go_wp2
      · exact ⟨.inr (.inr (.inr (.inl ⟨rfl, val_i32 (by rw [hex_dig h2 (by assumption), or4 _ _ (by omega) (by omega) p2 q2])⟩))), by simp [intOf]⟩
      · exact ⟨.inr (.inr (.inr (.inl ⟨rfl, val_i32 (by rw [hex_up h2 (by assumption) (by assumption), or4 _ _ (by omega) (by omega) p2 q2])⟩))), by simp [intOf]⟩
      · exact ⟨.inr (.inr (.inr (.inl ⟨rfl, val_i32 (by rw [hex_lo h2 (by assumption) (by assumption), or4 _ _ (by omega) (by omega) p2 q2])⟩))), by simp [intOf]⟩
    · go_wp2
      · exact ⟨.inr (.inr (.inr (.inr ⟨rfl, val_i32 (by rw [hex_dig h3 (by assumption), or4 _ _ (by omega) (by omega) p3 q3])⟩))), by simp [intOf]⟩
      · exact ⟨.inr (.inr (.inr (.inr ⟨rfl, val_i32 (by rw [hex_up h3 (by assumption) (by assumption), or4 _ _ (by omega) (by omega) p3 q3])⟩))), by simp [intOf]⟩
      · exact ⟨.inr (.inr (.inr (.inr ⟨rfl, val_i32 (by rw [hex_lo h3 (by assumption) (by assumption), or4 _ _ (by omega) (by omega) p3 q3])⟩))), by simp [intOf]⟩
    · go_wp2
      go_ret
      exact ⟨rfl, rfl⟩

theorem zzhex4_any (g n cap : Nat) (w : World) (hn : 4 ≤ n) (hcap : n ≤ cap) (hmax : cap ≤ 1048580) (c0 c1 c2 c3 d0 d1 d2 d3 : Int)
    (x0 : w.cell? ⟨g, 0, none⟩ = some (.int .u8 c0)) (x1 : w.cell? ⟨g, 1, none⟩ = some (.int .u8 c1)) (x2 : w.cell? ⟨g, 2, none⟩ = some (.int .u8 c2)) (x3 : w.cell? ⟨g, 3, none⟩ = some (.int .u8 c3))
    (h0 : isHex c0 d0) (h1 : isHex c1 d1) (h2 : isHex c2 d2) (h3 : isHex c3 d3) :
    Calls Try.prog 17 #[.slice (some ⟨g, 0, none⟩) n cap] w fun e w' => e = .returned (.int .i32 (((d0 * 16 + d1) * 16 + d2) * 16 + d3)) ∧ w' = w := by
  go_enter Try.func17, Try.ntmps17
  go_wp2_with (go_at_call 24; refine (hex4_any _ _ _ _ hn hcap hmax c0 c1 c2 c3 d0 d1 d2 d3 x0 x1 x2 x3 h0 h1 h2 h3).mono ?_; rintro e w' ⟨rfl, rfl⟩)
  go_ret
  exact ⟨rfl, rfl⟩
end Go.Proofs.Qxb6003788a.Hex
