import Derived.Test.Qxb6003788aRows
import Derived.Test.Qxb6003788aDaysWalks
import Derived.WalkKit
import Derived.ProofKit
import Derived.OpenShut
import Derived.ShutString
namespace Go.Proofs.Qxb6003788a.fnDaysSinceEpochCountsDays
open Go.ChangeShapes Go.WideShapes Go.ChangeAt Go.RowKit
open Go.ChangeMaps (open_string shut_string)
set_option linter.unusedVariables false      -- a walk need not use every 'w<i>' (that an integer argument fits its kind)

theorem own : ownKnob Try.prog.godebug = none := by kernel_rfl

/-! ### STEP 1: THE WALK: the Go text returns true. 'Grown w w'': the world has at most new blocks (Derived/RowKit3.lean). Part the cases AHEAD of 'go_enter' where a test parts the walk; take each callee by a contract of your own. -/
theorem walk (a0 : Int) (a1 : Int) (a2 : Int) (w0 : (Lit.int .i64 a0).wf = true) (w1 : (Lit.int .i64 a1).wf = true) (w2 : (Lit.int .i64 a2).wf = true) (w : World) :
    Calls Try.prog 4 #[.int .i64 a0, .int .i64 a1, .int .i64 a2] w fun e w' => e = .returned (.bool true) ∧ Grown w w' := by
  by_cases hy : a0 < 0 ∨ 1000000 < a0
  · by_cases hy0 : a0 < 0
    · go_enter Try.func4, Try.ntmps4
      go_wp2
      go_ret
      exact ⟨rfl, Grown.refl _⟩
    · have hy1 : 1000000 < a0 := by omega
      go_enter Try.func4, Try.ntmps4
      go_wp2
      go_ret
      exact ⟨rfl, Grown.refl _⟩
  have y0 : 0 ≤ a0 := by omega
  have y1 : a0 ≤ 1000000 := by omega
  by_cases hm : a1 < 1 ∨ 12 < a1
  · by_cases hm0 : a1 < 1
    · go_enter Try.func4, Try.ntmps4
      go_wp2
      go_ret
      exact ⟨rfl, Grown.refl _⟩
    · have hm1 : 12 < a1 := by omega
      go_enter Try.func4, Try.ntmps4
      go_wp2
      go_ret
      exact ⟨rfl, Grown.refl _⟩
  have m0 : 1 ≤ a1 := by omega
  have m1 : a1 ≤ 12 := by omega
  clear hy hm
  by_cases hd0 : a2 < 1
  · go_enter Try.func4, Try.ntmps4
    go_wp2
    go_ret
    exact ⟨rfl, Grown.refl _⟩
  have d0 : 1 ≤ a2 := by omega
  clear hd0
  have mb := Cal.ml_bd a0 a1
  have mb0 := mb.1
  have mb1 := mb.2
  clear mb
  by_cases hd1 : Cal.ml a0 a1 < a2
  · go_enter Try.func4, Try.ntmps4
    go_wp2_with (go_at_call 10; refine (Days.ml_any _ _ _ y0 y1).mono ?_; rintro e w' ⟨rfl, rfl⟩)
    go_ret
    exact ⟨rfl, Grown.refl _⟩
  have d1 : a2 ≤ Cal.ml a0 a1 := by omega
  have d31 : a2 ≤ 31 := by omega
  clear hd1
  have e0 : Cal.dse 1970 1 1 ≤ 0 := by rw [Cal.epoch]; omega
  have e1 : 0 ≤ Cal.dse 1970 1 1 := by rw [Cal.epoch]; omega
  have tb := Cal.dse_bd a0 a1 a2 y0 (by omega) m0 m1 d0 d31
  have tb0 := tb.1
  have tb1 := tb.2
  clear tb
  by_cases hn : Cal.ml a0 a1 < a2 + 1
  · by_cases hm12 : 12 < a1 + 1
    · obtain rfl : a1 = 12 := by omega
      have H31 : Hid (a2 = 31) := by have : Cal.ml a0 12 = 31 := by simp [Cal.ml]
                                     show a2 = 31
                                     omega
      have HS : Hid (Cal.dse (a0 + 1) 1 1 = Cal.dse a0 12 a2 + 1) := by rw [H31.out]; exact Cal.step_year a0
      have s0 : Cal.dse (a0 + 1) 1 1 ≤ Cal.dse a0 12 a2 + 1 := by rw [HS.out]; omega
      have s1 : Cal.dse a0 12 a2 + 1 ≤ Cal.dse (a0 + 1) 1 1 := by rw [HS.out]; omega
      go_enter Try.func4, Try.ntmps4
      go_wp2_with (first | (go_at_call 10; refine (Days.ml_any _ _ _ y0 y1).mono ?_; rintro e w' ⟨rfl, rfl⟩) | (go_at_call 11; refine (Days.zz_any _ _ _ _ (by omega) (by omega) (by omega) (by omega) (by omega) (by omega)).mono ?_; rintro e w' ⟨rfl, rfl⟩))
      go_ret
      exact ⟨by simp [Cal.epoch], Grown.refl _⟩
    · have HS : Hid (Cal.dse a0 (a1 + 1) 1 = Cal.dse a0 a1 a2 + 1) := Cal.step_month a0 a1 a2 m0 (by omega) (by omega)
      have s0 : Cal.dse a0 (a1 + 1) 1 ≤ Cal.dse a0 a1 a2 + 1 := by rw [HS.out]; omega
      have s1 : Cal.dse a0 a1 a2 + 1 ≤ Cal.dse a0 (a1 + 1) 1 := by rw [HS.out]; omega
      go_enter Try.func4, Try.ntmps4
      go_wp2_with (first | (go_at_call 10; refine (Days.ml_any _ _ _ y0 y1).mono ?_; rintro e w' ⟨rfl, rfl⟩) | (go_at_call 11; refine (Days.zz_any _ _ _ _ (by omega) (by omega) (by omega) (by omega) (by omega) (by omega)).mono ?_; rintro e w' ⟨rfl, rfl⟩))
      go_ret
      exact ⟨by simp [Cal.epoch], Grown.refl _⟩
  · have HS : Hid (Cal.dse a0 a1 (a2 + 1) = Cal.dse a0 a1 a2 + 1) := Cal.step_day a0 a1 a2
    have s0 : Cal.dse a0 a1 (a2 + 1) ≤ Cal.dse a0 a1 a2 + 1 := by rw [HS.out]; omega
    have s1 : Cal.dse a0 a1 a2 + 1 ≤ Cal.dse a0 a1 (a2 + 1) := by rw [HS.out]; omega
    go_enter Try.func4, Try.ntmps4
    go_wp2_with (first | (go_at_call 10; refine (Days.ml_any _ _ _ y0 y1).mono ?_; rintro e w' ⟨rfl, rfl⟩) | (go_at_call 11; refine (Days.zz_any _ _ _ _ (by omega) (by omega) (by omega) (by omega) (by omega) (by omega)).mono ?_; rintro e w' ⟨rfl, rfl⟩))
    go_ret
    exact ⟨by simp [Cal.epoch], Grown.refl _⟩

/-! ### THE ROW's STEP: WRITTEN OUT: LEAVE IT -/
set_option maxRecDepth 100000 in
theorem lifted (os : Os) (started : os.Started) (H : Type) (enc : TypeId × Value → H) :
    ReturnsInHanded {} Try.checked os 4 .any (Rows.fnDaysSinceEpochCountsDaysSpec.pre6 enc Try.prog Try.f4 Rows.fnDaysSinceEpochCountsDaysRow.domain false) (Rows.fnDaysSinceEpochCountsDaysSpec.post enc Try.prog Try.f4 false true false false) := by
  refine returnsInHanded_of_change (C := Try.checked) own started (by kernel_rfl) Try.func4
    (ChangeSpec.witness6 (enc := enc) (C := Try.checked) false ⟨#[], #[.int .i64 0, .int .i64 0, .int .i64 0], []⟩ 8 (by kernel_rfl) (by kernel_rfl) (by kernel_rfl) (by kernel_rfl)) ?_
  intro W base args ds gs before hval0 hW hcnd _
  have hval : ∀ (j : Nat) t v, Try.f4.params[j]? = some t → args[j]? = some v → Value.okWide Try.prog W .any base t v := hval0
  have hW' := hW
  obtain ⟨p, q, hA0, hV, rfl, hfz, hnd⟩ := hW
  have hA : DataW.TrodAll enc Try.prog W 0 (fun _ => true) true Try.f4.params.toList args.toList ds p := hA0
  rw [Try.params4] at hA hval
  obtain ⟨v0, vs0, d0, ds0, p0, q0, hargs, rfl, rfl, h0, r0⟩ := trodAll_cons hA
  obtain ⟨v1, vs1, d1, ds1, p1, q1, rfl, rfl, rfl, h1, r1⟩ := trodAll_cons r0
  obtain ⟨v2, vs2, d2, ds2, p2, q2, rfl, rfl, rfl, h2, r2⟩ := trodAll_cons r1
  obtain ⟨rfl, rfl, rfl⟩ := trodAll_nil r2
  obtain rfl : args = #[v0, v1, v2] := by cases args; simp_all
  obtain ⟨rfl, rfl⟩ := trodVars_none hV
  obtain ⟨a0, rfl, rfl, rfl, w0⟩ := open_int Try.underlying3 (hval 0 3 v0 rfl rfl) h0
  obtain ⟨a1, rfl, rfl, rfl, w1⟩ := open_int Try.underlying3 (hval 1 3 v1 rfl rfl) h1
  obtain ⟨a2, rfl, rfl, rfl, w2⟩ := open_int Try.underlying3 (hval 2 3 v2 rfl rfl) h2
  clear hA0 hval0
  simp only [List.append_nil] at hW'
  refine (walk a0 a1 a2 w0 w1 w2 W).mono fun e W' ⟨he, hg⟩ => ?_
  subst he
  exact ⟨_, rfl, post_of_same (pa := []) (pv := []) hW' (fun _ _ _ => (trodAll_cons_mk (shut_bool Try.underlying4 _) trodAll_mk0)) (fun sp _ => (trodAll_cons_mk (shut_int Try.underlying3 w0) (trodAll_cons_mk (shut_int Try.underlying3 w1) (trodAll_cons_mk (shut_int Try.underlying3 w2) trodAll_mk0)))) (fun _ _ => rfl) rfl
    (hg.frame _) hg.2.1 (ok_one (by kernel_rfl) rfl (okWide_bool_mk Try.underlying4 _))⟩

theorem over : Rows.fnDaysSinceEpochCountsDaysRow.holds Try.pinned (OpenSpec.ofChange Rows.fnDaysSinceEpochCountsDaysSpec) :=
  OpenClaim.holds_of_wide 4 Try.f4 rfl rfl rfl rfl rfl rfl rfl ⟨rfl, rfl, rfl, rfl, rfl⟩ rfl rfl rfl rfl rfl (by kernel_rfl) Try.func4 (by kernel_rfl)
    (of_decide_eq_true (by kernel_rfl)) (by unfold Func.isWrapper; first | (rw [if_pos (by decide +kernel)]; kernel_rfl) | (rw [if_neg (by decide +kernel)]; exact ⟨rfl, rfl⟩))
    (fun os started H enc _ => lifted os started H enc)

/-- ████ THE STATEMENT ████ -/
theorem proved : Rows.FnDaysSinceEpochCountsDaysSaid :=
  over
end Go.Proofs.Qxb6003788a.fnDaysSinceEpochCountsDays
