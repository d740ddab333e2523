/-
  'Rows.FnCalendarYearFallsInItsYearSaid' proved. The frame is the guide's shell for this function; the walk is ours.
-/
import Derived.Test.Qxb6603807aRows
import Derived.Test.Qxb6603807aCal
import Derived.WalkKit
import Derived.ProofKit
import Derived.OpenShut
import Derived.ShutString
namespace Go.Proofs.Qxb6603807a.fnCalendarYearFallsInItsYear
open Go.ChangeShapes Go.WideShapes Go.ChangeAt Go.RowKit
open Go.ChangeMaps (open_string shut_string)
set_option linter.unusedVariables false      -- a walk need not use every 'w<i>' (that an integer argument fits its kind)

theorem own : ownKnob Try.prog.godebug = none := by kernel_rfl

/-! ### THE WALK -/
set_option maxHeartbeats 800000 in
theorem walk (a0 : Bool) (a1 : Int) (w1 : (Lit.int .i64 a1).wf = true) (w : World) :
    Calls Try.prog 6 #[.bool a0, .int .i64 a1] w fun e w' => e = .returned (.bool true) ∧ Grown w w' := by
  have hb := bounds_i64 w1
  by_cases h0 : a1 < 0
  · go_enter Try.func6, Try.ntmps6
    go_wp2
    go_ret
    exact ⟨rfl, Grown.refl _⟩
  · cases a0
    · go_enter Try.func6, Try.ntmps6
      go_wp2_with (first | (go_at_call 17; refine (Cal.year_months _ _ (by omega) (by omega)).mono ?_; rintro e wa ⟨rfl, hg⟩) | (go_at_call 16; refine (Cal.model_months _ _ (by omega) (by omega)).mono ?_; rintro e wb ⟨rfl, rfl⟩) | (go_at_call 18; refine (Cal.yl_months _ _).mono ?_; rintro e wb ⟨rfl, rfl⟩))
      go_ret
      exact ⟨by show Ending.returned (.bool (decide (a1 - 12 * (a1 / 12) < 12))) = _; rw [decide_eq_true (by omega)], hg⟩
    · by_cases h1 : 23058430092136939 < a1
      · go_enter Try.func6, Try.ntmps6
        go_wp2
        go_ret
        exact ⟨rfl, Grown.refl _⟩
      · go_enter Try.func6, Try.ntmps6
        go_wp2_with (first | (go_at_call 17; refine (Cal.year_any _ _ (by omega) (by omega)).mono ?_; rintro e wa ⟨⟨y, hy0, hy1, hy2, hy3, rfl⟩, hg⟩; have hl := Cal.ys_lo y hy0; have hyl := Cal.yl_bd y; rw [Cal.ys_succ y] at hy3) | (go_at_call 16; refine (Cal.model_any _ _ (by omega) (by omega)).mono ?_; rintro e wb ⟨rfl, rfl⟩) | (go_at_call 18; refine (Cal.yl_any _ _ (by omega)).mono ?_; rintro e wb ⟨rfl, rfl⟩))
        go_ret
        exact ⟨by show Ending.returned (.bool (decide (a1 - Cal.ys y < Cal.yl y))) = _; rw [decide_eq_true (by omega)], hg⟩

/-! ### THE ROW's STEP: WRITTEN OUT: LEAVE IT -/
set_option maxRecDepth 100000 in
theorem lifted (os : Os) (started : os.Started) (H : Type) (enc : TypeId × Value → H) :
    ReturnsInHanded {} Try.checked os 6 .any (Rows.fnCalendarYearFallsInItsYearSpec.pre6 enc Try.prog Try.f6 Rows.fnCalendarYearFallsInItsYearRow.domain false) (Rows.fnCalendarYearFallsInItsYearSpec.post enc Try.prog Try.f6 false true false false) := by
  refine returnsInHanded_of_change (C := Try.checked) own started (by kernel_rfl) Try.func6
    (ChangeSpec.witness6 (enc := enc) (C := Try.checked) false ⟨#[], #[.bool false, .int .i64 0], []⟩ 8 (by kernel_rfl) (by kernel_rfl) (by kernel_rfl) (by kernel_rfl)) ?_
  intro W base args ds gs before hval0 hW hcnd _
  have hval : ∀ (j : Nat) t v, Try.f6.params[j]? = some t → args[j]? = some v → Value.okWide Try.prog W .any base t v := hval0
  have hW' := hW
  obtain ⟨p, q, hA0, hV, rfl, hfz, hnd⟩ := hW
  have hA : DataW.TrodAll enc Try.prog W 0 (fun _ => true) true Try.f6.params.toList args.toList ds p := hA0
  rw [Try.params6] at hA hval
  obtain ⟨v0, vs0, d0, ds0, p0, q0, hargs, rfl, rfl, h0, r0⟩ := trodAll_cons hA
  obtain ⟨v1, vs1, d1, ds1, p1, q1, rfl, rfl, rfl, h1, r1⟩ := trodAll_cons r0
  obtain ⟨rfl, rfl, rfl⟩ := trodAll_nil r1
  obtain rfl : args = #[v0, v1] := by cases args; simp_all
  obtain ⟨rfl, rfl⟩ := trodVars_none hV
  obtain ⟨a0, rfl, rfl, rfl⟩ := open_bool Try.underlying4 (hval 0 4 v0 rfl rfl) h0
  obtain ⟨a1, rfl, rfl, rfl, w1⟩ := open_int Try.underlying3 (hval 1 3 v1 rfl rfl) h1
  clear hA0 hval0
  simp only [List.append_nil] at hW'
  refine (walk a0 a1 w1 W).mono fun e W' ⟨he, hg⟩ => ?_
  subst he
  exact ⟨_, rfl, post_of_same (pa := []) (pv := []) hW' (fun _ _ _ => (trodAll_cons_mk (shut_bool Try.underlying4 _) trodAll_mk0)) (fun sp _ => (trodAll_cons_mk (shut_bool Try.underlying4 _) (trodAll_cons_mk (shut_int Try.underlying3 w1) trodAll_mk0))) (fun _ _ => rfl) rfl
    (hg.frame _) hg.2.1 (ok_one (by kernel_rfl) rfl (okWide_bool_mk Try.underlying4 _))⟩

theorem over : Rows.fnCalendarYearFallsInItsYearRow.holds Try.pinned (OpenSpec.ofChange Rows.fnCalendarYearFallsInItsYearSpec) :=
  OpenClaim.holds_of_wide 6 Try.f6 rfl rfl rfl rfl rfl rfl rfl ⟨rfl, rfl, rfl, rfl, rfl⟩ rfl rfl rfl rfl rfl (by kernel_rfl) Try.func6 (by kernel_rfl)
    (of_decide_eq_true (by kernel_rfl)) (by unfold Func.isWrapper; first | (rw [if_pos (by decide +kernel)]; kernel_rfl) | (rw [if_neg (by decide +kernel)]; exact ⟨rfl, rfl⟩))
    (fun os started H enc _ => lifted os started H enc)

/-- ████ THE STATEMENT ████ -/
theorem proved : Rows.FnCalendarYearFallsInItsYearSaid :=
  over
end Go.Proofs.Qxb6603807a.fnCalendarYearFallsInItsYear

namespace Go.Proofs.Qxb6603807a
/-- THE STATEMENT -/
theorem calYearFalls_proved : Rows.FnCalendarYearFallsInItsYearSaid := fnCalendarYearFallsInItsYear.proved
end Go.Proofs.Qxb6603807a
