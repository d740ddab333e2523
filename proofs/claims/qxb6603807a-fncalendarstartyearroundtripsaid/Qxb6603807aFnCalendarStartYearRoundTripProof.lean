/-
  'Rows.FnCalendarStartYearRoundTripSaid' proved. The frame is the guide's shell for this function; the walk is ours.
-/
import Derived.Test.Qxb6603807aRows
import Derived.Test.Qxb6603807aCal
import Derived.WalkKit
import Derived.ProofKit
import Derived.OpenShut
import Derived.ShutString
namespace Go.Proofs.Qxb6603807a.fnCalendarStartYearRoundTrip
open Go.ChangeShapes Go.WideShapes Go.ChangeAt Go.RowKit
open Go.ChangeMaps (open_string shut_string)
set_option linter.unusedVariables false      -- a walk need not use every 'w<i>' (that an integer argument fits its kind)

theorem own : ownKnob Try.prog.godebug = none := by kernel_rfl

/-! ### THE WALK -/
set_option maxHeartbeats 800000 in
theorem walk (a0 : Bool) (a1 : Int) (w1 : (Lit.int .i64 a1).wf = true) (w : World) :
    Calls Try.prog 7 #[.bool a0, .int .i64 a1] w fun e w' => e = .returned (.bool true) ∧ Grown w w' := by
  cases a0
  · by_cases h0 : a1 < -768614336404564650
    · go_enter Try.func7, Try.ntmps7
      go_wp2
      go_ret
      exact ⟨rfl, Grown.refl _⟩
    · by_cases h1 : 768614336404564650 < a1
      · go_enter Try.func7, Try.ntmps7
        go_wp2
        go_ret
        exact ⟨rfl, Grown.refl _⟩
      · by_cases h2 : 1 ≤ a1
        · go_enter Try.func7, Try.ntmps7
          go_wp2_with (go_at_call 15; refine (Cal.start_months _ _ (by omega) (by omega)).mono ?_; rintro e wa ⟨rfl, hg⟩)
          refine (Cal.year_months_mul a1 wa (by omega) (by omega)).mono ?_
          rintro e wb ⟨rfl, hg2⟩
          go_wp2_with fail
          refine (Cal.year_months (12 * a1 - 1) wb (by omega) (by omega)).mono ?_
          rintro e wc ⟨rfl, hg3⟩
          have h5 : (12 * a1 - 1) / 12 = a1 - 1 := by omega
          go_wp2
          go_ret
          exact ⟨rfl, Cal.grown_trans (Cal.grown_trans hg hg2) hg3⟩
        · go_enter Try.func7, Try.ntmps7
          go_wp2_with (go_at_call 15; refine (Cal.start_months _ _ (by omega) (by omega)).mono ?_; rintro e wa ⟨rfl, hg⟩)
          refine (Cal.year_months_mul a1 wa (by omega) (by omega)).mono ?_
          rintro e wb ⟨rfl, hg2⟩
          go_wp2
          go_ret
          exact ⟨rfl, Cal.grown_trans hg hg2⟩
  · by_cases h0 : a1 < 0
    · go_enter Try.func7, Try.ntmps7
      go_wp2
      go_ret
      exact ⟨rfl, Grown.refl _⟩
    · by_cases h1 : 63001175115128 < a1
      · go_enter Try.func7, Try.ntmps7
        go_wp2
        go_ret
        exact ⟨rfl, Grown.refl _⟩
      · have hl := Cal.ys_lo a1 (by omega)
        have hh := Cal.ys_hi a1 (by omega)
        have hyl := Cal.yl_bd a1
        by_cases h2 : 1 ≤ a1
        · have hyl2 := Cal.yl_bd (a1 - 1)
          have HP : Hid (Cal.ys a1 = Cal.ys (a1 - 1) + Cal.yl (a1 - 1)) := by
            have := Cal.ys_succ (a1 - 1)
            rw [show a1 - 1 + 1 = a1 from by omega] at this
            exact this
          go_enter Try.func7, Try.ntmps7
          go_wp2_with (go_at_call 15; refine (Cal.start_any _ _ (by omega) (by omega)).mono ?_; rintro e wa ⟨rfl, hg⟩)
          refine (Cal.year_any (Cal.ys a1) wa (by omega) (by omega)).mono ?_
          rintro e wb ⟨⟨y, hy0, hy1, hy2, hy3, rfl⟩, hg2⟩
          obtain rfl : y = a1 := Cal.ys_uniq y a1 (Cal.ys a1) hy2 hy3 (Int.le_refl _) (by rw [Cal.ys_succ]; omega)
          go_wp2_with fail
          refine (Cal.year_any (Cal.ys y - 1) wb (by omega) (by omega)).mono ?_
          rintro e wc ⟨⟨z, hz0, hz1, hz2, hz3, rfl⟩, hg3⟩
          have hzy : z = y - 1 := Cal.ys_uniq z (y - 1) (Cal.ys y - 1) hz2 hz3 (by rw [HP.out]; omega) (by rw [show y - 1 + 1 = y from by omega]; omega)
          clear hz0 hz1 hz2 hz3
          subst hzy
          go_wp2
          go_ret
          exact ⟨rfl, Cal.grown_trans (Cal.grown_trans hg hg2) hg3⟩
        · go_enter Try.func7, Try.ntmps7
          go_wp2_with (go_at_call 15; refine (Cal.start_any _ _ (by omega) (by omega)).mono ?_; rintro e wa ⟨rfl, hg⟩)
          refine (Cal.year_any (Cal.ys a1) wa (by omega) (by omega)).mono ?_
          rintro e wb ⟨⟨y, hy0, hy1, hy2, hy3, rfl⟩, hg2⟩
          obtain rfl : y = a1 := Cal.ys_uniq y a1 (Cal.ys a1) hy2 hy3 (Int.le_refl _) (by rw [Cal.ys_succ]; omega)
          go_wp2
          go_ret
          exact ⟨rfl, Cal.grown_trans hg hg2⟩

/-! ### THE ROW's STEP: WRITTEN OUT: LEAVE IT -/
set_option maxRecDepth 100000 in
theorem lifted (os : Os) (started : os.Started) (H : Type) (enc : TypeId × Value → H) :
    ReturnsInHanded {} Try.checked os 7 .any (Rows.fnCalendarStartYearRoundTripSpec.pre6 enc Try.prog Try.f7 Rows.fnCalendarStartYearRoundTripRow.domain false) (Rows.fnCalendarStartYearRoundTripSpec.post enc Try.prog Try.f7 false true false false) := by
  refine returnsInHanded_of_change (C := Try.checked) own started (by kernel_rfl) Try.func7
    (ChangeSpec.witness6 (enc := enc) (C := Try.checked) false ⟨#[], #[.bool false, .int .i64 0], []⟩ 8 (by kernel_rfl) (by kernel_rfl) (by kernel_rfl) (by kernel_rfl)) ?_
  intro W base args ds gs before hval0 hW hcnd _
  have hval : ∀ (j : Nat) t v, Try.f7.params[j]? = some t → args[j]? = some v → Value.okWide Try.prog W .any base t v := hval0
  have hW' := hW
  obtain ⟨p, q, hA0, hV, rfl, hfz, hnd⟩ := hW
  have hA : DataW.TrodAll enc Try.prog W 0 (fun _ => true) true Try.f7.params.toList args.toList ds p := hA0
  rw [Try.params7] at hA hval
  obtain ⟨v0, vs0, d0, ds0, p0, q0, hargs, rfl, rfl, h0, r0⟩ := trodAll_cons hA
  obtain ⟨v1, vs1, d1, ds1, p1, q1, rfl, rfl, rfl, h1, r1⟩ := trodAll_cons r0
  obtain ⟨rfl, rfl, rfl⟩ := trodAll_nil r1
  obtain rfl : args = #[v0, v1] := by cases args; simp_all
  obtain ⟨rfl, rfl⟩ := trodVars_none hV
  obtain ⟨a0, rfl, rfl, rfl⟩ := open_bool Try.underlying4 (hval 0 4 v0 rfl rfl) h0
  obtain ⟨a1, rfl, rfl, rfl, w1⟩ := open_int Try.underlying3 (hval 1 3 v1 rfl rfl) h1
  clear hA0 hval0
  simp only [List.append_nil] at hW'
  refine (walk a0 a1 w1 W).mono fun e W' ⟨he, hg⟩ => ?_
  subst he
  exact ⟨_, rfl, post_of_same (pa := []) (pv := []) hW' (fun _ _ _ => (trodAll_cons_mk (shut_bool Try.underlying4 _) trodAll_mk0)) (fun sp _ => (trodAll_cons_mk (shut_bool Try.underlying4 _) (trodAll_cons_mk (shut_int Try.underlying3 w1) trodAll_mk0))) (fun _ _ => rfl) rfl
    (hg.frame _) hg.2.1 (ok_one (by kernel_rfl) rfl (okWide_bool_mk Try.underlying4 _))⟩

theorem over : Rows.fnCalendarStartYearRoundTripRow.holds Try.pinned (OpenSpec.ofChange Rows.fnCalendarStartYearRoundTripSpec) :=
  OpenClaim.holds_of_wide 7 Try.f7 rfl rfl rfl rfl rfl rfl rfl ⟨rfl, rfl, rfl, rfl, rfl⟩ rfl rfl rfl rfl rfl (by kernel_rfl) Try.func7 (by kernel_rfl)
    (of_decide_eq_true (by kernel_rfl)) (by unfold Func.isWrapper; first | (rw [if_pos (by decide +kernel)]; kernel_rfl) | (rw [if_neg (by decide +kernel)]; exact ⟨rfl, rfl⟩))
    (fun os started H enc _ => lifted os started H enc)

/-- ████ THE STATEMENT ████ -/
theorem proved : Rows.FnCalendarStartYearRoundTripSaid :=
  over
end Go.Proofs.Qxb6603807a.fnCalendarStartYearRoundTrip

namespace Go.Proofs.Qxb6603807a
/-- THE STATEMENT -/
theorem calRoundTrip_proved : Rows.FnCalendarStartYearRoundTripSaid := fnCalendarStartYearRoundTrip.proved
end Go.Proofs.Qxb6603807a
