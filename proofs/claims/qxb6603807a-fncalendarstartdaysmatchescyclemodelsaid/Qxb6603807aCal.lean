/-
  The calendar's functions, each by a contract.
-/
import Derived.Test.Qxb6603807aRows
import Derived.Test.Qxb6603807aCalMath
import Derived.WalkKit
import Derived.ProofKit
import Derived.OpenShut
namespace Go.Proofs.Qxb6603807a.Cal
open Go.ChangeShapes Go.WideShapes Go.ChangeAt Go.RowKit

theorem grown_trans {a b c : World} (h : Grown a b) (k : Grown b c) : Grown a c :=
  ⟨World.keptBut_trans h.1 k.1, fun x => (k.2.1 x).trans (h.2.1 x), Nat.le_trans h.2.2 k.2.2⟩

theorem ret_int {k : IntKind} {a b : Int} (h : a = b) : Ending.returned (.int k a) = .returned (.int k b) := by rw [h]

theorem fd_any (a b : Int) (w : World) (ha : -1 ≤ a) (ha2 : a ≤ 100000000000000000) (hb : 2 ≤ b) (hb2 : b ≤ 1000) :
    Calls Try.prog 26 #[.int .i64 a, .int .i64 b] w fun e w' => e = .returned (.int .i64 (a / b)) ∧ w' = w := by
  by_cases h : a < 0
  · obtain rfl : a = -1 := by omega
    have e1 : (-1 : Int) / b = -1 := by
      rw [Int.ediv_eq_iff_of_pos (by omega)]; omega
    have e2 : b / b = 1 := Int.ediv_self (by omega)
    go_enter Try.func26, Try.ntmps26
    go_wp2
    go_ret
    exact ⟨ret_int (by rw [show 1 + b - 1 = b from by omega, e1, e2]; unfold wrap64; decide), rfl⟩
  · go_enter Try.func26, Try.ntmps26
    go_wp2
    go_ret
    exact ⟨rfl, rfl⟩

theorem db_any (y : Int) (w : World) (h0 : 0 ≤ y) (h1 : y ≤ 25200470046051301) :
    Calls Try.prog 25 #[.int .i64 y] w fun e w' => e = .returned (.int .i64 (db y)) ∧ w' = w := by
  go_enter Try.func25, Try.ntmps25
  go_wp2_with (go_at_call 26; refine (fd_any _ _ _ (by omega) (by omega) (by omega) (by omega)).mono ?_; rintro e w' ⟨rfl, rfl⟩)
  go_ret
  exact ⟨rfl, rfl⟩

theorem ys_any (y : Int) (w : World) (h0 : 0 ≤ y) (h1 : y ≤ 25200470046051301) :
    Calls Try.prog 23 #[.int .i64 y] w fun e w' => e = .returned (.int .i64 (ys y)) ∧ w' = w := by
  have hb : -366 ≤ db y ∧ db y ≤ 9210000000000000000 := by unfold db; omega
  have hz : db 0 = -366 := by decide
  go_enter Try.func23, Try.ntmps23
  go_wp2_with (go_at_call 25; refine (db_any _ _ (by omega) (by omega)).mono ?_; rintro e w' ⟨rfl, rfl⟩)
  go_ret
  exact ⟨ret_int (by unfold ys; omega), rfl⟩

theorem start_any (y : Int) (w : World) (h0 : 0 ≤ y) (h1 : y ≤ 25200470046051301) :
    Calls Try.prog 15 #[.bool true, .int .i64 y] w fun e w' => e = .returned (.int .i64 (ys y)) ∧ Grown w w' := by
  go_enter Try.func15, Try.ntmps15
  go_wp2_with (first | (go_at_call 23; refine (ys_any _ _ (by omega) (by omega)).mono ?_; rintro e w' ⟨rfl, rfl⟩) | go_in)
  go_ret
  exact ⟨rfl, by repeat (first | exact Grown.refl _ | apply Grown.drew | apply Grown.alloc)⟩

theorem yl_any (y : Int) (w : World) (h0 : 0 ≤ y) :
    Calls Try.prog 18 #[.bool true, .int .i64 y] w fun e w' => e = .returned (.int .i64 (yl y)) ∧ w' = w := by
  by_cases h1 : y % 400 = 0
  · have hy : yl y = 366 := by unfold yl lpB; simp [h1]
    go_enter Try.func18, Try.ntmps18
    go_wp2
    go_ret
    exact ⟨ret_int (by omega), rfl⟩
  · by_cases h2 : y % 4 = 0
    · by_cases h3 : y % 100 = 0
      · have hy : yl y = 365 := by unfold yl lpB; simp [h1, h3]
        go_enter Try.func18, Try.ntmps18
        go_wp2
        go_ret
        exact ⟨ret_int (by omega), rfl⟩
      · have hy : yl y = 366 := by unfold yl lpB; simp [h2, h3]
        have hd : (y % 100 != 0) = true := by simpa using h3
        go_enter Try.func18, Try.ntmps18
        go_wp2
        go_ret
        exact ⟨ret_int (by omega), rfl⟩
    · have hy : yl y = 365 := by unfold yl lpB; simp [h1, h2]
      go_enter Try.func18, Try.ntmps18
      go_wp2
      go_ret
      exact ⟨ret_int (by omega), rfl⟩

theorem model_any (y : Int) (w : World) (h0 : 0 ≤ y) (h1 : y ≤ 25200470046051300) :
    Calls Try.prog 16 #[.bool true, .int .i64 y] w fun e w' => e = .returned (.int .i64 (ys y)) ∧ w' = w := by
  have hq : ys y = y / 400 * 146097 + ys (y - y / 400 * 400) := by
    rw [← ys_cycle]; congr 1; omega
  have HQ : Hid (ys y = y / 400 * 146097 + ys (y - y / 400 * 400)) := hq
  clear hq
  go_enter Try.func16, Try.ntmps16
  go_wp2
  go_loop [6, 8] (fun s k => ∃ m : Int, 0 ≤ m ∧ m ≤ y - y / 400 * 400 ∧ k = .int .i64 m ∧ s = .int .i64 (y / 400 * 146097 + ys m)) (fun _ k => (400 - intOf k).toNat)
  case atStart => exact ⟨0, by omega, by omega, rfl, by rw [ys_zero]; simp⟩
  case round =>
    obtain ⟨m, hm0, hm1, rfl, rfl⟩ := hrel
    have hlo := ys_lo m hm0
    have hhi := ys_hi m hm0
    have hyl := yl_bd m
    by_cases hlt : m < y - y / 400 * 400
    · have hs := ys_succ m
      have HS : Hid (ys (m + 1) = ys m + yl m) := hs
      clear hs
      go_wp2_with (go_at_call 18; refine (yl_any _ _ (by omega)).mono ?_; rintro e w' ⟨rfl, rfl⟩)
      go_round
      case rel => exact ⟨m + 1, by omega, by omega, by go_num, by rw [HS.out]; go_num⟩
      case measure => simp [intOf]; omega
    · go_wp2
      go_ret
      exact ⟨ret_int (by rw [HQ.out]; congr 2; omega), rfl⟩


theorem yearOf_any (n : Int) (w : World) (h0 : 0 ≤ n) (h1 : n ≤ 23058430092136939) :
    Calls Try.prog 24 #[.int .i64 n] w fun e w' => (∃ y : Int, 0 ≤ y ∧ y ≤ n ∧ ys y ≤ n ∧ n < ys (y + 1) ∧ e = .returned (.int .i64 y)) ∧ w' = w := by
  go_enter Try.func24, Try.ntmps24
  go_wp2
  go_loop [3] (fun t => ∃ y : Int, 0 ≤ y ∧ y ≤ n ∧ t = .int .i64 y) (fun t => (n - intOf t).toNat)
  case atStart => exact ⟨n * 400 / 146097, by omega, by omega, rfl⟩
  case round =>
    obtain ⟨y, hy0, hy1, rfl⟩ := hrel
    have hl := ys_lo (y + 1) (by omega)
    by_cases hc : ys (y + 1) ≤ n
    · go_wp2_with (go_at_call 23; refine (ys_any _ _ (by omega) (by omega)).mono ?_; rintro e w' ⟨rfl, rfl⟩)
      go_round
      case rel => exact ⟨y + 1, by omega, by omega, rfl⟩
      case measure => simp [intOf]; omega
    · go_wp2_with (go_at_call 23; refine (ys_any _ _ (by omega) (by omega)).mono ?_; rintro e w' ⟨rfl, rfl⟩)
      go_loop [3] (fun t => ∃ y : Int, 0 ≤ y ∧ y ≤ n ∧ n < ys (y + 1) ∧ t = .int .i64 y) (fun t => (intOf t).toNat)
      case atStart => exact ⟨y, by omega, by omega, by omega, rfl⟩
      case round =>
        obtain ⟨z, hz0, hz1, hz2, rfl⟩ := hrel
        by_cases hd : n < ys z
        · have hz3 : 1 ≤ z := by
            refine Classical.byContradiction fun hn => ?_
            obtain rfl : z = 0 := by omega
            rw [ys_zero] at hd; omega
          have HD : Hid (n < ys (z - 1 + 1)) := by
            rw [show z - 1 + 1 = z from by omega]; exact hd
          go_wp2_with (go_at_call 23; refine (ys_any _ _ (by omega) (by omega)).mono ?_; rintro e w' ⟨rfl, rfl⟩)
          go_round
          case rel => exact ⟨z - 1, by omega, by omega, HD.out, rfl⟩
          case measure => simp [intOf]; omega
        · go_wp2_with (go_at_call 23; refine (ys_any _ _ (by omega) (by omega)).mono ?_; rintro e w' ⟨rfl, rfl⟩)
          go_ret
          exact ⟨⟨z, hz0, hz1, by omega, hz2, rfl⟩, rfl⟩

theorem year_any (n : Int) (w : World) (h0 : 0 ≤ n) (h1 : n ≤ 23058430092136939) :
    Calls Try.prog 17 #[.bool true, .int .i64 n] w fun e w' => (∃ y : Int, 0 ≤ y ∧ y ≤ n ∧ ys y ≤ n ∧ n < ys (y + 1) ∧ e = .returned (.int .i64 y)) ∧ Grown w w' := by
  go_enter Try.func17, Try.ntmps17
  go_wp2_with (first | (go_at_call 24; refine (yearOf_any _ _ (by omega) (by omega)).mono ?_; rintro e w' ⟨⟨y, hy0, hy1, hy2, hy3, rfl⟩, rfl⟩) | go_in)
  go_ret
  exact ⟨⟨y, hy0, hy1, hy2, hy3, rfl⟩, by repeat (first | exact Grown.refl _ | apply Grown.drew | apply Grown.alloc)⟩

theorem start_months (y : Int) (w : World) (h0 : -768614336404564650 ≤ y) (h1 : y ≤ 768614336404564650) :
    Calls Try.prog 15 #[.bool false, .int .i64 y] w fun e w' => e = .returned (.int .i64 (12 * y)) ∧ Grown w w' := by
  go_enter Try.func15, Try.ntmps15
  go_wp2
  go_ret
  exact ⟨rfl, by repeat (first | exact Grown.refl _ | apply Grown.drew | apply Grown.alloc)⟩

theorem model_months (y : Int) (w : World) (h0 : -768614336404564650 ≤ y) (h1 : y ≤ 768614336404564650) :
    Calls Try.prog 16 #[.bool false, .int .i64 y] w fun e w' => e = .returned (.int .i64 (12 * y)) ∧ w' = w := by
  go_enter Try.func16, Try.ntmps16
  go_wp2
  go_ret
  exact ⟨rfl, rfl⟩

theorem yl_months (y : Int) (w : World) :
    Calls Try.prog 18 #[.bool false, .int .i64 y] w fun e w' => e = .returned (.int .i64 12) ∧ w' = w := by
  go_enter Try.func18, Try.ntmps18
  go_wp2
  go_ret
  exact ⟨rfl, rfl⟩

theorem year_months (n : Int) (w : World) (h0 : 0 ≤ n) (h1 : n ≤ 9223372036854775807) :
    Calls Try.prog 17 #[.bool false, .int .i64 n] w fun e w' => e = .returned (.int .i64 (n / 12)) ∧ Grown w w' := by
  go_enter Try.func17, Try.ntmps17
  go_wp2
  go_ret
  exact ⟨rfl, by repeat (first | exact Grown.refl _ | apply Grown.drew | apply Grown.alloc)⟩

theorem year_months_mul (y : Int) (w : World) (h0 : -768614336404564650 ≤ y) (h1 : y ≤ 768614336404564650) :
    Calls Try.prog 17 #[.bool false, .int .i64 (12 * y)] w fun e w' => e = .returned (.int .i64 y) ∧ Grown w w' := by
  have e1 : wrap64 ((12 * y).tdiv 12) = y := by
    rw [Int.mul_tdiv_cancel_left _ (by decide)]
    exact IntWalk.wrap64_in y ⟨by omega, by omega⟩
  go_enter Try.func17, Try.ntmps17
  go_wp2
  go_ret
  exact ⟨rfl, by repeat (first | exact Grown.refl _ | apply Grown.drew | apply Grown.alloc)⟩

end Go.Proofs.Qxb6603807a.Cal
