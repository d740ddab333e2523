/-
  b1CopyInts, b1CopyInt64s.
-/
import Derived.Test.Qxb6603807aCounts
namespace Go.Proofs.Qxb6603807a.Mem
open Go.ChangeShapes Go.WideShapes Go.ChangeAt Go.RowKit

set_option maxHeartbeats 400000 in
theorem copy22_pos (b off n cap : Nat) (f : Nat → Int) (w : World) (hn : 1 ≤ n) (hn2 : n ≤ 32768) (hb : b < w.heap.size)
    (hc : ∀ i, i < n → w.cell? ⟨b, off + i, none⟩ = some (.int .i64 (f i))) :
    Calls Try.prog 10 #[.slice (some ⟨b, off, none⟩) n cap] w fun e w' => e = .returned (.slice (some ⟨w.heap.size, 0, none⟩) n n) ∧ Row w' w.heap.size 3 n f ∧ Below w.heap.size w w' ∧ w'.heap.size = w.heap.size + 1 := by
  have q22 : ∀ (w : World) (a : Option Addr) (n c n' c' : Nat), (binOp .eql 22 (.slice a n c) (.slice none n' c')).run Try.prog w = .ok (.bool a.isNone) w := fun w a n c n' c' => Lib.run_eql_slice_nil w _ _ a n c n' c' Try.underlying22
  have hmk := mk22 n (by omega)
  go_enter Try.func10, Try.ntmps10
  go_wp2
  go_loopw [4] (fun i wr => ∃ k : Nat, k ≤ n ∧ i = .int .i64 k ∧ Row wr w.heap.size 3 n (pre k f) ∧ Below w.heap.size w wr ∧ wr.heap.size = w.heap.size + 1) (fun i _ => n - (intOf i).toNat)
  case atStart => exact ⟨0, Nat.zero_le _, rfl, Row.pre_new w 3 n f, (Below.refl _ _).alloc (Nat.le_refl _) _, by simp⟩
  case round =>
    obtain ⟨k, hk, rfl, hR, hB, hS⟩ := hrel
    by_cases hlt : k < n
    · have c1 : wr.cell? ⟨b, off + k, none⟩ = some (.int .i64 (f k)) := (hB.cell (p := ⟨b, off + k, none⟩) hb).trans (hc k hlt)
      have f1 := hR.free k
      have c2 := hR.cell hlt
      have R : Hid (Row (wr.setCell ⟨w.heap.size, k, none⟩ (.int .i64 (f k))) w.heap.size 3 n (pre (k + 1) f)) := hR.pre_step
      go_wp2
      go_roundw
      case rel => exact ⟨k + 1, by omega, by go_num, R.out, hB.setCell (Nat.le_refl _) _, by simpa using hS⟩
      case measure => simp [intOf]; omega
    · go_wp2
      go_ret
      exact ⟨rfl, hR.pre_full (by omega), hB, hS⟩

set_option maxHeartbeats 400000 in
theorem copy22_zero (a : Option Addr) (cap : Nat) (w : World) :
    Calls Try.prog 10 #[.slice a 0 cap] w fun e w' => (∃ a' c', e = .returned (.slice a' 0 c')) ∧ Below w.heap.size w w' := by
  have q22 : ∀ (w : World) (a : Option Addr) (n c n' c' : Nat), (binOp .eql 22 (.slice a n c) (.slice none n' c')).run Try.prog w = .ok (.bool a.isNone) w := fun w a n c n' c' => Lib.run_eql_slice_nil w _ _ a n c n' c' Try.underlying22
  have hmk := mk22z
  cases a with
  | none =>
    go_enter Try.func10, Try.ntmps10
    go_wp2
    go_ret
    exact ⟨⟨_, _, rfl⟩, Below.refl _ _⟩
  | some x =>
    go_enter Try.func10, Try.ntmps10
    go_wp2
    refine wp_loop_rounds 1 ?_
    rw [rounds_succ]
    go_wp2
    go_ret
    exact ⟨⟨_, _, rfl⟩, (Below.refl _ _).alloc (Nat.le_refl _) _⟩

set_option maxHeartbeats 400000 in
theorem copy23_pos (b off n cap : Nat) (f : Nat → Int) (w : World) (hn : 1 ≤ n) (hn2 : n ≤ 32768) (hb : b < w.heap.size)
    (hc : ∀ i, i < n → w.cell? ⟨b, off + i, none⟩ = some (.int .i64 (f i))) :
    Calls Try.prog 11 #[.slice (some ⟨b, off, none⟩) n cap] w fun e w' => e = .returned (.slice (some ⟨w.heap.size, 0, none⟩) n n) ∧ Row w' w.heap.size 2 n f ∧ Below w.heap.size w w' ∧ w'.heap.size = w.heap.size + 1 := by
  have q23 : ∀ (w : World) (a : Option Addr) (n c n' c' : Nat), (binOp .eql 23 (.slice a n c) (.slice none n' c')).run Try.prog w = .ok (.bool a.isNone) w := fun w a n c n' c' => Lib.run_eql_slice_nil w _ _ a n c n' c' Try.underlying23
  have hmk := mk23 n (by omega)
  go_enter Try.func11, Try.ntmps11
  go_wp2
  go_loopw [4] (fun i wr => ∃ k : Nat, k ≤ n ∧ i = .int .i64 k ∧ Row wr w.heap.size 2 n (pre k f) ∧ Below w.heap.size w wr ∧ wr.heap.size = w.heap.size + 1) (fun i _ => n - (intOf i).toNat)
  case atStart => exact ⟨0, Nat.zero_le _, rfl, Row.pre_new w 2 n f, (Below.refl _ _).alloc (Nat.le_refl _) _, by simp⟩
  case round =>
    obtain ⟨k, hk, rfl, hR, hB, hS⟩ := hrel
    by_cases hlt : k < n
    · have c1 : wr.cell? ⟨b, off + k, none⟩ = some (.int .i64 (f k)) := (hB.cell (p := ⟨b, off + k, none⟩) hb).trans (hc k hlt)
      have f1 := hR.free k
      have c2 := hR.cell hlt
      have R : Hid (Row (wr.setCell ⟨w.heap.size, k, none⟩ (.int .i64 (f k))) w.heap.size 2 n (pre (k + 1) f)) := hR.pre_step
      go_wp2
      go_roundw
      case rel => exact ⟨k + 1, by omega, by go_num, R.out, hB.setCell (Nat.le_refl _) _, by simpa using hS⟩
      case measure => simp [intOf]; omega
    · go_wp2
      go_ret
      exact ⟨rfl, hR.pre_full (by omega), hB, hS⟩

set_option maxHeartbeats 400000 in
theorem copy23_zero (a : Option Addr) (cap : Nat) (w : World) :
    Calls Try.prog 11 #[.slice a 0 cap] w fun e w' => (∃ a' c', e = .returned (.slice a' 0 c')) ∧ Below w.heap.size w w' := by
  have q23 : ∀ (w : World) (a : Option Addr) (n c n' c' : Nat), (binOp .eql 23 (.slice a n c) (.slice none n' c')).run Try.prog w = .ok (.bool a.isNone) w := fun w a n c n' c' => Lib.run_eql_slice_nil w _ _ a n c n' c' Try.underlying23
  have hmk := mk23z
  cases a with
  | none =>
    go_enter Try.func11, Try.ntmps11
    go_wp2
    go_ret
    exact ⟨⟨_, _, rfl⟩, Below.refl _ _⟩
  | some x =>
    go_enter Try.func11, Try.ntmps11
    go_wp2
    refine wp_loop_rounds 1 ?_
    rw [rounds_succ]
    go_wp2
    go_ret
    exact ⟨⟨_, _, rfl⟩, (Below.refl _ _).alloc (Nat.le_refl _) _⟩

/-! ### the bound on lengths: whatever it answers -/
set_option maxHeartbeats 400000 in
theorem bytes14 (a0 a1 a2 a3 : Option Addr) (l0 c0 l1 c1 l2 c2 l3 c3 : Nat) (w : World) :
    Calls Try.prog 14 #[.slice a0 l0 c0, .slice a1 l1 c1, .slice a2 l2 c2, .slice a3 l3 c3] w fun e w' => (∃ r : Bool, e = .returned (.bool r)) ∧ w' = w := by
  go_enter Try.func14, Try.ntmps14
  go_wp2
  all_goals (go_ret; exact ⟨⟨_, rfl⟩, rfl⟩)
set_option maxHeartbeats 400000 in
theorem bytes8 (a0 a1 a2 a3 : Option Addr) (l0 c0 l1 c1 l2 c2 l3 c3 : Nat) (w : World) :
    Calls Try.prog 8 #[.slice a0 l0 c0, .slice a1 l1 c1, .slice a2 l2 c2, .slice a3 l3 c3] w fun e w' => (∃ r : Bool, e = .returned (.bool r)) ∧ w' = w := by
  go_enter Try.func8, Try.ntmps8
  go_wp2
  all_goals (go_ret; exact ⟨⟨_, rfl⟩, rfl⟩)

/-! ### the span of the years -/
def SpanEnd (n : Nat) (f : Nat → Int) (e : Ending) : Prop := ∃ r : Bool, e = .returned (.bool r) ∧ (r = true → Span n f)
theorem SpanEnd.mk {n : Nat} {f : Nat → Int} {r : Bool} (h : r = true → Span n f) : SpanEnd n f (.returned (.bool r)) := ⟨r, rfl, h⟩
theorem span_zero (a : Option Addr) (cap : Nat) (w : World) :
    Calls Try.prog 9 #[.slice a 0 cap, .int .i64 65536] w fun e w' => e = .returned (.bool true) ∧ w' = w := by
  go_enter Try.func9, Try.ntmps9
  go_wp2
  go_ret
  exact ⟨rfl, rfl⟩
set_option maxHeartbeats 800000 in
theorem span_pos (b off n cap : Nat) (f : Nat → Int) (w : World) (hn : 1 ≤ n) (hn2 : n ≤ 32768)
    (hc : ∀ i, i < n → w.cell? ⟨b, off + i, none⟩ = some (.int .i64 (f i))) (hf : ∀ i, i < n → -9223372036854775808 ≤ f i ∧ f i ≤ 9223372036854775807) :
    Calls Try.prog 9 #[.slice (some ⟨b, off, none⟩) n cap, .int .i64 65536] w fun e w' => SpanEnd n f e ∧ w' = w := by
  have hc0 := hc 0 (by omega)
  simp only [Nat.add_zero] at hc0
  have hf0 := hf 0 (by omega)
  go_enter Try.func9, Try.ntmps9
  go_wp2
  go_loop [5, 6, 7] (fun s t i => ∃ k : Nat, ∃ x y : Int, 1 ≤ k ∧ k ≤ n ∧ i = .int .i64 k ∧ s = .int .i64 x ∧ t = .int .i64 y ∧ -9223372036854775808 ≤ x ∧ x ≤ 9223372036854775807 ∧ -9223372036854775808 ≤ y ∧ y ≤ 9223372036854775807 ∧ (∀ j, j < k → x ≤ f j ∧ f j ≤ y)) (fun _ _ i => n - (intOf i).toNat)
  case atStart => exact ⟨1, f 0, f 0, by omega, by omega, rfl, rfl, rfl, by omega, by omega, by omega, by omega, fun j hj => by rw [show j = 0 from by omega]; exact ⟨Int.le_refl _, Int.le_refl _⟩⟩
  case round =>
    obtain ⟨k, x, y, hk1, hk2, rfl, rfl, rfl, hx1, hx2, hy1, hy2, hall⟩ := hrel
    by_cases hlt : k < n
    · have hck := hc k hlt
      have hfk := hf k hlt
      have step : ∀ x' y' : Int, x' ≤ x → x' ≤ f k → y ≤ y' → f k ≤ y' → ∀ j, j < k + 1 → x' ≤ f j ∧ f j ≤ y' := by
        intro x' y' h1 h2 h3 h4 j hj
        by_cases hjk : j = k
        · subst hjk; exact ⟨h2, h4⟩
        · have := hall j (by omega); omega
      by_cases h1 : f k < x
      · by_cases h2 : y < f k
        · have := hall 0 (by omega); omega
        · go_wp2
          go_round
          case rel => exact ⟨k + 1, f k, y, by omega, by omega, by go_num, rfl, rfl, by omega, by omega, by omega, by omega, step _ _ (by omega) (by omega) (by omega) (by omega)⟩
          case measure => simp [intOf]; omega
      · by_cases h2 : y < f k
        · go_wp2
          go_round
          case rel => exact ⟨k + 1, x, f k, by omega, by omega, by go_num, rfl, rfl, by omega, by omega, by omega, by omega, step _ _ (by omega) (by omega) (by omega) (by omega)⟩
          case measure => simp [intOf]; omega
        · go_wp2
          go_round
          case rel => exact ⟨k + 1, x, y, by omega, by omega, by go_num, rfl, rfl, by omega, by omega, by omega, by omega, step _ _ (by omega) (by omega) (by omega) (by omega)⟩
          case measure => simp [intOf]; omega
    · have hxy : x ≤ y := by have := hall 0 (by omega); omega
      have fin : y - x ≤ 65536 → Span n f := by
        intro hyx i j hi hj
        have := hall i (by omega)
        have := hall j (by omega)
        omega
      by_cases h1 : 0 ≤ x
      · go_wp2
        go_ret
        exact ⟨SpanEnd.mk (fun h => fin (by simpa using h)), rfl⟩
      · by_cases h2 : y < 0
        · go_wp2
          go_ret
          exact ⟨SpanEnd.mk (fun h => fin (by simpa using h)), rfl⟩
        · go_wp2
          go_ret
          exact ⟨SpanEnd.mk (fun h => fin (by simp at h; omega)), rfl⟩

end Go.Proofs.Qxb6603807a.Mem
