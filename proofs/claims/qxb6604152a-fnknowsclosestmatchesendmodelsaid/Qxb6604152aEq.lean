/-
  '==' between two ids.
-/
import Derived.Test.Qxb6604152aGate
import Derived.Laws.StructEq
namespace Go.Proofs.Qxb6604152a.Ids
open Go.Proofs.Qxb6604152a.Num

theorem part5 (g : Nat → Int) (i : Nat) (hi : i < 16) (w : World) : (Go.part 5 (idOf g) (i * 1)).run Try.prog w = .ok (.int .u8 (g i)) w := by
  unfold Go.part
  simp only [Sem.run_bind, Try.isAgg5, Result.andThen_ok, Nat.mul_one, idOf_get g i hi]
  rfl
def loopOf (g h : Nat → Int) (k m : Nat) : Sem (Option Bool × Unit) :=
  forIn (m := Sem) (List.range' k m) ((none, ()) : Option Bool × Unit) fun i __s => do
    let x ← Go.part 5 (idOf g) (i * 1)
    let y ← Go.part 5 (idOf h) (i * 1)
    let z ← Op.equalIn 9999 5 x y
    if (!z) = true then pure (ForInStep.done (some false, ())) else pure (ForInStep.yield (none, ()))
theorem eqLoop (g h : Nat → Int) (w : World) : ∀ m k, k + m = 16 →
    ((∀ j, k ≤ j → j < 16 → g j = h j) → (loopOf g h k m).run Try.prog w = .ok (none, ()) w) ∧ ((¬ ∀ j, k ≤ j → j < 16 → g j = h j) → (loopOf g h k m).run Try.prog w = .ok (some false, ()) w) := by
  intro m
  induction m with
  | zero =>
    intro k hk
    exact ⟨fun _ => rfl, fun a => absurd (fun j h1 h2 => by omega) a⟩
  | succ m ih =>
    intro k hk
    have step : (loopOf g h k (m + 1)).run Try.prog w = if g k = h k then (loopOf g h (k + 1) m).run Try.prog w else .ok (some false, ()) w := by
      unfold loopOf
      rw [List.range'_succ, List.forIn_cons]
      simp only [Sem.run_bind, part5 g k (by omega), part5 h k (by omega), Result.andThen_ok]
      rw [show (9999 : Nat) = 9998 + 1 from rfl, run_equalIn_int w 9998 5 .u8 .u8 (g k) (h k) Try.underlying5]
      simp only [Result.andThen_ok]
      by_cases e : g k = h k
      · have e1 : (!(g k == h k)) = false := by simp [e]
        simp only [e1, Bool.false_eq_true, if_false, Sem.run_pure, Result.andThen_ok, if_pos e]
      · have e1 : (!(g k == h k)) = true := by simp [e]
        simp only [e1, if_true, Sem.run_pure, Result.andThen_ok, if_neg e]
    rw [step]
    by_cases e : g k = h k
    · rw [if_pos e]
      have := ih (k + 1) (by omega)
      refine ⟨fun a => this.1 (fun j h1 h2 => a j (by omega) h2), fun a => this.2 (fun b => a (fun j h1 h2 => ?_))⟩
      by_cases ej : j = k
      · rw [ej]; exact e
      · exact b j (by omega) h2
    · rw [if_neg e]
      exact ⟨fun a => absurd (a k (Nat.le_refl _) (by omega)) e, fun _ => rfl⟩

theorem eq22 (g h : Nat → Int) (hg : Byt g) (hh : Byt h) (w : World) : (Op.equalIn 10000 22 (.agg (idOf g)) (.agg (idOf h))).run Try.prog w = .ok (decide (num g = num h)) w := by
  rw [show (10000 : Nat) = 9999 + 1 from rfl, Op.equalIn]
  simp only [Sem.run_bind, run_underlying Try.underlying22, Result.andThen_ok]
  simp only [Std.Legacy.Range.forIn_eq_forIn_range', Std.Legacy.Range.size, Nat.sub_zero, Nat.add_sub_cancel, Nat.div_one, Try.sizeOf5, Result.andThen_ok]
  by_cases a : ∀ j, 0 ≤ j → j < 16 → g j = h j
  · have := (eqLoop g h w 16 0 rfl).1 a
    unfold loopOf at this
    rw [this]
    simp only [Result.andThen_ok]
    rw [decide_eq_true (num_same (fun j hj => a j (Nat.zero_le _) hj))]; rfl
  · have := (eqLoop g h w 16 0 rfl).2 a
    unfold loopOf at this
    rw [this]
    simp only [Result.andThen_ok]
    rw [decide_eq_false (fun e => a (fun j _ hj => num_inj hg hh e j hj))]; rfl
theorem eq32 (g h : Nat → Int) (hg : Byt g) (hh : Byt h) (w : World) : (Op.equalIn 10000 32 (.agg (idOf g)) (.agg (idOf h))).run Try.prog w = .ok (decide (num g = num h)) w := by
  rw [show (10000 : Nat) = 9999 + 1 from rfl, Op.equalIn]
  simp only [Sem.run_bind, run_underlying Try.underlying32, Result.andThen_ok]
  simp only [Std.Legacy.Range.forIn_eq_forIn_range', Std.Legacy.Range.size, Nat.sub_zero, Nat.add_sub_cancel, Nat.div_one, Try.sizeOf5, Result.andThen_ok]
  by_cases a : ∀ j, 0 ≤ j → j < 16 → g j = h j
  · have := (eqLoop g h w 16 0 rfl).1 a
    unfold loopOf at this
    rw [this]
    simp only [Result.andThen_ok]
    rw [decide_eq_true (num_same (fun j hj => a j (Nat.zero_le _) hj))]; rfl
  · have := (eqLoop g h w 16 0 rfl).2 a
    unfold loopOf at this
    rw [this]
    simp only [Result.andThen_ok]
    rw [decide_eq_false (fun e => a (fun j _ hj => num_inj hg hh e j hj))]; rfl
end Go.Proofs.Qxb6604152a.Ids
