/-
  The ring: plain mathematics.
-/
import Derived.Test.Qxb6604152aNum
import Derived.Test.Qxb6604152aRank
namespace Go.Proofs.Qxb6604152a.Ring
open Go.Proofs.Qxb6604152a.Num
open Go.Proofs.Qxb6604152a.Rank

def Asc (n : Nat) (x : Nat → Int) : Prop := ∀ i j, i < j → j < n → x i < x j
def Bd (n : Nat) (x : Nat → Int) : Prop := ∀ k, k < n → 0 ≤ x k ∧ x k < big
def low (n : Nat) (x : Nat → Int) (t : Int) : Nat := cnt n (fun k => decide (x k < t))

theorem low_spec {n : Nat} {x : Nat → Int} (t : Int) (h : Asc n x) : low n x t ≤ n ∧ (∀ k, k < low n x t → x k < t) ∧ (∀ k, low n x t ≤ k → k < n → t ≤ x k) := by
  induction n with
  | zero => exact ⟨Nat.le_refl _, fun k hk => by simp [low, cnt] at hk, fun k _ hk => by omega⟩
  | succ n ih =>
    obtain ⟨a, b, c⟩ := ih (fun i j hij hj => h i j hij (by omega))
    have e : low (n + 1) x t = low n x t + (if x n < t then 1 else 0) := by simp [low, cnt]
    by_cases hx : x n < t
    · rw [if_pos hx] at e
      have full : low n x t = n := by
        refine Classical.byContradiction fun hne => ?_
        have := c (low n x t) (Nat.le_refl _) (by omega)
        have := h (low n x t) n (by omega) (by omega)
        omega
      rw [e, full]
      refine ⟨Nat.le_refl _, fun k hk => ?_, fun k h1 h2 => by omega⟩
      by_cases ek : k = n
      · rw [ek]; exact hx
      · exact b k (by omega)
    · rw [if_neg hx] at e
      rw [e]
      refine ⟨by omega, fun k hk => b k (by omega), fun k h1 h2 => ?_⟩
      by_cases ek : k = n
      · rw [ek]; omega
      · exact c k (by omega) (by omega)

/-- Where the two ends lie. -/
theorem ends_at {n a : Nat} (hn : 2 ≤ n) (ha : a ≤ n) :
    (a + n / 2) % n < n ∧ (a + n / 2 - 1) % n < n ∧
    (((a + n / 2 - 1) % n + 1 < n ∧ (a + n / 2) % n = (a + n / 2 - 1) % n + 1) ∨ ((a + n / 2 - 1) % n + 1 = n ∧ (a + n / 2) % n = 0)) ∧
    (a + n / 2 < n ∧ (a + n / 2) % n = a + n / 2 ∨ n ≤ a + n / 2 ∧ (a + n / 2) % n = a + n / 2 - n) := by
  have h2 : (a + n / 2) % n = if a + n / 2 < n then a + n / 2 else a + n / 2 - n := by
    by_cases h : a + n / 2 < n
    · rw [if_pos h, Nat.mod_eq_of_lt h]
    · rw [if_neg h, Nat.mod_eq_sub_mod (by omega), Nat.mod_eq_of_lt (by omega)]
  have h1 : (a + n / 2 - 1) % n = if a + n / 2 - 1 < n then a + n / 2 - 1 else a + n / 2 - 1 - n := by
    by_cases h : a + n / 2 - 1 < n
    · rw [if_pos h, Nat.mod_eq_of_lt h]
    · rw [if_neg h, Nat.mod_eq_sub_mod (by omega), Nat.mod_eq_of_lt (by omega)]
  rw [h1, h2]
  split <;> split <;> omega

theorem meet {n : Nat} {x : Nat → Int} (h : Asc n x) (hb : Bd n x) {i1 i2 : Nat} (l1 : i1 < n) (l2 : i2 < n) (he : (i1 + 1 < n ∧ i2 = i1 + 1) ∨ (i1 + 1 = n ∧ i2 = 0)) :
    ∀ k, k < n → k ≠ i1 → ¬ (x k - x i1) % big < (x i2 - x i1) % big := by
  intro k hk hne
  have b1 := hb i1 l1
  have b2 := hb i2 l2
  have bk := hb k hk
  have a1 : k < i1 → x k < x i1 := fun hh => h k i1 hh l1
  have a2 : i1 < k → x i1 < x k := fun hh => h i1 k hh hk
  have a3 : i2 < k → x i2 < x k := fun hh => h i2 k hh hk
  have a4 : i1 < i2 → x i1 < x i2 := fun hh => h i1 i2 hh l2
  have a5 : k = i2 → x k = x i2 := fun e => by rw [e]
  have a6 : i2 < i1 → x i2 < x i1 := fun hh => h i2 i1 hh l1
  have a7 : i2 = i1 → x i2 = x i1 := fun e => by rw [e]
  unfold big at *
  rcases he with ⟨e1, e2⟩ | ⟨e1, e2⟩
  · have := a4 (by omega)
    by_cases hlt : k < i1
    · have := a1 hlt; omega
    · have := a2 (by omega)
      by_cases hk2 : k = i2
      · have := a5 hk2; omega
      · have := a3 (by omega); omega
  · have := a1 (by omega)
    by_cases hk2 : k = i2
    · have := a5 hk2; omega
    · have := a3 (by omega)
      have := a6 (by omega)
      omega

theorem self_out {n : Nat} {x : Nat → Int} (h : Asc n x) (hb : Bd n x) {t : Int} (ht : 0 ≤ t ∧ t < big) (hn : 2 ≤ n) {i1 i2 : Nat}
    (e1 : i1 = (low n x t + n / 2 - 1) % n) (e2 : i2 = (low n x t + n / 2) % n) :
    (t - x i1) % big = 0 ∨ ¬ (t - x i1) % big < (x i2 - x i1) % big := by
  obtain ⟨ha, hlo, hhi⟩ := low_spec t h
  obtain ⟨l2, l1, he, hw⟩ := ends_at (n := n) (a := low n x t) hn ha
  rw [← e1, ← e2] at he
  rw [← e1] at l1
  rw [← e2] at l2 hw
  have b1 := hb i1 l1
  have b2 := hb i2 l2
  have a4 : i1 < i2 → x i1 < x i2 := fun hh => h i1 i2 hh l2
  have a6 : i2 < i1 → x i2 < x i1 := fun hh => h i2 i1 hh l1
  have c1 : i1 < low n x t → x i1 < t := fun hh => hlo i1 hh
  have c2 : low n x t ≤ i1 → t ≤ x i1 := fun hh => hhi i1 hh l1
  have c3' : i2 < low n x t → x i2 < t := fun hh => hlo i2 hh
  have c4 : low n x t ≤ i2 → t ≤ x i2 := fun hh => hhi i2 hh l2
  unfold big at *
  rcases he with ⟨f1, f2⟩ | ⟨f1, f2⟩
  · have := a4 (by omega)
    by_cases p : i1 < low n x t
    · have := c1 p
      by_cases q : i2 < low n x t
      · have := c3' q; omega
      · exfalso; omega
    · have := c2 (by omega)
      have := c4 (by omega)
      by_cases z : t = x i1
      · left; omega
      · right; omega
  · have := a6 (by omega)
    by_cases p : i1 < low n x t
    · exfalso; omega
    · have := c2 (by omega)
      by_cases q : i2 < low n x t
      · have := c3' q
        by_cases z : t = x i1
        · left; omega
        · right; omega
      · exfalso; omega
end Go.Proofs.Qxb6604152a.Ring
