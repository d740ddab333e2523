/-
  The calendar's plain mathematics: no Go in sight.
-/
namespace Go.Proofs.Qxb6603807a.Cal

def db (y : Int) : Int := 365 * (y - 1) + (y - 1) / 4 - (y - 1) / 100 + (y - 1) / 400
def ys (y : Int) : Int := db y + 366
def lpB (y : Int) : Bool := decide (y % 400 = 0) || (decide (y % 4 = 0) && !decide (y % 100 = 0))
def yl (y : Int) : Int := if lpB y = true then 366 else 365

theorem ys_zero : ys 0 = 0 := by decide
theorem lp_iff (y : Int) : lpB y = true ↔ (y % 400 = 0 ∨ (y % 4 = 0 ∧ ¬ y % 100 = 0)) := by
  unfold lpB; simp
theorem ys_succ (y : Int) : ys (y + 1) = ys y + yl y := by
  unfold yl
  by_cases h : lpB y = true
  · rw [if_pos h]; rw [lp_iff] at h; unfold ys db; omega
  · rw [if_neg h]; rw [lp_iff] at h; unfold ys db; omega
theorem yl_bd (y : Int) : 365 ≤ yl y ∧ yl y ≤ 366 := by unfold yl; split <;> omega
theorem ys_lo (y : Int) (h : 0 ≤ y) : 365 * y ≤ ys y := by unfold ys db; omega
theorem ys_hi (y : Int) (h : 0 ≤ y) : ys y ≤ 366 * y := by unfold ys db; omega
theorem ys_cycle (q r : Int) : ys (400 * q + r) = q * 146097 + ys r := by unfold ys db; omega
theorem ys_mono (a b : Int) (h : a ≤ b) : ys a ≤ ys b := by unfold ys db; omega
theorem ys_lt (a b : Int) (h : ys a < ys b) : a < b := by
  refine Classical.byContradiction fun hn => ?_
  have := ys_mono b a (by omega)
  omega
theorem ys_uniq (a b n : Int) (h1 : ys a ≤ n) (h2 : n < ys (a + 1)) (h3 : ys b ≤ n) (h4 : n < ys (b + 1)) : a = b := by
  have := ys_lt a (b + 1) (by omega)
  have := ys_lt b (a + 1) (by omega)
  omega
end Go.Proofs.Qxb6603807a.Cal
