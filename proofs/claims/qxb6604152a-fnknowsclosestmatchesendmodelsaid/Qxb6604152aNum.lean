/-
  16 bytes as a number, big end first: plain mathematics.
-/
namespace Go.Proofs.Qxb6604152a.Num

def Byt (g : Nat → Int) : Prop := ∀ i, i < 16 → 0 ≤ g i ∧ g i ≤ 255
def pw : Nat → Int
  | 0 => 1
  | d + 1 => 256 * pw d
/-- The number of the last d bytes. -/
def suf (g : Nat → Int) : Nat → Int
  | 0 => 0
  | d + 1 => g (15 - d) * pw d + suf g d
def num (g : Nat → Int) : Int := suf g 16
def big : Int := 340282366920938463463374607431768211456

theorem pw_pos (d : Nat) : 1 ≤ pw d := by
  induction d with
  | zero => simp [pw]
  | succ d ih => simp only [pw]; omega
theorem pw16 : pw 16 = big := by decide
theorem suf_bd {g : Nat → Int} (h : Byt g) : ∀ d, d ≤ 16 → 0 ≤ suf g d ∧ suf g d < pw d := by
  intro d
  induction d with
  | zero => intro _; simp [suf, pw]
  | succ d ih =>
    intro hd
    have i := ih (by omega)
    have b := h (15 - d) (by omega)
    have p := pw_pos d
    have m1 : 0 ≤ g (15 - d) * pw d := Int.mul_nonneg b.1 (by omega)
    have m2 : g (15 - d) * pw d ≤ 255 * pw d := Int.mul_le_mul_of_nonneg_right b.2 (by omega)
    simp only [suf, pw]; omega
theorem num_bd {g : Nat → Int} (h : Byt g) : 0 ≤ num g ∧ num g < big := by
  have := suf_bd h 16 (by omega)
  rw [pw16] at this; exact this
theorem suf_lt {g h : Nat → Int} (hg : Byt g) (hh : Byt h) {d : Nat} (hd : d < 16) (hlt : g (15 - d) < h (15 - d)) : suf g (d + 1) < suf h (d + 1) := by
  have i := suf_bd hg d (by omega)
  have j := suf_bd hh d (by omega)
  have p := pw_pos d
  have m : (g (15 - d) + 1) * pw d ≤ h (15 - d) * pw d := Int.mul_le_mul_of_nonneg_right (by omega) (by omega)
  rw [Int.add_mul, Int.one_mul] at m
  simp only [suf]; omega
theorem suf_prefix {g h : Nat → Int} : ∀ k, k ≤ 16 → (∀ j, j < k → g j = h j) → suf g 16 - suf h 16 = suf g (16 - k) - suf h (16 - k) := by
  intro k
  induction k with
  | zero => intro _ _; rfl
  | succ k ih =>
    intro hk he
    rw [ih (by omega) (fun j hj => he j (by omega))]
    have e : 16 - k = (16 - (k + 1)) + 1 := by omega
    rw [e]
    simp only [suf]
    rw [show 15 - (16 - (k + 1)) = k from by omega, he k (by omega)]
    omega
theorem num_first {g h : Nat → Int} (hg : Byt g) (hh : Byt h) {k : Nat} (hk : k < 16) (he : ∀ j, j < k → g j = h j) (hlt : g k < h k) : num g < num h := by
  have e := suf_prefix k (by omega) he
  have l := suf_lt hg hh (d := 15 - k) (by omega) (by rw [show 15 - (15 - k) = k from by omega]; exact hlt)
  rw [show 15 - k + 1 = 16 - k from by omega] at l
  unfold num; omega
theorem num_same {g h : Nat → Int} (he : ∀ j, j < 16 → g j = h j) : num g = num h := by
  have e := suf_prefix 16 (by omega) he
  have z : ∀ g : Nat → Int, suf g 0 = 0 := fun _ => rfl
  rw [Nat.sub_self, z, z] at e
  unfold num
  omega
theorem num_inj {g h : Nat → Int} (hg : Byt g) (hh : Byt h) (e : num g = num h) : ∀ j, j < 16 → g j = h j := by
  have key : ∀ k, k ≤ 16 → ∀ j, j < k → g j = h j := by
    intro k
    induction k with
    | zero => intro _ j hj; omega
    | succ k ih =>
      intro hk j hj
      by_cases hjk : j = k
      · subst hjk
        refine Classical.byContradiction fun hne => ?_
        rcases Int.lt_or_gt_of_ne hne with h1 | h1
        · have := num_first hg hh (by omega) (ih (by omega)) h1; omega
        · have := num_first hh hg (by omega) (fun i hi => (ih (by omega) i hi).symm) h1; omega
      · exact ih (by omega) j (by omega)
  exact fun j hj => key 16 (by omega) j hj

/-! ### the difference -/
def bor (a b : Nat → Int) : Nat → Int
  | 0 => 0
  | d + 1 => if a (15 - d) - b (15 - d) - bor a b d < 0 then 1 else 0
def subId (a b : Nat → Int) (i : Nat) : Int :=
  if a i - b i - bor a b (15 - i) < 0 then a i - b i - bor a b (15 - i) + 256 else a i - b i - bor a b (15 - i)
theorem bor_01 (a b : Nat → Int) (d : Nat) : bor a b d = 0 ∨ bor a b d = 1 := by
  cases d with
  | zero => exact Or.inl rfl
  | succ d => simp only [bor]; split <;> simp
theorem sub_byt {a b : Nat → Int} (ha : Byt a) (hb : Byt b) : Byt (subId a b) := by
  intro i hi
  have x := ha i hi
  have y := hb i hi
  have z := bor_01 a b (15 - i)
  unfold subId
  split <;> omega
theorem sub_suf {a b : Nat → Int} : ∀ d, d ≤ 16 → suf (subId a b) d = suf a d - suf b d + bor a b d * pw d := by
  intro d
  induction d with
  | zero => intro _; simp [suf, bor]
  | succ d ih =>
    intro hd
    have i := ih (by omega)
    simp only [suf, i]
    have hs : subId a b (15 - d) = a (15 - d) - b (15 - d) - bor a b d + 256 * bor a b (d + 1) := by
      unfold subId
      rw [show 15 - (15 - d) = d from by omega]
      simp only [bor]
      split <;> omega
    rw [hs]
    simp only [pw, Int.add_mul, Int.sub_mul]
    have e : bor a b (d + 1) * (256 * pw d) = 256 * bor a b (d + 1) * pw d := by
      rw [← Int.mul_assoc, Int.mul_comm (bor a b (d + 1)) 256]
    rw [e]
    omega
theorem sub_num {a b : Nat → Int} (ha : Byt a) (hb : Byt b) : num (subId a b) = (num a - num b) % big := by
  have e := sub_suf (a := a) (b := b) 16 (by omega)
  have r := num_bd (sub_byt ha hb)
  have x := num_bd ha
  have y := num_bd hb
  rw [pw16] at e
  have e2 : num (subId a b) = num a - num b + bor a b 16 * big := e
  rcases bor_01 a b 16 with h | h
  · rw [h] at e2; unfold big at *; omega
  · rw [h] at e2; unfold big at *; omega
def c3 (x y : Int) : Int := if x < y then -1 else if y < x then 1 else 0
end Go.Proofs.Qxb6604152a.Num
