/-
  The counting sort's arrays as functions: plain mathematics.
-/
import Derived.Test.Qxb6603807aMem
import Derived.Test.Qxb6603807aRank
namespace Go.Proofs.Qxb6603807a.Mem
open Go.Proofs.Qxb6603807a.Rank

theorem hid {p : Prop} (h : p) : Go.RowKit.Hid p := h
def keyOf (F : Nat → Int) : Nat → Int := fun i => F (i * 4)

def cntEq (F : Nat → Int) (x : Int) (k v : Nat) : Int := (cnt k (fun j => decide (keyOf F j - x + 1 = (v : Int))) : Nat)
def cntLe (F : Nat → Int) (x : Int) (k v : Nat) : Int := (cnt k (fun j => decide (keyOf F j - x + 1 ≤ (v : Int))) : Nat)
def cntAt (F : Nat → Int) (x : Int) (k v : Nat) : Int := (cnt k (fun j => decide (keyOf F j - x = (v : Int))) : Nat)
theorem cntEq_bd (F : Nat → Int) (x : Int) (k v : Nat) : 0 ≤ cntEq F x k v ∧ cntEq F x k v ≤ k := by
  unfold cntEq
  have := cnt_le k (fun j => decide (keyOf F j - x + 1 = (v : Int)))
  omega
theorem cntLe_bd (F : Nat → Int) (x : Int) (k v : Nat) : 0 ≤ cntLe F x k v ∧ cntLe F x k v ≤ k := by
  unfold cntLe
  have := cnt_le k (fun j => decide (keyOf F j - x + 1 ≤ (v : Int)))
  omega
theorem cntAt_bd (F : Nat → Int) (x : Int) (k v : Nat) : 0 ≤ cntAt F x k v ∧ cntAt F x k v ≤ k := by
  unfold cntAt
  have := cnt_le k (fun j => decide (keyOf F j - x = (v : Int)))
  omega
theorem cntEq_zero (F : Nat → Int) (x : Int) (v : Nat) : cntEq F x 0 v = 0 := rfl
theorem cntEq_step (F : Nat → Int) (x : Int) (k : Nat) (hx : x ≤ keyOf F k) (v : Nat) :
    upd (cntEq F x k) (keyOf F k - x + 1).toNat (cntEq F x k (keyOf F k - x + 1).toNat + 1) v = cntEq F x (k + 1) v := by
  unfold upd
  by_cases h : v = (keyOf F k - x + 1).toNat
  · rw [if_pos h, ← h]
    unfold cntEq
    simp only [cnt]
    rw [if_pos (by simp; omega)]; omega
  · rw [if_neg h]
    unfold cntEq
    simp only [cnt]
    rw [if_neg (by simp; omega)]; rfl
theorem cntAt_step (F : Nat → Int) (x : Int) (k : Nat) (hx : x ≤ keyOf F k) (v : Nat) :
    cntAt F x (k + 1) v = if v = (keyOf F k - x).toNat then cntAt F x k v + 1 else cntAt F x k v := by
  by_cases h : v = (keyOf F k - x).toNat
  · rw [if_pos h]
    unfold cntAt
    simp only [cnt]
    rw [if_pos (by simp; omega)]; omega
  · rw [if_neg h]
    unfold cntAt
    simp only [cnt]
    rw [if_neg (by simp; omega)]; rfl

/-- While the sums are made: below i they are made, from i on not yet. -/
def mix (F : Nat → Int) (x : Int) (n i v : Nat) : Int := if v < i then cntLe F x n v else cntEq F x n v
theorem mix_bd (F : Nat → Int) (x : Int) (n i v : Nat) : 0 ≤ mix F x n i v ∧ mix F x n i v ≤ n := by
  unfold mix; split
  · exact cntLe_bd F x n v
  · exact cntEq_bd F x n v
theorem mix_start (F : Nat → Int) (x : Int) (n : Nat) (hx : ∀ j, j < n → x ≤ keyOf F j) (v : Nat) : cntEq F x n v = mix F x n 1 v := by
  unfold mix
  by_cases h : v < 1
  · rw [if_pos h]
    obtain rfl : v = 0 := by omega
    unfold cntEq cntLe
    rw [cnt_false n _ (fun i hi => by have := hx i hi; simp; omega), cnt_false n _ (fun i hi => by have := hx i hi; simp; omega)]
  · rw [if_neg h]
theorem mix_step (F : Nat → Int) (x : Int) (n i : Nat) (hi : 1 ≤ i) (v : Nat) :
    upd (mix F x n i) i (mix F x n i i + mix F x n i (i - 1)) v = mix F x n (i + 1) v := by
  have e : cntLe F x n i = cntEq F x n i + cntLe F x n (i - 1) := by
    unfold cntLe cntEq
    rw [cnt_or (P := fun j => decide (keyOf F j - x + 1 = (i : Int))) (Q := fun j => decide (keyOf F j - x + 1 ≤ ((i - 1 : Nat) : Int)))
      (fun j _ => by rw [Bool.eq_iff_iff]; simp; omega) (fun j _ => by simp; omega)]
    omega
  unfold upd
  by_cases h : v = i
  · subst h
    rw [if_pos rfl]
    unfold mix
    rw [if_neg (by omega), if_pos (by omega), if_pos (by omega), e]
  · rw [if_neg h]
    unfold mix
    by_cases h2 : v < i
    · rw [if_pos h2, if_pos (by omega)]
    · rw [if_neg h2, if_neg (by omega)]

/-- While the changes are laid out: the place of the next one of each year. -/
def plc (F : Nat → Int) (x : Int) (n k v : Nat) : Int := cntLe F x n v + cntAt F x k v
theorem plc_bd (F : Nat → Int) (x : Int) (n k v : Nat) : 0 ≤ plc F x n k v ∧ plc F x n k v ≤ n + k := by
  unfold plc
  have := cntLe_bd F x n v
  have := cntAt_bd F x k v
  omega
theorem plc_zero (F : Nat → Int) (x : Int) (n M v : Nat) (h : v < M) : mix F x n M v = plc F x n 0 v := by
  unfold mix plc cntAt
  rw [if_pos h]; simp [cnt]
theorem plc_at (F : Nat → Int) (x : Int) (n k : Nat) (hk : k < n) (hx : x ≤ keyOf F k) : plc F x n k (keyOf F k - x).toNat = (rank n (keyOf F) k : Nat) := by
  rw [rank_split (keyOf F) hk]
  unfold plc cntLe cntAt
  rw [cnt_congr (n := n) (Q := fun j => decide (keyOf F j < keyOf F k)) (fun j _ => by rw [Bool.eq_iff_iff]; simp; omega),
    cnt_congr (n := k) (Q := fun j => decide (keyOf F j = keyOf F k)) (fun j _ => by rw [Bool.eq_iff_iff]; simp; omega)]
  omega
theorem plc_step (F : Nat → Int) (x : Int) (n k : Nat) (hx : x ≤ keyOf F k) (v : Nat) :
    upd (plc F x n k) (keyOf F k - x).toNat (plc F x n k (keyOf F k - x).toNat + 1) v = plc F x n (k + 1) v := by
  unfold upd plc
  rw [cntAt_step F x k hx v]
  by_cases h : v = (keyOf F k - x).toNat
  · rw [if_pos h, if_pos h, ← h]; omega
  · rw [if_neg h, if_neg h]

/-- The first k changes lie at their places. -/
def Placed (n : Nat) (F : Nat → Int) (k : Nat) (H : Nat → Int) : Prop := ∀ j, j < k → ∀ c, c < 4 → H (rank n (keyOf F) j * 4 + c) = F (j * 4 + c)
def put4 (H : Nat → Int) (p : Nat) (a b c d : Int) : Nat → Int := upd (upd (upd (upd H (p * 4) a) (p * 4 + 1) b) (p * 4 + 2) c) (p * 4 + 3) d
theorem put4_at (H F : Nat → Int) (p k c : Nat) (hc : c < 4) : put4 H p (F (k * 4)) (F (k * 4 + 1)) (F (k * 4 + 2)) (F (k * 4 + 3)) (p * 4 + c) = F (k * 4 + c) := by
  unfold put4 upd
  match c, hc with
  | 0, _ => simp
  | 1, _ => simp
  | 2, _ => simp
  | 3, _ => simp
theorem put4_other (H : Nat → Int) (p q c : Nat) (a b d e : Int) (hc : c < 4) (hpq : q ≠ p) : put4 H p a b d e (q * 4 + c) = H (q * 4 + c) := by
  unfold put4 upd
  rw [if_neg (by omega), if_neg (by omega), if_neg (by omega), if_neg (by omega)]
theorem placed_step {n : Nat} {F : Nat → Int} {k : Nat} {H : Nat → Int} (hk : k < n) (h : Placed n F k H) :
    Placed n F (k + 1) (put4 H (rank n (keyOf F) k) (F (k * 4)) (F (k * 4 + 1)) (F (k * 4 + 2)) (F (k * 4 + 3))) := by
  intro j hj c hc
  by_cases hjk : j = k
  · subst hjk; exact put4_at H F _ j c hc
  · rw [put4_other H _ _ c _ _ _ _ hc (fun e => hjk (rank_inj (keyOf F) (by omega) hk e))]
    exact h j (by omega) c hc
theorem Row.put4 {w : World} {b T n : Nat} {H : Nat → Int} (h : Row w b T n H) (p : Nat) (x0 x1 x2 x3 : Int) :
    Row ((((w.setCell ⟨b, p * 4, none⟩ (.int .i64 x0)).setCell ⟨b, p * 4 + 1, none⟩ (.int .i64 x1)).setCell ⟨b, p * 4 + 2, none⟩ (.int .i64 x2)).setCell ⟨b, p * 4 + 3, none⟩ (.int .i64 x3)) b T n (Mem.put4 H p x0 x1 x2 x3) :=
  (((h.set _ x0).set _ x1).set _ x2).set _ x3

def Min1 (n : Nat) (F : Nat → Int) (k : Nat) (x y : Int) : Prop := (∀ j, j < k → x ≤ keyOf F j ∧ keyOf F j ≤ y) ∧ (∃ j, j < n ∧ keyOf F j = x) ∧ (∃ j, j < n ∧ keyOf F j = y)
def Span (n : Nat) (f : Nat → Int) : Prop := ∀ i j, i < n → j < n → f i - f j ≤ 65536
theorem min1_span {n k : Nat} {F : Nat → Int} {x y : Int} (h : Min1 n F k x y) (hk : 1 ≤ k) (hs : Span n (keyOf F)) : x ≤ y ∧ y - x ≤ 65536 := by
  obtain ⟨h1, ⟨i, hi, rfl⟩, ⟨j, hj, rfl⟩⟩ := h
  have := h1 0 (by omega)
  have := hs j i hj hi
  omega
theorem min1_zero (n : Nat) (F : Nat → Int) (hn : 1 ≤ n) : Min1 n F 1 (F 0) (F 0) := by
  have e : keyOf F 0 = F 0 := rfl
  refine ⟨fun j hj => ?_, ⟨0, by omega, e⟩, ⟨0, by omega, e⟩⟩
  rw [show j = 0 from by omega, e]; omega
theorem min1_step {n k : Nat} {F : Nat → Int} {x y : Int} (hk : k < n) (h : Min1 n F k x y) :
    Min1 n F (k + 1) (if keyOf F k < x then keyOf F k else x) (if y < keyOf F k then keyOf F k else y) := by
  obtain ⟨h1, ⟨i, hi, hi2⟩, ⟨j, hj, hj2⟩⟩ := h
  refine ⟨fun a ha => ?_, ?_, ?_⟩
  · by_cases e : a = k
    · subst e; split <;> split <;> omega
    · have := h1 a (by omega); split <;> split <;> omega
  · by_cases e : keyOf F k < x
    · rw [if_pos e]; exact ⟨k, hk, rfl⟩
    · rw [if_neg e]; exact ⟨i, hi, hi2⟩
  · by_cases e : y < keyOf F k
    · rw [if_pos e]; exact ⟨k, hk, rfl⟩
    · rw [if_neg e]; exact ⟨j, hj, hj2⟩
theorem min1_bd {n k : Nat} {F : Nat → Int} {x y : Int} (h : Min1 n F k x y) (hb : ∀ i, i < n → -9223372036854775808 ≤ keyOf F i ∧ keyOf F i ≤ 9223372036854775807) :
    -9223372036854775808 ≤ x ∧ x ≤ 9223372036854775807 ∧ -9223372036854775808 ≤ y ∧ y ≤ 9223372036854775807 := by
  obtain ⟨_, ⟨i, hi, rfl⟩, ⟨j, hj, rfl⟩⟩ := h
  have := hb i hi
  have := hb j hj
  omega
end Go.Proofs.Qxb6603807a.Mem
