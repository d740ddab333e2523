/-
  The bottom-up merge sort: plain mathematics.
-/
import Derived.Test.Qxb6603807aRank
namespace Go.Proofs.Qxb6603807a.Merge
open Go.Proofs.Qxb6603807a.Rank

def updN (T : Nat → Nat) (k v : Nat) : Nat → Nat := fun j => if j = k then v else T j
theorem updN_at (T : Nat → Nat) (k v : Nat) : updN T k v k = v := by simp [updN]
theorem updN_ne (T : Nat → Nat) (k v j : Nat) (h : j ≠ k) : updN T k v j = T j := by simp [updN, h]

/-- On [a, b): values of [a, b), rising in the stable order. -/
def RunAt (f : Nat → Int) (e : Nat → Nat) (a b : Nat) : Prop := ∀ k, a ≤ k → k < b → a ≤ e k ∧ e k < b ∧ ∀ l, k < l → l < b → lx f (e k) (e l) = true
def Runs (f : Nat → Int) (n wd : Nat) (e : Nat → Nat) : Prop := ∀ m, m * wd < n → RunAt f e (m * wd) (min (m * wd + wd) n)
def Done (f : Nat → Int) (n wd2 lo : Nat) (T : Nat → Nat) : Prop := ∀ m, m * wd2 < lo → m * wd2 < n → RunAt f T (m * wd2) (min (m * wd2 + wd2) n)

theorem runs_one (f : Nat → Int) (n : Nat) : Runs f n 1 (fun i => i) := by
  intro m hm k hk1 hk2
  refine ⟨by omega, by omega, fun l h1 h2 => by omega⟩
theorem runs_end {f : Nat → Int} {n wd : Nat} {e : Nat → Nat} (h : Runs f n wd e) (hw : n ≤ wd) (hn : 1 ≤ n) : RunAt f e 0 n := by
  have := h 0 (by omega)
  rw [show 0 * wd = 0 from by omega, show min (0 + wd) n = n from by omega] at this
  exact this
theorem runs_done {f : Nat → Int} {n wd2 lo : Nat} {T : Nat → Nat} (h : Done f n wd2 lo T) (hl : n ≤ lo) : Runs f n wd2 T := fun m hm => h m (by omega) hm
theorem runAt_congr {f : Nat → Int} {T U : Nat → Nat} {a b : Nat} (h : RunAt f T a b) (hu : ∀ t, a ≤ t → t < b → U t = T t) : RunAt f U a b := by
  intro k h1 h2
  obtain ⟨x, y, z⟩ := h k h1 h2
  rw [hu k h1 h2]
  exact ⟨x, y, fun l hl1 hl2 => by rw [hu l (by omega) hl2]; exact z l hl1 hl2⟩
theorem left_run {f : Nat → Int} {n wd q : Nat} {e : Nat → Nat} (h : Runs f n wd e) (hlo : q * (2 * wd) < n) :
    RunAt f e (q * (2 * wd)) (min (q * (2 * wd) + wd) n) := by
  have e1 : 2 * q * wd = q * (2 * wd) := by rw [Nat.mul_comm 2 q, Nat.mul_assoc]
  have := h (2 * q) (by rw [e1]; exact hlo)
  rwa [e1] at this
theorem right_run {f : Nat → Int} {n wd q : Nat} {e : Nat → Nat} (h : Runs f n wd e) :
    RunAt f e (min (q * (2 * wd) + wd) n) (min (q * (2 * wd) + 2 * wd) n) := by
  by_cases hm : q * (2 * wd) + wd < n
  · have e1 : (2 * q + 1) * wd = q * (2 * wd) + wd := by
      rw [Nat.add_mul, Nat.mul_comm 2 q, Nat.mul_assoc]; omega
    have := h (2 * q + 1) (by rw [e1]; exact hm)
    rw [e1] at this
    rw [show min (q * (2 * wd) + wd) n = q * (2 * wd) + wd from by omega, show q * (2 * wd) + 2 * wd = q * (2 * wd) + wd + wd from by omega]
    exact this
  · intro k h1 h2; omega
theorem done_zero (f : Nat → Int) (n wd2 : Nat) (T : Nat → Nat) : Done f n wd2 0 T := fun m hm => by omega
theorem done_step {f : Nat → Int} {n wd2 q : Nat} {T U : Nat → Nat} (h : Done f n wd2 (q * wd2) T) (hu : ∀ t, t < q * wd2 → U t = T t)
    (hr : RunAt f U (q * wd2) (min (q * wd2 + wd2) n)) (_hw : 1 ≤ wd2) : Done f n wd2 ((q + 1) * wd2) U := by
  intro m hm hn
  by_cases hmq : m < q
  · have h1 : (m + 1) * wd2 ≤ q * wd2 := Nat.mul_le_mul_right _ hmq
    rw [Nat.add_mul, Nat.one_mul] at h1
    exact runAt_congr (h m (by omega) hn) (fun t _ h3 => hu t (by omega))
  · have h2 : m < q + 1 := by
      refine Classical.byContradiction fun hc => ?_
      have := Nat.mul_le_mul_right wd2 (show q + 1 ≤ m by omega)
      omega
    obtain rfl : m = q := by omega
    exact hr

/-- The merge's state: of [lo, mid) and [mid, hi) the first have been taken; T from lo to k bears them in order. -/
def MS (f : Nat → Int) (e T0 T : Nat → Nat) (lo mid hi i j k : Nat) : Prop :=
  lo ≤ i ∧ i ≤ mid ∧ mid ≤ j ∧ j ≤ hi ∧ k + mid = i + j ∧ (∀ t, t < lo → T t = T0 t) ∧
  ∀ t, lo ≤ t → t < k → lo ≤ T t ∧ T t < hi ∧ (i < mid → lx f (T t) (e i) = true) ∧ (j < hi → lx f (T t) (e j) = true) ∧ ∀ s, t < s → s < k → lx f (T t) (T s) = true
theorem ms_zero (f : Nat → Int) (e T : Nat → Nat) (lo mid hi : Nat) (h1 : lo ≤ mid) (h2 : mid ≤ hi) : MS f e T T lo mid hi lo mid lo :=
  ⟨Nat.le_refl _, h1, Nat.le_refl _, h2, by omega, fun _ _ => rfl, fun t _ _ => by omega⟩
theorem ms_i {f : Nat → Int} {e T0 T : Nat → Nat} {lo mid hi i j k : Nat} (h : MS f e T0 T lo mid hi i j k) (hL : RunAt f e lo mid) (hR : RunAt f e mid hi)
    (hi1 : i < mid) (hc : j < hi → ¬ f (e j) < f (e i)) : MS f e T0 (updN T k (e i)) lo mid hi (i + 1) j (k + 1) := by
  obtain ⟨a, b, c, d, g, hT0, hT⟩ := h
  obtain ⟨p1, p2, p3⟩ := hL i a hi1
  refine ⟨by omega, by omega, c, d, by omega, fun t ht => by rw [updN_ne _ _ _ _ (by omega)]; exact hT0 t ht, fun t h1 h2 => ?_⟩
  by_cases htk : t = k
  · subst htk
    rw [updN_at]
    refine ⟨p1, by omega, fun hx => p3 (i + 1) (by omega) hx, fun hx => ?_, fun s hs1 hs2 => by omega⟩
    have := hc hx
    obtain ⟨r1, _, _⟩ := hR j c hx
    rw [lx_iff]; omega
  · rw [updN_ne _ _ _ _ htk]
    obtain ⟨u1, u2, u3, u4, u5⟩ := hT t h1 (by omega)
    refine ⟨u1, u2, fun hx => lx_tr f _ _ _ (u3 hi1) (p3 (i + 1) (by omega) hx), u4, fun s hs1 hs2 => ?_⟩
    by_cases hsk : s = k
    · subst hsk; rw [updN_at]; exact u3 hi1
    · rw [updN_ne _ _ _ _ hsk]; exact u5 s hs1 (by omega)
theorem ms_j {f : Nat → Int} {e T0 T : Nat → Nat} {lo mid hi i j k : Nat} (h : MS f e T0 T lo mid hi i j k) (hR : RunAt f e mid hi)
    (hj1 : j < hi) (hc : i < mid → f (e j) < f (e i)) : MS f e T0 (updN T k (e j)) lo mid hi i (j + 1) (k + 1) := by
  obtain ⟨a, b, c, d, g, hT0, hT⟩ := h
  obtain ⟨p1, p2, p3⟩ := hR j c hj1
  refine ⟨a, b, by omega, by omega, by omega, fun t ht => by rw [updN_ne _ _ _ _ (by omega)]; exact hT0 t ht, fun t h1 h2 => ?_⟩
  by_cases htk : t = k
  · subst htk
    rw [updN_at]
    refine ⟨by omega, p2, fun hx => ?_, fun hx => p3 (j + 1) (by omega) hx, fun s hs1 hs2 => by omega⟩
    have := hc hx
    rw [lx_iff]; omega
  · rw [updN_ne _ _ _ _ htk]
    obtain ⟨u1, u2, u3, u4, u5⟩ := hT t h1 (by omega)
    refine ⟨u1, u2, u3, fun hx => lx_tr f _ _ _ (u4 hj1) (p3 (j + 1) (by omega) hx), fun s hs1 hs2 => ?_⟩
    by_cases hsk : s = k
    · subst hsk; rw [updN_at]; exact u4 hj1
    · rw [updN_ne _ _ _ _ hsk]; exact u5 s hs1 (by omega)
theorem ms_end {f : Nat → Int} {e T0 T : Nat → Nat} {lo mid hi k : Nat} (h : MS f e T0 T lo mid hi mid hi k) : k = hi ∧ (∀ t, t < lo → T t = T0 t) ∧ RunAt f T lo hi := by
  obtain ⟨a, b, c, d, g, hT0, hT⟩ := h
  obtain rfl : k = hi := by omega
  refine ⟨rfl, hT0, fun t h1 h2 => ?_⟩
  obtain ⟨u1, u2, _, _, u5⟩ := hT t h1 h2
  exact ⟨u1, u2, u5⟩
theorem ms_bd {f : Nat → Int} {e T0 T : Nat → Nat} {lo mid hi i j k : Nat} (h : MS f e T0 T lo mid hi i j k) : lo ≤ i ∧ i ≤ mid ∧ mid ≤ j ∧ j ≤ hi ∧ k + mid = i + j :=
  ⟨h.1, h.2.1, h.2.2.1, h.2.2.2.1, h.2.2.2.2.1⟩
end Go.Proofs.Qxb6603807a.Merge
