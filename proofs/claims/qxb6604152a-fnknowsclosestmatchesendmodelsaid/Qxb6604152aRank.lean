/-
  Counting and ranks: plain mathematics, no Go in sight.
-/
namespace Go.Proofs.Qxb6604152a.Rank

def cnt : Nat → (Nat → Bool) → Nat
  | 0, _ => 0
  | n + 1, P => cnt n P + (if P n = true then 1 else 0)

theorem cnt_le (n : Nat) (P : Nat → Bool) : cnt n P ≤ n := by
  induction n with
  | zero => simp [cnt]
  | succ n ih => simp only [cnt]; split <;> omega
theorem cnt_congr {n : Nat} {P Q : Nat → Bool} (h : ∀ i, i < n → P i = Q i) : cnt n P = cnt n Q := by
  induction n with
  | zero => rfl
  | succ n ih =>
    simp only [cnt]
    rw [ih (fun i hi => h i (by omega)), h n (by omega)]
theorem cnt_mono {n : Nat} {P Q : Nat → Bool} (h : ∀ i, i < n → P i = true → Q i = true) : cnt n P ≤ cnt n Q := by
  induction n with
  | zero => simp [cnt]
  | succ n ih =>
    have := ih (fun i hi => h i (by omega))
    have hn := h n (by omega)
    simp only [cnt]
    by_cases hp : P n = true
    · rw [if_pos hp, if_pos (hn hp)]; omega
    · rw [if_neg hp]; omega
theorem cnt_strict {n : Nat} {P Q : Nat → Bool} (h : ∀ i, i < n → P i = true → Q i = true) {x : Nat} (hx : x < n) (hq : Q x = true) (hp : ¬ P x = true) : cnt n P < cnt n Q := by
  induction n with
  | zero => omega
  | succ n ih =>
    have hn := h n (by omega)
    simp only [cnt]
    by_cases hxn : x = n
    · subst hxn
      rw [if_neg hp, if_pos hq]
      have := cnt_mono (fun i (hi : i < x) => h i (by omega))
      omega
    · have := ih (fun i hi => h i (by omega)) (by omega)
      by_cases hpn : P n = true
      · rw [if_pos hpn, if_pos (hn hpn)]; omega
      · rw [if_neg hpn]; omega
theorem cnt_true (n : Nat) : cnt n (fun _ => true) = n := by
  induction n with
  | zero => rfl
  | succ n ih => simp [cnt, ih]
theorem cnt_false (n : Nat) (P : Nat → Bool) (h : ∀ i, i < n → P i = false) : cnt n P = 0 := by
  induction n with
  | zero => rfl
  | succ n ih => simp [cnt, ih (fun i hi => h i (by omega)), h n (by omega)]
theorem cnt_or {n : Nat} {P Q R : Nat → Bool} (h : ∀ i, i < n → R i = (P i || Q i)) (hd : ∀ i, i < n → ¬ (P i = true ∧ Q i = true)) : cnt n R = cnt n P + cnt n Q := by
  induction n with
  | zero => rfl
  | succ n ih =>
    have e := ih (fun i hi => h i (by omega)) (fun i hi => hd i (by omega))
    have hn := h n (by omega)
    have dn := hd n (by omega)
    simp only [cnt]
    cases hp : P n <;> cases hq : Q n <;> simp [hn, hp, hq] at * <;> omega
theorem cnt_cut {k n : Nat} (hk : k ≤ n) {P Q : Nat → Bool} (h : ∀ i, i < k → P i = Q i) (h0 : ∀ i, k ≤ i → i < n → P i = false) : cnt n P = cnt k Q := by
  induction n with
  | zero => obtain rfl : k = 0 := by omega
            rfl
  | succ n ih =>
    by_cases hkn : k = n + 1
    · subst hkn; exact cnt_congr h
    · simp only [cnt]
      rw [ih (by omega) (fun i h1 h2 => h0 i h1 (by omega)), h0 n (by omega) (by omega)]; simp

/-- A strictly rising function from below n into below n stands still. -/
theorem rise_id {n : Nat} {r : Nat → Nat} (hr : ∀ k, k < n → r k < n) (hs : ∀ k l, k < l → l < n → r k < r l) : ∀ k, k < n → r k = k := by
  have lo : ∀ k, k < n → k ≤ r k := by
    intro k
    induction k with
    | zero => intro _; omega
    | succ k ih => intro hk; have := ih (by omega); have := hs k (k + 1) (by omega) hk; omega
  have hi : ∀ d k, k + d + 1 = n → r k ≤ k := by
    intro d
    induction d with
    | zero => intro k hk; have := hr k (by omega); omega
    | succ d ih => intro k hk; have := ih (k + 1) (by omega); have := hs k (k + 1) (by omega) (by omega); omega
  intro k hk
  have := lo k hk
  have := hi (n - k - 1) k (by omega)
  omega

/-- Of an enumeration that rises in a strict order: the k-th has k below it. -/
theorem enum_rank {n : Nat} {lt : Nat → Nat → Bool} {e : Nat → Nat} (he : ∀ k, k < n → e k < n) (hirr : ∀ a, a < n → ¬ lt a a = true)
    (htr : ∀ a b c, a < n → b < n → c < n → lt a b = true → lt b c = true → lt a c = true) (hs : ∀ k l, k < l → l < n → lt (e k) (e l) = true) :
    ∀ k, k < n → cnt n (fun j => lt j (e k)) = k := by
  refine rise_id (fun k hk => ?_) (fun k l hkl hl => ?_)
  · have := cnt_strict (n := n) (P := fun j => lt j (e k)) (Q := fun _ => true) (fun _ _ _ => rfl) (he k hk) rfl (hirr _ (he k hk))
    rw [cnt_true] at this; exact this
  · exact cnt_strict (fun i hi h => htr i (e k) (e l) hi (he k (by omega)) (he l hl) h (hs k l hkl hl)) (he k (by omega)) (hs k l hkl hl) (hirr _ (he k (by omega)))

theorem pigeon : ∀ (n : Nat) (f : Nat → Nat), (∀ i, i < n → f i < n) → (∀ i j, i < n → j < n → f i = f j → i = j) → ∀ p, p < n → ∃ i, i < n ∧ f i = p := by
  intro n
  induction n with
  | zero => intro f _ _ p hp; omega
  | succ n ih =>
    intro f hb hi p hp
    by_cases hfn : f n = n
    · by_cases hpn : p = n
      · exact ⟨n, by omega, by omega⟩
      · obtain ⟨i, h1, h2⟩ := ih f (fun i hin => by
          have a := hb i (by omega)
          by_cases e : f i = n
          · have := hi i n (by omega) (by omega) (by omega); omega
          · omega) (fun i j a b c => hi i j (by omega) (by omega) c) p (by omega)
        exact ⟨i, by omega, h2⟩
    · have hfn2 : f n < n := by have := hb n (by omega); omega
      by_cases hex : ∃ i, i < n ∧ f i = n
      · by_cases hpn : p = n
        · obtain ⟨i, a, b⟩ := hex; exact ⟨i, by omega, by omega⟩
        · obtain ⟨i, h1, h2⟩ := ih (fun i => if f i = n then f n else f i) (fun i hin => by
            have a := hb i (by omega)
            by_cases e : f i = n
            · simp [e]; exact hfn2
            · simp [e]; omega) (fun i j a b c => by
            by_cases e1 : f i = n
            · by_cases e2 : f j = n
              · exact hi i j (by omega) (by omega) (by omega)
              · simp [e1, e2] at c; have := hi n j (by omega) (by omega) c; omega
            · by_cases e2 : f j = n
              · simp [e1, e2] at c; have := hi i n (by omega) (by omega) c; omega
              · simp [e1, e2] at c; exact hi i j (by omega) (by omega) c) p (by omega)
          by_cases e : f i = n
          · simp [e] at h2; exact ⟨n, by omega, h2⟩
          · simp [e] at h2; exact ⟨i, by omega, h2⟩
      · exfalso
        obtain ⟨i, h1, h2⟩ := ih f (fun i hin => by
          have a := hb i (by omega)
          by_cases e : f i = n
          · exact absurd ⟨i, hin, e⟩ hex
          · omega) (fun i j a b c => hi i j (by omega) (by omega) c) (f n) hfn2
        have := hi i n (by omega) (by omega) h2
        omega

/-! ### the stable order by a key -/
def lx (key : Nat → Int) (j i : Nat) : Bool := decide (key j < key i ∨ (key j = key i ∧ j < i))
theorem lx_iff (key : Nat → Int) (j i : Nat) : lx key j i = true ↔ (key j < key i ∨ (key j = key i ∧ j < i)) := by simp [lx]
theorem lx_irr (key : Nat → Int) (a : Nat) : ¬ lx key a a = true := by rw [lx_iff]; omega
theorem lx_tr (key : Nat → Int) (a b c : Nat) (h1 : lx key a b = true) (h2 : lx key b c = true) : lx key a c = true := by
  rw [lx_iff] at *; omega
theorem lx_tot (key : Nat → Int) (a b : Nat) (h : a ≠ b) : lx key a b = true ∨ lx key b a = true := by
  rw [lx_iff, lx_iff]; omega
def rank (n : Nat) (key : Nat → Int) (i : Nat) : Nat := cnt n (fun j => lx key j i)
theorem rank_lt {n : Nat} (key : Nat → Int) {i : Nat} (hi : i < n) : rank n key i < n := by
  have := cnt_strict (n := n) (P := fun j => lx key j i) (Q := fun _ => true) (fun _ _ _ => rfl) hi rfl (lx_irr key i)
  rw [cnt_true] at this; exact this
theorem rank_rise {n : Nat} (key : Nat → Int) {i j : Nat} (hi : i < n) (h : lx key i j = true) : rank n key i < rank n key j :=
  cnt_strict (fun a _ ha => lx_tr key a i j ha h) hi h (lx_irr key i)
theorem rank_inj {n : Nat} (key : Nat → Int) {i j : Nat} (hi : i < n) (hj : j < n) (h : rank n key i = rank n key j) : i = j := by
  refine Classical.byContradiction fun hne => ?_
  rcases lx_tot key i j hne with h1 | h1
  · have := rank_rise key hi h1; omega
  · have := rank_rise key hj h1; omega
theorem rank_sur {n : Nat} (key : Nat → Int) {p : Nat} (hp : p < n) : ∃ i, i < n ∧ rank n key i = p :=
  pigeon n (rank n key) (fun _ hi => rank_lt key hi) (fun _ _ hi hj h => rank_inj key hi hj h) p hp
theorem rank_split {n : Nat} (key : Nat → Int) {i : Nat} (hi : i < n) :
    rank n key i = cnt n (fun j => decide (key j < key i)) + cnt i (fun j => decide (key j = key i)) := by
  have e : cnt n (fun j => decide (key j = key i) && decide (j < i)) = cnt i (fun j => decide (key j = key i)) :=
    cnt_cut (by omega) (fun a ha => by simp [ha]) (fun a ha _ => by simp; omega)
  rw [← e]
  refine cnt_or (fun a ha => ?_) (fun a ha => by simp; omega)
  rw [Bool.eq_iff_iff]; simp [lx]
/-- Of a key that rises: the rank is the place. -/
theorem rank_sorted {n : Nat} (key : Nat → Int) (h : ∀ p q, p < q → q < n → key p ≤ key q) : ∀ p, p < n → rank n key p = p :=
  enum_rank (n := n) (lt := lx key) (e := fun k => k) (fun _ h => h) (fun a _ => lx_irr key a) (fun a b c _ _ _ => lx_tr key a b c)
    (fun k l hkl hl => by rw [lx_iff]; have := h k l hkl hl; omega)
/-- What lies at the ranks rises. -/
theorem sorted_of_rank {n : Nat} (key key' : Nat → Int) (h : ∀ j, j < n → key' (rank n key j) = key j) : ∀ p q, p < q → q < n → key' p ≤ key' q := by
  intro p q hpq hq
  obtain ⟨i, hi, rfl⟩ := rank_sur key (show p < n by omega)
  obtain ⟨j, hj, rfl⟩ := rank_sur key hq
  rw [h i hi, h j hj]
  refine Classical.byContradiction fun hn => ?_
  have := rank_rise (n := n) key hj (show lx key j i = true by rw [lx_iff]; omega)
  omega
end Go.Proofs.Qxb6604152a.Rank
