/-
  zzEndsByRank: the mathematics, and what lies in memory while it runs.
-/
import Derived.Test.Qxb6604152aMeet
namespace Go.Proofs.Qxb6604152a.Ring
open Go.Proofs.Qxb6604152a.Num
open Go.Proofs.Qxb6604152a.Rank

theorem turn {n a k : Nat} (ha : a ≤ n) (hk : k < n) : (a + k < n ∧ (a + k) % n = a + k) ∨ (n ≤ a + k ∧ (a + k) % n = a + k - n) := by
  by_cases h : a + k < n
  · exact .inl ⟨h, Nat.mod_eq_of_lt h⟩
  · exact .inr ⟨by omega, by rw [Nat.mod_eq_sub_mod (by omega), Nat.mod_eq_of_lt (by omega)]⟩

/-- The k-th member, going forward from the node, has k members before it. -/
theorem turn_rank {n : Nat} {x : Nat → Int} (h : Asc n x) (hb : Bd n x) {t : Int} (ht : 0 ≤ t ∧ t < big) :
    ∀ k, k < n → cnt n (fun j => decide ((x j - t) % big < (x ((low n x t + k) % n) - t) % big)) = k := by
  obtain ⟨ha, hlo, hhi⟩ := low_spec t h
  refine enum_rank (n := n) (lt := fun a b => decide ((x a - t) % big < (x b - t) % big)) (e := fun k => (low n x t + k) % n) (fun k hk => Nat.mod_lt _ (by omega))
    (fun a _ => by simp) (fun a b c _ _ _ h1 h2 => by simp at *; omega) (fun k l hkl hl => ?_)
  have e1 := turn ha (show k < n by omega)
  have e2 := turn ha hl
  have l1 : (low n x t + k) % n < n := Nat.mod_lt _ (by omega)
  have l2 : (low n x t + l) % n < n := Nat.mod_lt _ (by omega)
  generalize (low n x t + k) % n = p at *
  generalize (low n x t + l) % n = q at *
  have b1 := hb p l1
  have b2 := hb q l2
  have a4 : p < q → x p < x q := fun hh => h p q hh l2
  have a6 : q < p → x q < x p := fun hh => h q p hh l1
  have c1 : p < low n x t → x p < t := fun hh => hlo p hh
  have c2 : low n x t ≤ p → t ≤ x p := fun hh => hhi p hh l1
  have c3' : q < low n x t → x q < t := fun hh => hlo q hh
  have c4 : low n x t ≤ q → t ≤ x q := fun hh => hhi q hh l2
  apply decide_eq_true
  unfold big at *
  rcases e1 with ⟨f1, f2⟩ | ⟨f1, f2⟩ <;> rcases e2 with ⟨g1, g2⟩ | ⟨g1, g2⟩
  · have := a4 (by omega); have := c2 (by omega); have := c4 (by omega); omega
  · have := c2 (by omega); have := c3' (by omega); omega
  · omega
  · have := a4 (by omega); have := c1 (by omega); have := c3' (by omega); omega

theorem rank_iff {n : Nat} {x : Nat → Int} (h : Asc n x) (hb : Bd n x) {t : Int} (ht : 0 ≤ t ∧ t < big) {i k : Nat} (hi : i < n) (hk : k < n) :
    cnt n (fun j => decide ((x j - t) % big < (x i - t) % big)) = k ↔ i = (low n x t + k) % n := by
  have ha : low n x t ≤ n := cnt_le _ _
  constructor
  · intro e
    have hl : (i + n - low n x t) % n < n := Nat.mod_lt _ (by omega)
    have key : (low n x t + (i + n - low n x t) % n) % n = i := by
      rcases turn (n := n) (a := n - low n x t) (by omega) hi with ⟨a1, a2⟩ | ⟨a1, a2⟩
      · have : (i + n - low n x t) % n = i + n - low n x t := by rw [show i + n - low n x t = n - low n x t + i by omega, a2]
        rw [this]
        rcases turn (n := n) (a := low n x t) (k := i + n - low n x t) ha (by omega) with ⟨b1, b2⟩ | ⟨b1, b2⟩ <;> rw [b2] <;> omega
      · have : (i + n - low n x t) % n = i - low n x t := by rw [show i + n - low n x t = n - low n x t + i by omega, a2]; omega
        rw [this]
        rcases turn (n := n) (a := low n x t) (k := i - low n x t) ha (by omega) with ⟨b1, b2⟩ | ⟨b1, b2⟩ <;> rw [b2] <;> omega
    have r := turn_rank h hb ht _ hl
    rw [key, e] at r
    rw [r]; exact key.symm
  · intro e
    rw [e]
    exact turn_rank h hb ht k hk
end Go.Proofs.Qxb6604152a.Ring

namespace Go.Proofs.Qxb6604152a.Ids
open Go.ChangeShapes Go.WideShapes Go.ChangeAt Go.RowKit
open Go.Proofs.Qxb6604152a.Num
open Go.Proofs.Qxb6604152a.Rank

def rankOf (Dd : Nat → Nat → Int) (i j : Nat) : Nat := cnt j (fun m => decide (num (Dd m) < num (Dd i)))
theorem rank_at {n : Nat} {G : Nat → Nat → Int} {t : Nat → Int} (ha : Asc n G) (hG : ∀ k, k < n → Byt (G k)) (ht : Byt t) {i k : Nat} (hi : i < n) (hk : k < n) :
    rankOf (fun m => subId (G m) t) i n = k ↔ i = (lower n G t + k) % n := by
  have := Ring.rank_iff (n := n) (x := fun m => num (G m)) ha (fun j hj => num_bd (hG j hj)) (num_bd ht) hi hk
  rw [lower_low, ← this]
  unfold rankOf
  rw [cnt_congr (Q := fun j => decide ((num (G j) - num t) % big < (num (G i) - num t) % big))]
  intro j hj
  simp only
  rw [sub_num (hG j hj) ht, sub_num (hG i hi) ht]

/-! ### memory -/
theorem cell_setRow_other (w : World) (b g o : Nat) (cs : Array Value) (hne : b ≠ g) : (w.setRow g cs).cell? ⟨b, o, none⟩ = w.cell? ⟨b, o, none⟩ := by
  simp only [World.cell?, World.setRow, Array.getElem?_modify]
  rw [if_neg (fun e => hne e.symm)]
theorem range_setRow_other {w : World} {b g o : Nat} {l : List Value} (h : w.rangeAt b o l) (cs : Array Value) (hne : b ≠ g) : (w.setRow g cs).rangeAt b o l := fun j v hv => by
  rw [cell_setRow_other w b g _ cs hne]; exact h j v hv
theorem Blk.setCells_other {b T g : Nat} {c : Array Value} (hne : b ≠ g) : ∀ (vs : List Value) (o : Nat) (w : World), Blk w b T c → Blk (w.setCells g o vs) b T c
  | [], _, _, h => h
  | v :: r, o, w, h => by
    rw [World.setCells]
    exact Blk.setCells_other hne r (o + 1) _ (h.other _ v hne)
theorem there_below {w w' : World} {B b o n : Nat} (h : w.there b o n) (hb : Below B w w') (hlt : b < B) : w'.there b o n := fun j hj => by
  have := h j hj
  rw [hb.cell (p := ⟨b, o + j, none⟩) hlt, hb.frozen (p := ⟨b, o + j, none⟩) hlt]; exact this
theorem infoz22 : (Try.prog.info? 22).map (fun i => (i.zero, i.size, i.bytes)) = some (some (.agg Z16), 16, 16) := by kernel_rfl
def blank22 (n : Nat) : Array Value := madeCells (Value.cells (.agg Z16)) (n * 16)
theorem mk50 (n : Nat) (h : n ≤ 1000000) (w : World) :
    (Instr.makeSlice 50 (.int .i64 (n : Int)) (.int .i64 (n : Int))).run Try.prog w = .ok (.slice (some ⟨w.heap.size, 0, none⟩) n n) (w.alloc (.cells (blank22 n) 22)) := by
  obtain ⟨i, hi, hz0, hz1, hz2⟩ := info_parts infoz22
  have := run_make (P := Try.prog) w 50 22 i _ Try.underlying50 hi hz0 .i64 .i64 (n : Int) (n : Int) (by omega) (Int.le_refl _) (by rw [hz2]; omega) (by omega)
  rw [hz1] at this
  simp only [Int.toNat_natCast] at this
  exact this
theorem there_blank22 (w : World) (T n : Nat) : (w.alloc (.cells (blank22 n) T)).there w.heap.size 0 (n * 16) := fun j hj => by
  have hb := Blk.new w T (blank22 n)
  refine ⟨?_, hb.free _⟩
  rw [Nat.zero_add, hb.cell]
  have : j < (blank22 n).size := by unfold blank22; rw [size_madeCells]; exact hj
  simp [this]
theorem st22m {w : World} {b o : Nat} (g : Nat → Int) (h : w.there b o 16) : (Instr.storeAt 22 (.pointer (some ⟨b, o, none⟩)) (.agg (idOf g))).run Try.prog w = .ok () (w.setCells b o (idL g)) := by
  have := run_storeAt_mid (P := Try.prog) w b o 22 (idOf g) (by rw [idOf_size]; exact h) (by rw [idOf_size]; exact info22) (idOf_one g)
  simpa [idOf] using this
theorem there_part16 {w : World} {b n : Nat} (h : w.there b 0 (n * 16)) {k : Nat} (hk : k < n) : w.there b (k * 16) 16 := fun j hj => by
  have := h (k * 16 + j) (by omega)
  simpa using this

/-- The distances are being laid: k of them are. -/
structure L1 (w : World) (n k : Nat) (t : Nat → Int) (Dd : Nat → Nat → Int) (wr : World) : Prop where
  ids : ∀ j, j < k → wr.rangeAt (w.heap.size + 3) (j * 16) (idL (Dd j))
  th : wr.there (w.heap.size + 3) 0 (n * 16)
  b2 : Blk wr w.heap.size 22 (idOf t)
  b4 : Blk wr (w.heap.size + 1) 22 (idOf fun _ => 0)
  b5 : Blk wr (w.heap.size + 2) 22 (idOf fun _ => 0)
  lt : w.heap.size + 3 < wr.heap.size
  below : Below w.heap.size w wr
theorem l1_start (w : World) (n : Nat) (t : Nat → Int) (Dd : Nat → Nat → Int) :
    L1 w n 0 t Dd ((((w.alloc (.cells (idOf t) 22)).alloc (.cells Z16 22)).alloc (.cells Z16 22)).alloc (.cells (blank22 n) 22)) := by
  have s3 : (((w.alloc (.cells (idOf t) 22)).alloc (.cells Z16 22)).alloc (.cells Z16 22)).heap.size = w.heap.size + 3 := by simp
  have s2 : ((w.alloc (.cells (idOf t) 22)).alloc (.cells Z16 22)).heap.size = w.heap.size + 2 := by simp
  have s1 : (w.alloc (.cells (idOf t) 22)).heap.size = w.heap.size + 1 := by simp
  refine ⟨fun j hj => by omega, ?_, ?_, ?_, ?_, by simp, ?_⟩
  · have := there_blank22 (((w.alloc (.cells (idOf t) 22)).alloc (.cells Z16 22)).alloc (.cells Z16 22)) 22 n
    rw [s3] at this; exact this
  · exact (((Blk.new w 22 (idOf t)).alloc _).alloc _).alloc _
  · have := Blk.new (w.alloc (.cells (idOf t) 22)) 22 Z16
    rw [s1] at this
    rw [← zero16]
    exact (this.alloc _).alloc _
  · have := Blk.new ((w.alloc (.cells (idOf t) 22)).alloc (.cells Z16 22)) 22 Z16
    rw [s2] at this
    rw [← zero16]
    exact this.alloc _
  · exact ((((Below.refl _ _).alloc (Nat.le_refl _) _).alloc (by rw [s1]; omega) _).alloc (by rw [s2]; omega) _).alloc (by rw [s3]; omega) _
theorem L1.over {w : World} {n k : Nat} {t : Nat → Int} {Dd : Nat → Nat → Int} {wr w' : World} (h : L1 w n k t Dd wr) (hb : Below wr.heap.size wr w') : L1 w n k t Dd w' :=
  have hl := h.lt
  ⟨fun j hj => range_below (h.ids j hj) hb hl, there_below h.th hb hl, h.b2.below hb (by omega), h.b4.below hb (by omega), h.b5.below hb (by omega), Nat.lt_of_lt_of_le hl hb.size, h.below.trans (hb.mono (by omega))⟩
theorem L1.step {w : World} {n k : Nat} {t : Nat → Int} {Dd : Nat → Nat → Int} {wr : World} (h : L1 w n k t Dd wr) (hk : k < n) : L1 w n (k + 1) t Dd (wr.setCells (w.heap.size + 3) (k * 16) (idL (Dd k))) := by
  refine ⟨fun j hj => ?_, World.there_setCells h.th _ _ _, Blk.setCells_other (by omega) _ _ _ h.b2, Blk.setCells_other (by omega) _ _ _ h.b4, Blk.setCells_other (by omega) _ _ _ h.b5, by rw [size_setCells]; exact h.lt, below_setCells (by omega) _ _ _ h.below⟩
  by_cases e : j = k
  · subst e
    exact World.rangeAt_setCells_same wr _ (j * 16) _ (by rw [idL_len]; exact there_part16 h.th hk)
  · exact World.rangeAt_setCells_apart (h.ids j (by omega)) _ (k * 16) _ (by rw [idL_len, idL_len]; omega)

/-- The distances are laid; the two results are g and h. -/
structure L2 (w : World) (n : Nat) (Dd : Nat → Nat → Int) (g h : Nat → Int) (wr : World) : Prop where
  ids : ∀ j, j < n → wr.rangeAt (w.heap.size + 3) (j * 16) (idL (Dd j))
  b4 : Blk wr (w.heap.size + 1) 22 (idOf g)
  b5 : Blk wr (w.heap.size + 2) 22 (idOf h)
  lt : w.heap.size + 3 < wr.heap.size
  below : Below w.heap.size w wr
theorem L1.full {w : World} {n : Nat} {t : Nat → Int} {Dd : Nat → Nat → Int} {wr : World} (h : L1 w n n t Dd wr) : L2 w n Dd (fun _ => 0) (fun _ => 0) wr := ⟨h.ids, h.b4, h.b5, h.lt, h.below⟩
theorem L2.over {w : World} {n : Nat} {Dd : Nat → Nat → Int} {g h : Nat → Int} {wr w' : World} (H : L2 w n Dd g h wr) (hb : Below wr.heap.size wr w') : L2 w n Dd g h w' :=
  have hl := H.lt
  ⟨fun j hj => range_below (H.ids j hj) hb hl, H.b4.below hb (by omega), H.b5.below hb (by omega), Nat.lt_of_lt_of_le hl hb.size, H.below.trans (hb.mono (by omega))⟩
theorem L2.set4 {w : World} {n : Nat} {Dd : Nat → Nat → Int} {g h : Nat → Int} {wr : World} (H : L2 w n Dd g h wr) (g' : Nat → Int) : L2 w n Dd g' h (wr.setRow (w.heap.size + 1) (idOf g')) :=
  ⟨fun j hj => range_setRow_other (H.ids j hj) _ (by omega), H.b4.setRow_same _, H.b5.setRow_other _ (by omega), by simpa using H.lt, below_setRow H.below (by omega) _⟩
theorem L2.set5 {w : World} {n : Nat} {Dd : Nat → Nat → Int} {g h : Nat → Int} {wr : World} (H : L2 w n Dd g h wr) (h' : Nat → Int) : L2 w n Dd g h' (wr.setRow (w.heap.size + 2) (idOf h')) :=
  ⟨fun j hj => range_setRow_other (H.ids j hj) _ (by omega), H.b4.setRow_other _ (by omega), H.b5.setRow_same _, by simpa using H.lt, below_setRow H.below (by omega) _⟩
section
variable {ops : Array Oper} {rest : List Oper} {o : Oper} {a : Act} {w wr : World} {Q : Exit → Act → World → Prop} {n : Nat} {Dd : Nat → Nat → Int} {g h : Nat → Int}
theorem wl_set4 (hgd : o.guard = none) (x y : Operand) (ho : o.op = .store 22 x y) {g' : Nat → Int} (hx : a.eval x = .pointer (some ⟨w.heap.size + 1, 0, none⟩)) (hy : a.eval y = .agg (idOf g')) (H : L2 w n Dd g h wr)
    (k : ∀ w2, L2 w n Dd g' h w2 → wpList Try.prog ops Q rest (a.put o.dst undef) w2) : wpList Try.prog ops Q (o :: rest) a wr :=
  wl_store hgd 22 x y ho hx hy (st22 H.b4 g') (k _ (H.set4 g'))
theorem wl_set5 (hgd : o.guard = none) (x y : Operand) (ho : o.op = .store 22 x y) {h' : Nat → Int} (hx : a.eval x = .pointer (some ⟨w.heap.size + 2, 0, none⟩)) (hy : a.eval y = .agg (idOf h')) (H : L2 w n Dd g h wr)
    (k : ∀ w2, L2 w n Dd g h' w2 → wpList Try.prog ops Q rest (a.put o.dst undef) w2) : wpList Try.prog ops Q (o :: rest) a wr :=
  wl_store hgd 22 x y ho hx hy (st22 H.b5 h') (k _ (H.set5 h'))
end
end Go.Proofs.Qxb6604152a.Ids
