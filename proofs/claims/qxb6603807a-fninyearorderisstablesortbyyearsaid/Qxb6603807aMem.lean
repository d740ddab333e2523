/-
  Rows of integers in blocks that the call itself made: what is known of a whole block, and how it goes on.
-/
import Derived.Test.Qxb6603807aRows
import Derived.WalkKit
import Derived.ProofKit
import Derived.OpenShut
import Derived.Below
import Derived.OneCell
import Derived.Laws.Rows
import Derived.Deep.OwnRows
import Derived.WalkSpells
namespace Go.Proofs.Qxb6603807a.Mem
open Go.RowKit

def upd (f : Nat → Int) (i : Nat) (v : Int) : Nat → Int := fun j => if j = i then v else f j
def rowOf (n : Nat) (f : Nat → Int) : Array Value := Array.ofFn (n := n) (fun i => Value.int .i64 (f i.val))
def Row (w : World) (b T n : Nat) (f : Nat → Int) : Prop := w.heap[b]? = some (.cells (rowOf n f) T (0, 0))

theorem rowOf_get (n : Nat) (f : Nat → Int) (i : Nat) (h : i < n) : (rowOf n f)[i]? = some (.int .i64 (f i)) := by
  unfold rowOf; simp [h]
theorem rowOf_congr {n : Nat} {f g : Nat → Int} (h : ∀ i, i < n → f i = g i) : rowOf n f = rowOf n g := by
  unfold rowOf; congr 1; funext i; rw [h i.val i.isLt]
theorem rowOf_set (n : Nat) (f : Nat → Int) (i : Nat) (v : Int) : (rowOf n f).setIfInBounds i (.int .i64 v) = rowOf n (upd f i v) := by
  apply Array.ext_getElem?
  intro j
  rw [Array.getElem?_setIfInBounds]
  by_cases hj : j < n
  · rw [rowOf_get n (upd f i v) j hj]
    by_cases hij : i = j
    · subst hij; simp [upd, rowOf, hj]
    · rw [if_neg hij, rowOf_get n f j hj]; simp [upd, Ne.symm hij]
  · have e1 : (rowOf n (upd f i v))[j]? = none := by simp [rowOf]; omega
    have e2 : (rowOf n f)[j]? = none := by simp [rowOf]; omega
    rw [e1]
    split
    · rename_i h; subst h; simp [rowOf, hj]
    · exact e2

theorem Row.cell {w : World} {b T n : Nat} {f : Nat → Int} (h : Row w b T n f) {i : Nat} (hi : i < n) : w.cell? ⟨b, i, none⟩ = some (.int .i64 (f i)) := by
  rw [cell_of_row w b i _ _ _ h, rowOf_get n f i hi]
theorem Row.free {w : World} {b T n : Nat} {f : Nat → Int} (h : Row w b T n f) (i : Nat) : w.frozen? ⟨b, i, none⟩ = false :=
  frozen_of_row w b i _ _ h
theorem Row.lt {w : World} {b T n : Nat} {f : Nat → Int} (h : Row w b T n f) : b < w.heap.size := lt_of_block h
theorem Row.set {w : World} {b T n : Nat} {f : Nat → Int} (h : Row w b T n f) (i : Nat) (v : Int) : Row (w.setCell ⟨b, i, none⟩ (.int .i64 v)) b T n (upd f i v) := by
  unfold Row at *
  rw [heap_setCell_same w b i _ _ _ h, rowOf_set]
theorem Row.other {w : World} {b T n : Nat} {f : Nat → Int} (h : Row w b T n f) (a : Addr) (v : Value) (hne : b ≠ a.block) : Row (w.setCell a v) b T n f := by
  unfold Row at *
  rw [heap_setCell_other w a b v hne]; exact h
theorem Row.alloc {w : World} {b T n : Nat} {f : Nat → Int} (h : Row w b T n f) (o : Obj) : Row (w.alloc o) b T n f := by
  have := h.lt
  unfold Row at *
  rw [Below.heap_alloc w o b this]; exact h
theorem Row.new (w : World) (T n : Nat) (f : Nat → Int) : Row (w.alloc (.cells (rowOf n f) T)) w.heap.size T n f := heap_alloc_new w _
theorem Row.drew {w : World} {b T n : Nat} {f : Nat → Int} (h : Row w b T n f) : Row w.drew b T n f := h
theorem Row.below {w w' : World} {B b T n : Nat} {f : Nat → Int} (h : Row w b T n f) (hb : Below B w w') (hlt : b < B) : Row w' b T n f := by
  unfold Row at *
  rw [hb.block b hlt]; exact h
theorem Row.congr {w : World} {b T n : Nat} {f g : Nat → Int} (h : Row w b T n f) (hfg : ∀ i, i < n → f i = g i) : Row w b T n g := by
  unfold Row at *
  rw [← rowOf_congr hfg]; exact h

def pre (k : Nat) (f : Nat → Int) : Nat → Int := fun j => if j < k then f j else 0
theorem pre_zero (f : Nat → Int) : pre 0 f = fun _ => 0 := by funext j; simp [pre]
theorem Row.pre_new (w : World) (T n : Nat) (f : Nat → Int) : Row (w.alloc (.cells (rowOf n (fun _ => 0)) T)) w.heap.size T n (pre 0 f) := by
  rw [pre_zero]; exact Row.new w T n _
theorem Row.pre_step {w : World} {b T n k : Nat} {f : Nat → Int} (h : Row w b T n (pre k f)) : Row (w.setCell ⟨b, k, none⟩ (.int .i64 (f k))) b T n (pre (k + 1) f) :=
  (h.set k (f k)).congr (fun i _ => by
    unfold upd pre
    by_cases h1 : i = k
    · subst h1; simp
    · by_cases h2 : i < k
      · simp [h1, h2, show i < k + 1 from by omega]
      · simp [h1, h2, show ¬ i < k + 1 from by omega])
theorem Row.pre_full {w : World} {b T n k : Nat} {f : Nat → Int} (h : Row w b T n (pre k f)) (hk : n ≤ k) : Row w b T n f :=
  h.congr (fun i hi => by unfold pre; rw [if_pos (by omega)])

theorem made_one (n : Nat) : madeCells #[Value.int .i64 0] n = rowOf n (fun _ => 0) := by
  apply Array.ext_getElem?
  intro j
  by_cases hj : j < n
  · rw [rowOf_get n _ j hj]; simp [madeCells, hj, Nat.mod_one]
  · simp [madeCells, rowOf, hj]
theorem made_four (n : Nat) : madeCells #[Value.int .i64 0, .int .i64 0, .int .i64 0, .int .i64 0] n = rowOf n (fun _ => 0) := by
  apply Array.ext_getElem?
  intro j
  by_cases hj : j < n
  · rw [rowOf_get n _ j hj]
    have h4 : j % 4 < 4 := Nat.mod_lt _ (by decide)
    simp only [madeCells]
    simp [hj]
    match h : j % 4, h4 with
    | 0, _ => rfl
    | 1, _ => rfl
    | 2, _ => rfl
    | 3, _ => rfl
  · simp [madeCells, rowOf, hj]

/-! ### 'make' at this program's types -/
theorem info3 : (Try.prog.info? 3).map (fun i => (i.zero, i.size, i.bytes)) = some (some (.int .i64 0), 1, 8) := by kernel_rfl
theorem info2 : (Try.prog.info? 2).map (fun i => (i.zero, i.size, i.bytes)) = some (some (.int .i64 0), 1, 8) := by kernel_rfl
theorem info35 : (Try.prog.info? 35).map (fun i => (i.zero, i.size, i.bytes)) = some (some (.agg #[.int .i64 0, .int .i64 0, .int .i64 0, .int .i64 0]), 4, 32) := by kernel_rfl

theorem mk22 (n : Nat) (h : n ≤ 1000000) (w : World) :
    (Instr.makeSlice 22 (.int .i64 (n : Int)) (.int .i64 (n : Int))).run Try.prog w = .ok (.slice (some ⟨w.heap.size, 0, none⟩) n n) (w.alloc (.cells (rowOf n (fun _ => 0)) 3)) := by
  have := run_make_row' (P := Try.prog) 22 3 (.int .i64 0) 8 Try.underlying22 info3 rfl .i64 .i64 n (by omega) (by omega) w
  rw [made_one] at this; exact this
theorem mk23 (n : Nat) (h : n ≤ 1000000) (w : World) :
    (Instr.makeSlice 23 (.int .i64 (n : Int)) (.int .i64 (n : Int))).run Try.prog w = .ok (.slice (some ⟨w.heap.size, 0, none⟩) n n) (w.alloc (.cells (rowOf n (fun _ => 0)) 2)) := by
  have := run_make_row' (P := Try.prog) 23 2 (.int .i64 0) 8 Try.underlying23 info2 rfl .i64 .i64 n (by omega) (by omega) w
  rw [made_one] at this; exact this
theorem mk33 (n : Nat) (h : n ≤ 1000000) (w : World) :
    (Instr.makeSlice 33 (.int .i64 (n : Int)) (.int .i64 (n : Int))).run Try.prog w = .ok (.slice (some ⟨w.heap.size, 0, none⟩) n n) (w.alloc (.cells (rowOf (n * 4) (fun _ => 0)) 35)) := by
  obtain ⟨i, hi, hz0, hz1, hz2⟩ := info_parts info35
  have := run_make (P := Try.prog) w 33 35 i _ Try.underlying33 hi hz0 .i64 .i64 (n : Int) (n : Int) (by omega) (Int.le_refl _) (by rw [hz2]; omega) (by omega)
  rw [hz1] at this
  simp only [Int.toNat_natCast] at this
  rw [this]
  have e : (Value.agg #[Value.int .i64 0, .int .i64 0, .int .i64 0, .int .i64 0]).cells = #[Value.int .i64 0, .int .i64 0, .int .i64 0, .int .i64 0] := by kernel_rfl
  rw [e, made_four]
theorem mk22z (w : World) : (Instr.makeSlice 22 (.int .i64 0) (.int .i64 0)).run Try.prog w = .ok (.slice (some ⟨w.heap.size, 0, none⟩) 0 0) (w.alloc (.cells (rowOf 0 (fun _ => 0)) 3)) := mk22 0 (by omega) w
theorem mk23z (w : World) : (Instr.makeSlice 23 (.int .i64 0) (.int .i64 0)).run Try.prog w = .ok (.slice (some ⟨w.heap.size, 0, none⟩) 0 0) (w.alloc (.cells (rowOf 0 (fun _ => 0)) 2)) := mk23 0 (by omega) w
theorem mk33z (w : World) : (Instr.makeSlice 33 (.int .i64 0) (.int .i64 0)).run Try.prog w = .ok (.slice (some ⟨w.heap.size, 0, none⟩) 0 0) (w.alloc (.cells (rowOf 0 (fun _ => 0)) 35)) := by
  have := mk33 0 (by omega) w
  simpa using this

end Go.Proofs.Qxb6603807a.Mem
