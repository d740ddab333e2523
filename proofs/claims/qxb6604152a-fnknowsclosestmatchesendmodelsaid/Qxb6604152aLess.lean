/-
  zzLess, zzSub, NodeID.Compare.
-/
import Derived.Test.Qxb6604152aIds
import Derived.Laws.CopyOwn
namespace Go.Proofs.Qxb6604152a.Ids
open Go.ChangeShapes Go.WideShapes Go.ChangeAt Go.RowKit
open Go.Proofs.Qxb6604152a.Num

theorem ret_bool {a b : Bool} (h : a = b) : Ending.returned (.bool a) = .returned (.bool b) := by rw [h]
set_option maxHeartbeats 400000 in
theorem less_any (g h : Nat → Int) (w : World) (hg : Byt g) (hh : Byt h) :
    Calls Try.prog 16 #[.agg (idOf g), .agg (idOf h)] w fun e w' => e = .returned (.bool (decide (num g < num h))) ∧ Below w.heap.size w w' := by
  have HG := hid hg
  have HH := hid hh
  clear hg hh
  go_enter Try.func16, Try.ntmps16
  go_wp2
  go_loopw [5] (fun i wr => ∃ k : Nat, k ≤ 16 ∧ i = .int .i64 k ∧ (∀ j, j < k → g j = h j) ∧ (∀ i, i < 16 → wr.cell? ⟨w.heap.size, i, none⟩ = some (.int .u8 (g i))) ∧ (∀ i, i < 16 → wr.cell? ⟨w.heap.size + 1, i, none⟩ = some (.int .u8 (h i))) ∧ Below w.heap.size w wr) (fun i _ => 16 - (intOf i).toNat)
  case atStart =>
    refine ⟨0, by omega, rfl, fun j hj => by omega, fun i hi => ?_, fun i hi => ?_, ((Below.refl _ _).alloc (Nat.le_refl _) _).alloc (by simp) _⟩
    · rw [World.cell?_alloc_past _ _ _ (by simp), World.cell?_alloc_at _ _ _ _ rfl, idOf_get g i hi]
    · rw [World.cell?_alloc_at _ _ _ _ (by simp), idOf_get h i hi]
  case round =>
    obtain ⟨k, hk, rfl, he, hc1, hc2, hB⟩ := hrel
    have HE := hid he
    have HC1 := hid hc1
    have HC2 := hid hc2
    have HB := hid hB
    by_cases hlt : k < 16
    · have c1 := hc1 k hlt
      have c2 := hc2 k hlt
      clear he hc1 hc2 hB
      by_cases hgh : g k = h k
      · have hne : (g k != h k) = false := by simp [hgh]
        have HGH := hid hgh
        clear hgh
        go_wp2
        go_region
        go_wp2
        go_roundw
        case rel => exact ⟨k + 1, by omega, by go_num, fun j hj => by
                      by_cases e : j = k
                      · subst e; exact HGH.out
                      · exact HE.out j (by omega), HC1.out, HC2.out, HB.out.drew⟩
        case measure => simp [intOf]; omega
      · have hne : (g k != h k) = true := by simp [hgh]
        have HX : Hid (decide (g k < h k) = decide (num g < num h)) := by
          by_cases hl : g k < h k
          · rw [decide_eq_true hl, decide_eq_true (num_first HG.out HH.out hlt HE.out hl)]; exact rfl
          · have := num_first HH.out HG.out hlt (fun j hj => (HE.out j hj).symm) (by omega)
            rw [decide_eq_false hl, decide_eq_false (by omega)]; exact rfl
        clear hgh
        go_wp2
        go_region
        go_wp2
        go_region
        go_wp2
        go_ret
        exact ⟨ret_bool HX.out, HB.out.drew.drew⟩
    · have HX : Hid (decide (num g < num h) = false) := by
        have := num_same (fun j hj => HE.out j (by omega))
        rw [decide_eq_false (by omega)]
        exact rfl
      clear he hc1 hc2 hB
      go_wp2
      go_ret
      exact ⟨ret_bool HX.out.symm, HB.out⟩

/-! ### the difference -/
def updI (f : Nat → Int) (i : Nat) (v : Int) : Nat → Int := fun j => if j = i then v else f j
theorem idOf_set (g : Nat → Int) (i : Nat) (v : Int) (h : i < 16) : (idOf g).setIfInBounds i (.int .u8 v) = idOf (updI g i v) := by
  apply Array.ext_getElem?
  intro j
  rw [Array.getElem?_setIfInBounds]
  by_cases hj : j < 16
  · rw [idOf_get (updI g i v) j hj]
    by_cases hij : i = j
    · subst hij; simp [updI, idOf_size, hj]
    · rw [if_neg hij, idOf_get g j hj]; simp [updI, Ne.symm hij]
  · have e1 : (idOf (updI g i v))[j]? = none := by rw [Array.getElem?_eq_none]; rw [idOf_size]; omega
    rw [e1, if_neg (by omega), Array.getElem?_eq_none]
    rw [idOf_size]; omega
theorem idOf_congr {g h : Nat → Int} (e : ∀ i, i < 16 → g i = h i) : idOf g = idOf h := by unfold idOf; rw [idL_congr e]
def Blk (w : World) (b T : Nat) (c : Array Value) : Prop := w.heap[b]? = some (.cells c T (0, 0))
theorem Blk.lt {w : World} {b T : Nat} {c : Array Value} (h : Blk w b T c) : b < w.heap.size := lt_of_block h
theorem Blk.alloc {w : World} {b T : Nat} {c : Array Value} (h : Blk w b T c) (o : Obj) : Blk (w.alloc o) b T c := by
  have := h.lt
  unfold Blk at *
  rw [Below.heap_alloc w o b this]; exact h
theorem Blk.new (w : World) (T : Nat) (c : Array Value) : Blk (w.alloc (.cells c T)) w.heap.size T c := heap_alloc_new w _
theorem Blk.other {w : World} {b T : Nat} {c : Array Value} (h : Blk w b T c) (a : Addr) (v : Value) (hne : b ≠ a.block) : Blk (w.setCell a v) b T c := by
  unfold Blk at *
  rw [heap_setCell_other w a b v hne]; exact h
theorem Blk.set {w : World} {b T : Nat} {c : Array Value} (h : Blk w b T c) (i : Nat) (v : Value) : Blk (w.setCell ⟨b, i, none⟩ v) b T (c.setIfInBounds i v) := heap_setCell_same w b i _ _ _ h
theorem Blk.below {w w' : World} {B b T : Nat} {c : Array Value} (h : Blk w b T c) (hb : Below B w w') (hlt : b < B) : Blk w' b T c := by
  unfold Blk at *
  rw [hb.block b hlt]; exact h
theorem Blk.cell {w : World} {b T : Nat} {c : Array Value} (h : Blk w b T c) (i : Nat) : w.cell? ⟨b, i, none⟩ = c[i]? := cell_of_row w b i _ _ _ h
theorem Blk.free {w : World} {b T : Nat} {c : Array Value} (h : Blk w b T c) (i : Nat) : w.frozen? ⟨b, i, none⟩ = false := frozen_of_row w b i _ _ h
theorem Blk.id {w : World} {b T : Nat} {g : Nat → Int} (h : Blk w b T (idOf g)) (i : Nat) (hi : i < 16) : w.cell? ⟨b, i, none⟩ = some (.int .u8 (g i)) := by
  rw [h.cell, idOf_get g i hi]
theorem Blk.range {w : World} {b T : Nat} {cs : List Value} (h : Blk w b T cs.toArray) : w.rangeAt b 0 cs := fun j v hv => by
  rw [Nat.zero_add, h.cell]; simpa using hv
def part (a b : Nat → Int) (d : Nat) : Nat → Int := fun j => if 16 ≤ j + d then subId a b j else 0
theorem part_step (a b : Nat → Int) (d : Nat) (hd : d < 16) : idOf (updI (part a b d) (15 - d) (subId a b (15 - d))) = idOf (part a b (d + 1)) := by
  apply idOf_congr
  intro i hi
  unfold updI part
  by_cases e : i = 15 - d
  · rw [if_pos e, if_pos (by omega), e]
  · rw [if_neg e]
    by_cases h : 16 ≤ i + d
    · rw [if_pos h, if_pos (by omega)]
    · rw [if_neg h, if_neg (by omega)]
theorem part_all (a b : Nat → Int) : idOf (part a b 16) = idOf (subId a b) := idOf_congr (fun i _ => by unfold part; rw [if_pos (by omega)])
theorem zero16 : (#[.int .u8 0, .int .u8 0, .int .u8 0, .int .u8 0, .int .u8 0, .int .u8 0, .int .u8 0, .int .u8 0, .int .u8 0, .int .u8 0, .int .u8 0, .int .u8 0, .int .u8 0, .int .u8 0, .int .u8 0, .int .u8 0] : Array Value) = idOf (fun _ => 0) := by
  simp [idOf, idL, List.range_succ]
theorem part_zero (a b : Nat → Int) : idOf (fun _ => 0) = idOf (part a b 0) := idOf_congr (fun i _ => by unfold part; rw [if_neg (by omega)])

theorem st22 {w : World} {b : Nat} {g0 : Nat → Int} (h : Blk w b 22 (idOf g0)) (g : Nat → Int) : (Instr.storeAt 22 (.pointer (some ⟨b, 0, none⟩)) (.agg (idOf g))).run Try.prog w = .ok () (w.setRow b (idOf g)) := by
  simp only [Instr.storeAt, Instr.sureAddr, Sem.run_bind, Sem.run_pure, Result.andThen]
  exact run_storeVar_row w b 22 22 _ (idOf g) h (by rw [idOf_size]; exact info22) (by rw [idOf_size, idOf_size]) (idOf_one g)
theorem st32 {w : World} {b : Nat} {g0 : Nat → Int} (h : Blk w b 32 (idOf g0)) (g : Nat → Int) : (Instr.storeAt 32 (.pointer (some ⟨b, 0, none⟩)) (.agg (idOf g))).run Try.prog w = .ok () (w.setRow b (idOf g)) := by
  simp only [Instr.storeAt, Instr.sureAddr, Sem.run_bind, Sem.run_pure, Result.andThen]
  exact run_storeVar_row w b 32 32 _ (idOf g) h (by rw [idOf_size]; exact info32) (by rw [idOf_size, idOf_size]) (idOf_one g)
set_option maxHeartbeats 800000 in
theorem sub_any (a b : Nat → Int) (w : World) (ha : Byt a) (hb : Byt b) :
    Calls Try.prog 15 #[.agg (idOf a), .agg (idOf b)] w fun e w' => e = .returned (.agg (idOf (subId a b))) ∧ Below w.heap.size w w' := by
  have HA := hid ha
  have HBb := hid hb
  clear ha hb
  go_enter Try.func15, Try.ntmps15
  go_wp2
  rw [zero16]
  go_loopw [6, 7] (fun s i wr => ∃ d : Nat, d ≤ 16 ∧ i = .int .i64 (15 - (d : Int)) ∧ s = .int .i64 (bor a b d) ∧ Blk wr w.heap.size 22 (idOf a) ∧ Blk wr (w.heap.size + 1) 22 (idOf b) ∧ Blk wr (w.heap.size + 2) 22 (idOf fun _ => 0) ∧ Blk wr (w.heap.size + 3) 22 (idOf (part a b d)) ∧ Below w.heap.size w wr) (fun _ i _ => (intOf i + 1).toNat)
  case atStart =>
    refine ⟨0, by omega, rfl, rfl, ?_, ?_, ?_, ?_, ((((Below.refl _ _).alloc (Nat.le_refl _) _).alloc (by simp) _).alloc (by simp; omega) _).alloc (by simp; omega) _⟩
    · exact (((Blk.new w 22 (idOf a)).alloc _).alloc _).alloc _
    · have := ((Blk.new (w.alloc (.cells (idOf a) 22)) 22 (idOf b)).alloc (.cells (idOf fun _ => 0) 22)).alloc (.cells (idOf fun _ => 0) 22)
      simpa using this
    · have := (Blk.new ((w.alloc (.cells (idOf a) 22)).alloc (.cells (idOf b) 22)) 22 (idOf fun _ => 0)).alloc (.cells (idOf fun _ => 0) 22)
      simpa using this
    · rw [← part_zero]
      have := Blk.new (((w.alloc (.cells (idOf a) 22)).alloc (.cells (idOf b) 22)).alloc (.cells (idOf fun _ => 0) 22)) 22 (idOf fun _ => 0)
      simpa using this
  case round =>
    obtain ⟨d, hd, rfl, rfl, b0, b1, b2, b3, hB⟩ := hrel
    by_cases hlt : d < 16
    · have c0 := b0.id (15 - d) (by omega)
      have c1 := b1.id (15 - d) (by omega)
      have c3 := b3.id (15 - d) (by omega)
      have f3 := b3.free (15 - d)
      have x0 := HA.out (15 - d) (by omega)
      have x1 := HBb.out (15 - d) (by omega)
      have x2 := bor_01 a b d
      have HB := hid hB
      clear hB
      have HS : Hid (∀ v, subId a b (15 - d) = v → Blk (wr.setCell ⟨w.heap.size + 3, 15 - d, none⟩ (.int .u8 v)) (w.heap.size + 3) 22 (idOf (part a b (d + 1)))) := by
        intro v hv
        have := b3.set (15 - d) (.int .u8 v)
        rw [idOf_set _ _ _ (by omega), ← hv, part_step a b d hlt, hv] at this
        exact this
      by_cases hv : a (15 - d) - b (15 - d) - bor a b d < 0
      · have HS2 := hid (HS.out _ (by unfold subId; rw [show 15 - (15 - d) = d from by omega, if_pos hv]))
        have HBo : Hid (1 = bor a b (d + 1)) := by
          show 1 = bor a b (d + 1)
          simp only [bor]; rw [if_pos hv]
        go_wp2
        go_region
        go_wp2
        go_roundw
        case rel => exact ⟨d + 1, by omega, by go_num, by rw [← HBo.out], b0.other _ _ (by dsimp only; omega), b1.other _ _ (by dsimp only; omega), b2.other _ _ (by dsimp only; omega), HS2.out, (HB.out.setCell (by dsimp only; omega) _).drew⟩
        case measure => simp [intOf]; omega
      · have HS2 := hid (HS.out _ (by unfold subId; rw [show 15 - (15 - d) = d from by omega, if_neg hv]))
        have HBo : Hid (0 = bor a b (d + 1)) := by
          show 0 = bor a b (d + 1)
          simp only [bor]; rw [if_neg hv]
        go_wp2
        go_region
        go_wp2
        go_roundw
        case rel => exact ⟨d + 1, by omega, by go_num, by rw [← HBo.out], b0.other _ _ (by dsimp only; omega), b1.other _ _ (by dsimp only; omega), b2.other _ _ (by dsimp only; omega), HS2.out, (HB.out.setCell (by dsimp only; omega) _).drew⟩
        case measure => simp [intOf]; omega
    · obtain rfl : d = 16 := by omega
      rw [part_all] at b3
      have HL := hid (ld22 (b3.range (cs := idL (subId a b))))
      have HST := hid (st22 b2 (subId a b))
      have hr : Blk (wr.setRow (w.heap.size + 2) (idOf (subId a b))) (w.heap.size + 2) 22 (idOf (subId a b)) := setRow_heap wr _ _ _ 22 _ b2
      have HR := hid hr
      have HB := hid hB
      clear hr b0 b1 b2 b3 hB
      go_wp2_with (first | (refine wl_load rfl 22 (.tmp 5) rfl rfl HL.out ?_) | (refine wl_store rfl 22 (.tmp 4) (.tmp 32) rfl rfl rfl HST.out ?_))
      refine bodyPost_ret (v := .agg (idOf (subId a b))) (results_cell_row (P := Try.prog) (fn := Try.f15) Try.results15 _ _ (w.heap.size + 2) 22 _ (0, 0) _ rfl HR.out Try.underlying22 rfl (by rw [idOf_size]; exact info22)) rfl ⟨rfl, ?_⟩
      exact below_setRow HB.out (by omega) _
end Go.Proofs.Qxb6604152a.Ids
