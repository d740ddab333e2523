/-
  NodeID.Compare, and the closure that fullEnds hands to the search.
-/
import Derived.Test.Qxb6604152aLess
import Derived.Lib.BytesEntry
import Derived.Laws.Externs
namespace Go.Proofs.Qxb6604152a.Ids
open Go.ChangeShapes Go.WideShapes Go.ChangeAt Go.RowKit
open Go.Proofs.Qxb6604152a.Num

/-! ### the plain law -/
def lst (g : Nat → Int) : Nat → List Int
  | 0 => []
  | d + 1 => g (15 - d) :: lst g d
theorem lst_len (g : Nat → Int) (d : Nat) : (lst g d).length = d := by
  induction d with
  | zero => rfl
  | succ d ih => simp [lst, ih]
theorem lst_get (g : Nat → Int) : ∀ d, d ≤ 16 → ∀ j, j < d → (lst g d)[j]? = some (g (16 - d + j)) := by
  intro d
  induction d with
  | zero => intro _ j hj; omega
  | succ d ih =>
    intro hd j hj
    cases j with
    | zero => simp only [lst]; rw [List.getElem?_cons_zero, show 16 - (d + 1) + 0 = 15 - d from by omega]
    | succ j =>
      simp only [lst]
      rw [List.getElem?_cons_succ, ih (by omega) j (by omega), show 16 - (d + 1) + (j + 1) = 16 - d + j from by omega]
theorem u8_lt {a b : Int} (ha : 0 ≤ a ∧ a ≤ 255) (hb : 0 ≤ b ∧ b ≤ 255) : (UInt8.ofNat a.toNat < UInt8.ofNat b.toNat) ↔ a < b := by
  rw [UInt8.lt_iff_toNat_lt]
  have e1 : (UInt8.ofNat a.toNat).toNat = a.toNat := by rw [UInt8.toNat_ofNat']; omega
  have e2 : (UInt8.ofNat b.toNat).toNat = b.toNat := by rw [UInt8.toNat_ofNat']; omega
  rw [e1, e2]; omega
theorem c3_add (x s t : Int) : c3 (x + s) (x + t) = c3 s t := by unfold c3; simp [Int.add_lt_add_iff_left]
theorem cmp_lst {g h : Nat → Int} (hg : Byt g) (hh : Byt h) : ∀ d, d ≤ 16 → Lib.compareBytes (Lib.bytesOf (lst g d)) (Lib.bytesOf (lst h d)) = c3 (suf g d) (suf h d) := by
  intro d
  induction d with
  | zero => intro _; simp [lst, Lib.bytesOf, Lib.compareBytes, suf, c3]
  | succ d ih =>
    intro hd
    have x := hg (15 - d) (by omega)
    have y := hh (15 - d) (by omega)
    simp only [lst, Lib.bytesOf, List.map_cons, Lib.compareBytes]
    by_cases h1 : g (15 - d) < h (15 - d)
    · rw [if_pos ((u8_lt x y).2 h1)]
      have := suf_lt hg hh (by omega) h1
      unfold c3; rw [if_pos this]
    · rw [if_neg (fun e => h1 ((u8_lt x y).1 e))]
      by_cases h2 : h (15 - d) < g (15 - d)
      · rw [if_pos ((u8_lt y x).2 h2)]
        have := suf_lt hh hg (by omega) h2
        unfold c3; rw [if_neg (by omega), if_pos this]
      · rw [if_neg (fun e => h2 ((u8_lt y x).1 e))]
        have e : g (15 - d) = h (15 - d) := by omega
        have i := ih (by omega)
        unfold Lib.bytesOf at i
        rw [i]
        simp only [suf, e]
        exact (c3_add _ _ _).symm

theorem run_compareSlices {P : Program} (w : World) (b1 o1 c1 b2 o2 c2 : Nat) {g h : Nat → Int} (hg : Byt g) (hh : Byt h) (h1 : w.rangeAt b1 o1 (idL g)) (h2 : w.rangeAt b2 o2 (idL h)) :
    (Extern.BytealgCompare.compare #[.slice (some ⟨b1, o1, none⟩) 16 c1, .slice (some ⟨b2, o2, none⟩) 16 c2]).run P w = .ok (.int .i64 (c3 (num g) (num h))) w := by
  have key : ∀ (b o : Nat) (f : Nat → Int), w.rangeAt b o (idL f) → (Extern.Bytes.loadBytes ⟨b, o, none⟩ 16 .empty).run P w = .ok ⟨(Lib.bytesOf (lst f 16)).toArray⟩ w := by
    intro b o f hf
    have := Lib.run_loadBytesX (P := P) w (lst f 16) ⟨b, o, none⟩ .empty (fun j x hj => by
      have hjl : j < 16 := by have := (List.getElem?_eq_some_iff.1 hj).1; rw [lst_len] at this; exact this
      rw [lst_get f 16 (by omega) j hjl] at hj
      simp at hj; subst hj
      rw [Addr.add_mid]
      exact hf j _ (idL_get f j hjl))
    rw [lst_len] at this
    rw [this]
    congr 1
  change Sem.run P (do pure (goInt (Extern.BytealgCompare.cmp (← Extern.Bytes.bytesOf (.slice (some ⟨b1, o1, none⟩) 16 c1)) (← Extern.Bytes.bytesOf (.slice (some ⟨b2, o2, none⟩) 16 c2))))) w = _
  simp only [Extern.Bytes.bytesOf, Sem.run_bind, Sem.run_pure, key b1 o1 g h1, key b2 o2 h h2, Result.andThen]
  rw [Lib.cmp_eq]
  have := cmp_lst hg hh 16 (by omega)
  show Result.ok (Value.int .i64 (Lib.compareBytes (Lib.bytesOf (lst g 16)) (Lib.bytesOf (lst h 16)))) w = _
  rw [this]; rfl

/-! ### the walks -/
theorem cmp26 (b1 c1 b2 c2 : Nat) (g h : Nat → Int) (w : World) (hg : Byt g) (hh : Byt h) (h1 : w.rangeAt b1 0 (idL g)) (h2 : w.rangeAt b2 0 (idL h)) :
    Calls Try.prog 26 #[.slice (some ⟨b1, 0, none⟩) 16 c1, .slice (some ⟨b2, 0, none⟩) 16 c2] w fun e w' => e = .returned (.int .i64 (c3 (num g) (num h))) ∧ w' = w := by
  have HX := hid (run_compareSlices (P := Try.prog) w b1 0 c1 b2 0 c2 hg hh h1 h2)
  clear hg hh h1 h2
  go_enter Try.func26, Try.ntmps26
  go_wp2
  rw [run_callFunc_extern Try.func27 (by kernel_rfl) (by kernel_rfl) (by kernel_rfl) (e := Extern.BytealgCompare.compare) (by kernel_rfl), HX.out]
  simp only [Result.andThen]
  rw [Oper.upon_value]
  go_wp2
  go_ret
  exact ⟨rfl, rfl⟩

theorem cmp25 (g h : Nat → Int) (w : World) (hg : Byt g) (hh : Byt h) :
    Calls Try.prog 25 #[.agg (idOf g), .agg (idOf h)] w fun e w' => e = .returned (.int .i64 (c3 (num g) (num h))) ∧ Below w.heap.size w w' := by
  have r1 : ∀ n, (((w.alloc (.cells (idOf g) 32)).alloc (.cells (idOf h) 32)).drewN n).rangeAt w.heap.size 0 (idL g) := fun n => Blk.range (cs := idL g) ((Blk.new w 32 (idOf g)).alloc _)
  have r2 : ∀ n, (((w.alloc (.cells (idOf g) 32)).alloc (.cells (idOf h) 32)).drewN n).rangeAt (w.heap.size + 1) 0 (idL h) := fun n => Blk.range (cs := idL h) (T := 32) (show Blk ((w.alloc (.cells (idOf g) 32)).alloc (.cells (idOf h) 32)) (w.heap.size + 1) 32 (idOf h) by
    have := Blk.new (w.alloc (.cells (idOf g) 32)) 32 (idOf h)
    simpa using this)
  have R1 := hid r1
  have R2 := hid r2
  have HG := hid hg
  have HH := hid hh
  clear r1 r2 hg hh
  go_enter Try.func25, Try.ntmps25
  go_wp2
  go_quiet ((go_at_call 26; exact Calls.quiet_of_same (cmp26 w.heap.size 16 (w.heap.size + 1) 16 g h _ HG.out HH.out (R1.out _) (R2.out _))))
  go_wp2
  go_ret
  exact ⟨rfl, by
    have := ((Below.refl w.heap.size w).alloc (Nat.le_refl _) (.cells (idOf g) 32)).alloc (by simp) (.cells (idOf h) 32)
    exact ⟨this.os, this.tape, this.output, this.size, this.block⟩⟩
end Go.Proofs.Qxb6604152a.Ids
