/-
  The closure of fullEnds; slices.BinarySearchFunc over peers.
-/
import Derived.Test.Qxb6604152aCmp
import Derived.Test.Qxb6604152aRank
namespace Go.Proofs.Qxb6604152a.Ids
open Go.ChangeShapes Go.WideShapes Go.ChangeAt Go.RowKit
open Go.Proofs.Qxb6604152a.Num
open Go.Proofs.Qxb6604152a.Rank

theorem range_peer_id {w : World} {b o : Nat} {g : Nat → Int} {s : ByteArray} (h : w.rangeAt b o (peerL g s)) : w.rangeAt b o (idL g) := fun j v hv => by
  refine h j v ?_
  have hj : j < (idL g).length := (List.getElem?_eq_some_iff.1 hv).1
  unfold peerL
  rw [List.getElem?_append_left hj]; exact hv
theorem range_below {w w' : World} {B b o : Nat} {cs : List Value} (h : w.rangeAt b o cs) (hb : Below B w w') (hlt : b < B) : w'.rangeAt b o cs := fun j v hv => by
  rw [hb.cell (p := ⟨b, o + j, none⟩) hlt]; exact h j v hv
def Peers (w : World) (b off n : Nat) (G : Nat → Nat → Int) (S : Nat → ByteArray) : Prop := ∀ k, k < n → w.rangeAt b (off + k * 17) (peerL (G k) (S k))
theorem Peers.below {w w' : World} {B b off n : Nat} {G : Nat → Nat → Int} {S : Nat → ByteArray} (h : Peers w b off n G S) (hb : Below B w w') (hlt : b < B) : Peers w' b off n G S :=
  fun k hk => range_below (h k hk) hb hlt

theorem clo24 (g h : Nat → Int) (s : ByteArray) (w : World) (hg : Byt g) (hh : Byt h) :
    Calls Try.prog 24 #[.agg (peerOf g s), .agg (idOf h)] w fun e w' => e = .returned (.int .i64 (c3 (num g) (num h))) ∧ Below w.heap.size w w' := by
  have r1 : ((w.alloc (.cells (peerOf g s) 34)).alloc (.cells (idOf h) 32)).rangeAt w.heap.size 0 (idL g) := range_peer_id (Blk.range (cs := peerL g s) ((Blk.new w 34 (peerOf g s)).alloc _))
  have r2 : ((w.alloc (.cells (peerOf g s) 34)).alloc (.cells (idOf h) 32)).rangeAt (w.heap.size + 1) 0 (idL h) := Blk.range (cs := idL h) (T := 32) (show Blk _ _ 32 (idOf h) by
    have := Blk.new (w.alloc (.cells (peerOf g s) 34)) 32 (idOf h)
    simpa using this)
  have R1 := hid (ld32 r1)
  have R2 := hid (ld32 r2)
  have HG := hid hg
  have HH := hid hh
  clear r1 r2 hg hh
  go_enter Try.func24, Try.ntmps24
  go_wp2_with (first | (refine wl_load rfl 32 (.tmp 5) rfl rfl R1.out ?_) | (refine wl_load rfl 32 (.tmp 3) rfl rfl R2.out ?_) | (go_at_call 25; refine (cmp25 g h _ HG.out HH.out).mono ?_; rintro e w' ⟨rfl, hb⟩))
  go_ret
  exact ⟨rfl, (((Below.refl _ _).alloc (Nat.le_refl _) _).alloc (by simp) _).trans (hb.mono (by simp; omega))⟩

theorem cw_call {P : Program} {f : FuncId} {args : Array Value} {w : World} {v : Value} (x : CW w.heap.size w)
    (h : Calls P f args x.val fun e w' => e = .returned v ∧ Below x.val.heap.size x.val w') : Calls P f args x.val fun e w'' => e = .returned v ∧ ∃ y : CW w.heap.size w, w'' = y.val :=
  h.mono fun _ w' ⟨he, hb⟩ => ⟨he, ⟨w', x.2.trans (hb.mono x.2.size)⟩, rfl⟩
def fnd (n : Nat) (G : Nat → Nat → Int) (t : Nat → Int) (i : Nat) : Bool := decide (i < n) && (c3 (num (G i)) (num t) == 0)
def lower (n : Nat) (G : Nat → Nat → Int) (t : Nat → Int) : Nat := cnt n (fun k => decide (num (G k) < num t))

theorem bs_end {n i : Nat} {G : Nat → Nat → Int} {t : Nat → Int} {r : Bool} (h : lower n G t = i) (hr : r = fnd n G t i) :
    Ending.returned (.tuple #[.int .i64 (i : Int), .bool r]) = .returned (.tuple #[.int .i64 (lower n G t : Int), .bool (fnd n G t (lower n G t))]) := by
  rw [h, hr]
set_option maxHeartbeats 800000 in
theorem bs_any (M n c : Nat) (G : Nat → Nat → Int) (S : Nat → ByteArray) (t : Nat → Int) (w : World) (hn : n ≤ 4096) (hM : M < w.heap.size) (hP : Peers w M 0 n G S) (hG : ∀ k, k < n → Byt (G k)) (ht : Byt t)
    (hs : ∀ i j, i < j → j < n → num (G i) < num (G j)) :
    Calls Try.prog 23 #[.slice (some ⟨M, 0, none⟩) n c, .agg (idOf t), .func (.func 24) #[] #[]] w fun e w' => e = .returned (.tuple #[.int .i64 (lower n G t), .bool (fnd n G t (lower n G t))]) ∧ Below w.heap.size w w' := by
  have HP := hid hP
  have HG := hid hG
  have HT := hid ht
  have HS := hid hs
  clear hP hG ht hs
  go_enter Try.func23, Try.ntmps23
  go_wp2
  go_loopw [9, 10] (fun a b wr => ∃ i j : Nat, i ≤ j ∧ j ≤ n ∧ a = .int .i64 i ∧ b = .int .i64 j ∧ (∀ k, k < i → num (G k) < num t) ∧ (∀ k, j ≤ k → k < n → num t ≤ num (G k)) ∧ Blk wr w.heap.size 32 (idOf t) ∧ Below w.heap.size w wr) (fun a b _ => (intOf b).toNat - (intOf a).toNat)
  case atStart => exact ⟨0, n, by omega, by omega, rfl, rfl, fun k hk => by omega, fun k h1 h2 => by omega, Blk.new _ _ _, (Below.refl _ _).alloc (Nat.le_refl _) _⟩
  case round =>
    obtain ⟨i, j, hij, hjn, rfl, rfl, hlo, hhi, bt, hB⟩ := hrel
    have HLO := hid hlo
    have HHI := hid hhi
    have HBT := hid bt
    have HB := hid hB
    have hsz := hB.size
    have htl := bt.lt
    clear hlo hhi bt hB
    by_cases hlt : i < j
    · have hne := cw_some wr.heap.size wr
      have HL1 : Hid (∀ w', (∃ x : CW wr.heap.size wr, w' = x.val) → (Instr.loadAt 34 (.pointer (some ⟨M, (i + j) / 2 * 17, none⟩))).run Try.prog w' = .ok (.agg (peerOf (G ((i + j) / 2)) (S ((i + j) / 2)))) w') := by
        rintro w' ⟨x, rfl⟩
        have := HP.out ((i + j) / 2) (by omega)
        rw [Nat.zero_add] at this
        exact ld34 (range_below this (HB.out.trans (x.2.mono hsz)) hM)
      have HL2 : Hid (∀ w', (∃ x : CW wr.heap.size wr, w' = x.val) → (Instr.loadAt 32 (.pointer (some ⟨w.heap.size, 0, none⟩))).run Try.prog w' = .ok (.agg (idOf t)) w') := by
        rintro w' ⟨x, rfl⟩
        exact ld32 (Blk.range (cs := idL t) (HBT.out.below x.2 htl))
      have HC : Hid (∀ x : CW wr.heap.size wr, Calls Try.prog 24 #[.agg (peerOf (G ((i + j) / 2)) (S ((i + j) / 2))), .agg (idOf t)] x.val fun e w'' => e = .returned (.int .i64 (c3 (num (G ((i + j) / 2))) (num t))) ∧ ∃ y : CW wr.heap.size wr, w'' = y.val) :=
        fun x => cw_call x (clo24 _ _ _ _ (HG.out _ (by omega)) HT.out)
      go_wp2
      refine region_cw wr.heap.size (by kernel_rfl) (by kernel_rfl) ?_
      repeat (first | go_big_quiet_skip | (go_big_quiet_want; first | (refine quiet_ld 34 (.tmp 27) rfl rfl HL1.out ?_; simp only [Act.put, List.setIfInBounds_toArray, List.set_cons_zero, List.set_cons_succ]; go_big_quiet_on) | (refine quiet_ld 32 (.tmp 4) rfl rfl HL2.out ?_; simp only [Act.put, List.setIfInBounds_toArray, List.set_cons_zero, List.set_cons_succ]; go_big_quiet_on) | (go_big_quiet_op; first | go_big_quiet_on | go_big_quiet_call (exact HC.out _))))
      refine wpQuiet_nil ?_
      rintro _ ⟨⟨w2, hb2⟩, rfl⟩
      have HB2 := hid (HB.out.trans (hb2.mono hsz))
      have HBT2 := hid (HBT.out.below hb2 htl)
      clear hb2 hne
      by_cases hc : num (G ((i + j) / 2)) < num t
      · have hc2 : c3 (num (G ((i + j) / 2))) (num t) < 0 := by unfold c3; rw [if_pos hc]; decide
        have HLO2 : Hid (∀ k, k < (i + j) / 2 + 1 → num (G k) < num t) := by
          intro k hk
          by_cases e : k = (i + j) / 2
          · rw [e]; exact hc
          · have := HS.out k ((i + j) / 2) (by omega) (by omega); omega
        clear hc
        go_wp2
        go_roundw
        case rel => exact ⟨(i + j) / 2 + 1, j, by omega, by omega, by go_num, rfl, HLO2.out, HHI.out, HBT2.out, HB2.out⟩
        case measure => simp [intOf]; omega
      · have hc2 : ¬ c3 (num (G ((i + j) / 2))) (num t) < 0 := by unfold c3; rw [if_neg hc]; split <;> omega
        have HHI2 : Hid (∀ k, (i + j) / 2 ≤ k → k < n → num t ≤ num (G k)) := by
          intro k hk hkn
          by_cases e : k = (i + j) / 2
          · rw [e]; omega
          · have := HS.out ((i + j) / 2) k (by omega) (by omega); omega
        clear hc
        go_wp2
        go_roundw
        case rel => exact ⟨i, (i + j) / 2, by omega, by omega, rfl, by go_num, HLO.out, HHI2.out, HBT2.out, HB2.out⟩
        case measure => simp [intOf]; omega
    · have HLW : Hid (lower n G t = i) := by
        show lower n G t = i
        unfold lower
        rw [cnt_cut (k := i) (Q := fun _ => true) (by omega) (fun k hk => decide_eq_true (HLO.out k hk)) (fun k h1 h2 => decide_eq_false (by have := HHI.out k (by omega) h2; omega)), cnt_true]
      by_cases hin : i < n
      · have hne := cw_some wr.heap.size wr
        have HL1 : Hid (∀ w', (∃ x : CW wr.heap.size wr, w' = x.val) → (Instr.loadAt 34 (.pointer (some ⟨M, i * 17, none⟩))).run Try.prog w' = .ok (.agg (peerOf (G i) (S i))) w') := by
          rintro w' ⟨x, rfl⟩
          have := HP.out i hin
          rw [Nat.zero_add] at this
          exact ld34 (range_below this (HB.out.trans (x.2.mono hsz)) hM)
        have HL2 : Hid (∀ w', (∃ x : CW wr.heap.size wr, w' = x.val) → (Instr.loadAt 32 (.pointer (some ⟨w.heap.size, 0, none⟩))).run Try.prog w' = .ok (.agg (idOf t)) w') := by
          rintro w' ⟨x, rfl⟩
          exact ld32 (Blk.range (cs := idL t) (HBT.out.below x.2 htl))
        have HC : Hid (∀ x : CW wr.heap.size wr, Calls Try.prog 24 #[.agg (peerOf (G i) (S i)), .agg (idOf t)] x.val fun e w'' => e = .returned (.int .i64 (c3 (num (G i)) (num t))) ∧ ∃ y : CW wr.heap.size wr, w'' = y.val) :=
          fun x => cw_call x (clo24 _ _ _ _ (HG.out _ (by omega)) HT.out)
        go_wp2
        refine region_cw wr.heap.size (by kernel_rfl) (by kernel_rfl) ?_
        repeat (first | go_big_quiet_skip | (go_big_quiet_want; first | (refine quiet_ld 34 (.tmp 43) rfl rfl HL1.out ?_; simp only [Act.put, List.setIfInBounds_toArray, List.set_cons_zero, List.set_cons_succ]; go_big_quiet_on) | (refine quiet_ld 32 (.tmp 4) rfl rfl HL2.out ?_; simp only [Act.put, List.setIfInBounds_toArray, List.set_cons_zero, List.set_cons_succ]; go_big_quiet_on) | (go_big_quiet_op; first | go_big_quiet_on | go_big_quiet_call (exact HC.out _))))
        refine wpQuiet_nil ?_
        rintro _ ⟨⟨w2, hb2⟩, rfl⟩
        have HB2 := hid (HB.out.trans (hb2.mono hsz))
        clear hb2 hne
        go_wp2
        go_ret2
        exact ⟨bs_end HLW.out (by unfold fnd; rw [decide_eq_true hin]; rfl), HB2.out⟩
      · have hdi : decide (i < n) = false := decide_eq_false hin
        go_wp2
        go_quiet (fail)
        go_wp2
        go_ret2
        exact ⟨bs_end HLW.out (by unfold fnd; rw [hdi]; rfl), ⟨HB.out.os, HB.out.tape, HB.out.output, HB.out.size, HB.out.block⟩⟩

end Go.Proofs.Qxb6604152a.Ids
