/-
  FnFullEndsAreRanksOfRingDistance, walked.
-/
import Derived.Test.Qxb6604152aByRank
namespace Go.Proofs.Qxb6604152a.Ids
open Go.ChangeShapes Go.WideShapes Go.ChangeAt Go.RowKit
open Go.Proofs.Qxb6604152a.Num
open Go.Proofs.Qxb6604152a.Rank

set_option maxHeartbeats 1600000 in
set_option maxRecDepth 10000 in
theorem far_walk (t : Nat → Int) (s : ByteArray) (size : Int) (a : Option Addr) (n c : Nat) (G : Nat → Nat → Int) (S : Nat → ByteArray) (w : World) (ht : Byt t) (hv : PView w a n G S) :
    Calls Try.prog 3 #[.agg (peerOf t s), .int .i64 size, .slice a n c] w fun e w' => e = .returned (.bool true) ∧ Below w.heap.size w w' := by
  have HT := hid ht
  have HV := hid hv
  clear ht hv
  go_enter Try.func3, Try.ntmps3
  obtain ⟨w1, hw1⟩ : ∃ w1, w1 = w.alloc (.cells (peerOf t s) 24) := ⟨_, rfl⟩
  have k0 : Blk w1 w.heap.size 24 (peerOf t s) := by rw [hw1]; exact Blk.new _ _ _
  have HL0 := hid (show (Instr.loadAt 24 (.pointer (some ⟨w.heap.size, 0, none⟩))).run Try.prog (w.alloc (.cells (peerOf t s) 24)) = .ok (.agg (peerOf t s)) (w.alloc (.cells (peerOf t s) 24)) from ld24 (Blk.range (cs := peerL t s) (by rw [← hw1]; exact k0)))
  go_wp2_with ((with_reducible refine wl_load ?_ 24 (.tmp 3) ?_ ?_ HL0.out ?_); rfl; rfl; rfl; simp only [Act.put, List.setIfInBounds_toArray, List.set_cons_zero, List.set_cons_succ]; clear HL0)
  rw [← hw1]
  have B1 : Below w.heap.size w w1 := by rw [hw1]; exact (Below.refl _ _).alloc (Nat.le_refl _) _
  have z1 : w.heap.size < w1.heap.size := k0.lt
  clear hw1
  refine (bytes6 t s size a n c G S w1 (HV.out.below B1)).mono ?_
  rintro e w2 ⟨⟨r, rfl⟩, b2⟩
  have B2 := B1.trans (b2.mono (by omega))
  have k2 := k0.below b2 z1
  clear b2 k0 B1 z1
  cases r
  · go_wp2
    go_ret
    exact ⟨rfl, B2⟩
  by_cases hL : 4096 < n
  · go_wp2
    go_ret
    exact ⟨rfl, B2⟩
  have z2 := k2.lt
  have HL0 := hid (ld24 (Blk.range (cs := peerL t s) k2))
  have HB2 := hid B2
  have HK2 := hid k2
  clear B2 k2
  go_wp2_with ((with_reducible refine wl_load ?_ 24 (.tmp 3) ?_ ?_ HL0.out ?_); rfl; rfl; rfl; simp only [Act.put, List.setIfInBounds_toArray, List.set_cons_zero, List.set_cons_succ]; clear HL0)
  refine (bytesOK t s a n c G S none 0 0 G S w2 (by omega) (by omega) (HV.out.below HB2.out) (fun h => by omega)).mono ?_
  rintro e w3 ⟨⟨r, rfl⟩, b3⟩
  have B3 := HB2.out.trans (b3.mono (by omega))
  have k3 := HK2.out.below b3 z2
  clear b3 HB2 HK2 z2
  cases r
  · go_wp2
    go_ret
    exact ⟨rfl, B3⟩
  have z3 := k3.lt
  have HB3 := hid B3
  have HK3 := hid k3
  clear B3 k3
  go_wp2_with fail
  refine (full_any size a n c G S w3 (by omega) (HV.out.below HB3.out)).mono ?_
  rintro e w4 ⟨⟨r, rfl, hfull⟩, b4⟩
  have B4 := HB3.out.trans (b4.mono (by omega))
  have k4 := HK3.out.below b4 z3
  clear b4 HB3 HK3 z3
  cases r
  · go_wp2
    go_ret
    exact ⟨rfl, B4⟩
  obtain ⟨rfl, hn2, hnev, hasc⟩ := hfull rfl
  have HASC := hid hasc
  have z4 := k4.lt
  obtain ⟨b, off, rfl, hb, hP, hG⟩ := HV.out (by omega)
  have HG := hid hG
  have HP4 := hid (hP.below B4 hb)
  have HB4 := hid B4
  have HK4 := hid k4
  clear B4 k4 hfull hasc hG hP
  go_wp2_with fail
  refine (clone_pos b off n c G S w4 (by omega) (by omega) (by omega) HP4.out).mono ?_
  rintro e w5 ⟨rfl, hP5, hz5, b5⟩
  have B5 := HB4.out.trans (b5.mono (by omega))
  have k5 := HK4.out.below b5 z4
  have hM1 : w4.heap.size < w5.heap.size := hz5
  clear b5 HB4 HK4 HP4
  have z5 := k5.lt
  have hne := cw_some w5.heap.size w5
  have HLs : Hid (∀ w', (∃ x : CW w5.heap.size w5, w' = x.val) → (Instr.loadAt 22 (.pointer (some ⟨w.heap.size, 0, none⟩))).run Try.prog w' = .ok (.agg (idOf t)) w') := by
    rintro w' ⟨x, rfl⟩
    exact ld22 (range_peer_id (Blk.range (cs := peerL t s) (k5.below x.2 z5)))
  have q16 : ∀ x : CW w5.heap.size w5, x.val.cell? ⟨w.heap.size, 16, none⟩ = some (.string s) := fun x => ((k5.below x.2 z5).cell 16).trans (peerOf_str t s)
  have hS0 : ∃ x : CW w5.heap.size w5, w5.drew = x.val := ⟨⟨w5.drew, (Below.refl _ _).drew⟩, rfl⟩
  have HP5 := hid hP5
  have HK5 := hid k5
  have HB5 := hid B5
  clear hP5 k5 B5 hz5
  go_wp2
  refine wp_region_held (S := fun w' => ∃ x : CW w5.heap.size w5, w' = x.val) (by kernel_rfl) ?_
  change wpAnyH Try.prog .any _ _ _ 10 (Array.replicate 10 false) _ w5.drew
  refine take_quiet (i := 0) rfl (by kernel_rfl) (by kernel_rfl) (by kernel_rfl) (fun _ _ _ _ h => h) (by rfl) (by rfl) hS0 ?_
  intro K hK
  simp only [List.getElem_toArray, List.getElem_cons_zero]
  go_big_quiet_op
  go_big_quiet_on
  refine take_quiet (i := 1) rfl (by kernel_rfl) (by kernel_rfl) (by kernel_rfl) (fun _ _ _ _ h => h) (by rfl) (by rfl) hS0 ?_
  intro K hK
  simp only [List.getElem_toArray, List.getElem_cons_zero, List.getElem_cons_succ]
  refine quiet_ld 22 (.tmp 30) rfl rfl HLs.out ?_
  simp only [Act.put, List.setIfInBounds_toArray, List.set_cons_zero, List.set_cons_succ]
  go_big_quiet_on
  refine take_quiet (i := 2) rfl (by kernel_rfl) (by kernel_rfl) (by kernel_rfl) (fun _ _ _ _ h => h) (by rfl) (by rfl) hS0 ?_
  intro K hK
  simp only [List.getElem_toArray, List.getElem_cons_zero, List.getElem_cons_succ]
  go_big_quiet_op
  go_big_quiet_on
  refine take_quiet (i := 3) rfl (by kernel_rfl) (by kernel_rfl) (by kernel_rfl) (fun _ _ _ _ h => h) (by rfl) (by rfl) hS0 ?_
  intro K hK
  simp only [List.getElem_toArray, List.getElem_cons_zero, List.getElem_cons_succ]
  go_big_quiet_op
  go_big_quiet_on
  refine take_quiet (i := 4) rfl (by kernel_rfl) (by kernel_rfl) (by kernel_rfl) (fun _ _ _ _ h => h) (by rfl) (by rfl) hS0 ?_
  intro K hK
  simp only [List.getElem_toArray, List.getElem_cons_zero, List.getElem_cons_succ]
  refine quiet_build2 34 0 1 (.tmp 31) (.tmp 33) rfl rfl rfl (build34 t s) ?_
  simp only [Act.put, List.setIfInBounds_toArray, List.set_cons_zero, List.set_cons_succ]
  go_big_quiet_on
  refine take_quiet (i := 5) rfl (by kernel_rfl) (by kernel_rfl) (by kernel_rfl) (fun _ _ _ _ h => h) (by rfl) (by rfl) hS0 ?_
  intro K hK
  simp only [List.getElem_toArray, List.getElem_cons_zero, List.getElem_cons_succ]
  go_big_quiet_op
  go_big_quiet_on
  refine take_quiet (i := 6) rfl (by kernel_rfl) (by kernel_rfl) (by kernel_rfl) (fun _ _ _ _ h => h) (by rfl) (by rfl) hS0 ?_
  intro K hK
  simp only [List.getElem_toArray, List.getElem_cons_zero, List.getElem_cons_succ]
  go_big_quiet_op
  go_big_quiet_on
  refine one_call (i := 7) rfl (by kernel_rfl) (by rfl) (f := 11) (args := #[.slice (some ⟨w4.heap.size, 0, none⟩) n n]) (by kernel_rfl) (peers_pos w4.heap.size 0 n n G S w5.drew (by omega) (by omega) hM1 HP5.out) ?_
  rintro e w6 ⟨rfl, hP6, hz6, b6⟩
  refine ⟨_, rfl, ⟨⟨w6, (Below.refl _ _).drew.trans b6⟩, rfl⟩, ?_⟩
  simp only [List.getElem_toArray, List.getElem_cons_zero, List.getElem_cons_succ, Act.put, List.setIfInBounds_toArray, List.set_cons_zero, List.set_cons_succ]
  refine one_call (i := 8) rfl (by kernel_rfl) (by rfl) (f := 10) (args := #[.agg (peerOf t s), .int .i64 n, .slice (some ⟨w5.drew.heap.size, 0, none⟩) n n]) (by kernel_rfl) (new_any t s n w5.drew.heap.size n n w6) ?_
  rintro e w7 ⟨rfl, hL7, b7⟩
  have b57 : Below w5.heap.size w5 w7 := ((Below.refl w5.heap.size w5).drew.trans b6).trans (b7.mono (Nat.le_of_lt hz6))
  refine ⟨_, rfl, ⟨⟨w7, b57⟩, rfl⟩, ?_⟩
  simp only [List.getElem_toArray, List.getElem_cons_zero, List.getElem_cons_succ, Act.put, List.setIfInBounds_toArray, List.set_cons_zero, List.set_cons_succ]
  refine take_quiet (i := 9) rfl (by kernel_rfl) (by kernel_rfl) (by kernel_rfl) (fun _ _ _ _ h => h) (by rfl) (by rfl) ⟨⟨w7, b57⟩, rfl⟩ ?_
  intro K hK
  simp only [List.getElem_toArray, List.getElem_cons_zero, List.getElem_cons_succ]
  go_big_quiet_op
  go_big_quiet_on
  refine wpAnyH_done (by kernel_rfl) ?_ _
  have z56 : w5.heap.size < w6.heap.size := hz6
  have hz7 := b7.size
  have hP7 := hP6.below b7 hz6
  have hM7 := HP5.out.below b57 hM1
  have k7 := HK5.out.below b57 z5
  have B7 := HB5.out.trans (b57.mono (by have := HB5.out.size; omega))
  have z7 : w.heap.size < w7.heap.size := k7.lt
  have zM : w4.heap.size < w7.heap.size := by omega
  have HL7 := hid hL7
  have HP7 := hid hP7
  have HM7 := hid hM7
  have HK7 := hid k7
  have HB7 := hid B7
  clear hL7 hP7 hM7 k7 B7 hP6 b7 b57 hS0 q16 HLs hne HP5 HK5 HB5 b6
  go_wp2_with fail
  refine (zzEnds_any (w6.heap.size + 1) w5.drew.heap.size n G S t w7 hn2 (by omega) (Nat.lt_of_lt_of_le hz6 hz7) HL7.out HP7.out HG.out HT.out HASC.out).mono ?_
  obtain ⟨i1, hi1⟩ : ∃ i, i = (lower n G t + n / 2 - 1) % n := ⟨_, rfl⟩
  obtain ⟨i2, hi2⟩ : ∃ i, i = (lower n G t + n / 2) % n := ⟨_, rfl⟩
  rw [← hi1, ← hi2]
  rintro e w8 ⟨rfl, b8⟩
  have HI1 := hid hi1
  have HI2 := hid hi2
  have HM8 := hid (HM7.out.below b8 zM)
  have HK8 := hid (HK7.out.below b8 z7)
  have HB8 := hid (HB7.out.trans (b8.mono (by omega)))
  have z8 : w7.heap.size ≤ w8.heap.size := b8.size
  clear hi1 hi2 b8 HL7 HP7 HM7 HK7 HB7
  have i1lt : i1 < n := by rw [HI1.out]; exact Nat.mod_lt _ (by omega)
  have i2lt : i2 < n := by rw [HI2.out]; exact Nat.mod_lt _ (by omega)
  have gF := HG.out i1 i1lt
  have gK := HG.out i2 i2lt
  have hE1 : ∀ w, (Op.equalIn 10000 22 (.agg (idOf (G i1))) (.agg (idOf (G i1)))).run Try.prog w = .ok true w := fun w => by
    rw [eq22 _ _ gF gF, decide_eq_true rfl]
  have hE2 : ∀ w, (Op.equalIn 10000 22 (.agg (idOf (G i2))) (.agg (idOf (G i2)))).run Try.prog w = .ok true w := fun w => by
    rw [eq22 _ _ gK gK, decide_eq_true rfl]
  have hg22 : Try.prog.eqGuardType Try.prog.depth 22 = false := by kernel_rfl
  have zM8 : w4.heap.size < w8.heap.size := by omega
  have zK8 : w.heap.size < w8.heap.size := HK8.out.lt
  clear gF gK
  go_wp2_with (first
    | ((with_reducible refine wl_row32 (g := G i1) ?_ (.tmp 8) (.tmp 42) ?_ ?_ ?_ ((Blk.new w8 32 _).alloc _) ?_ ?_); rfl; rfl; rfl; rfl; rfl; simp only [Act.put]; intro s1 l1; have HJ1 := hid (l1.other (w8.heap.size + 1) 32 Z16 (by omega) (blk_new1 w8 _ _ _ _)); have HS1 := hid l1.same; have HQ1 := hid (l1.below _ _ (Nat.le_refl _) (((Below.refl w8.heap.size w8).alloc (Nat.le_refl _) _).alloc (by simp) _)); have HN1 := hid (l1.size.trans (size2 w8 _ _)); clear l1)
    | ((with_reducible refine wl_row32 (g := G i2) ?_ (.tmp 9) (.tmp 43) ?_ ?_ ?_ HJ1.out ?_ ?_); rfl; rfl; rfl; rfl; rfl; simp only [Act.put]; intro s2 l2; have HF2 := hid (l2.other _ _ _ (by omega) HS1.out); have HK2 := hid l2.same; have HQ2 := hid (l2.below _ _ (by omega) HQ1.out); have HN2 := hid (l2.size.trans HN1.out); clear l2 HJ1 HS1 HQ1 HN1)
    | ((with_reducible refine wl_load ?_ 22 (.tmp 45) ?_ ?_ (ld22 (range_peer_id (Blk.range (cs := peerL t s) (HK8.out.below HQ2.out zK8)))) ?_); rfl; rfl; rfl; simp only [Act.put, List.setIfInBounds_toArray, List.set_cons_zero, List.set_cons_succ]))
  have n2 := HN2.out
  refine (byRank_any t w4.heap.size 0 n n G S s2 hn2 (by omega) (by omega) (HM8.out.below HQ2.out zM8) HG.out HT.out HASC.out).mono ?_
  rw [← HI1.out, ← HI2.out]
  rintro e w9 ⟨rfl, b9⟩
  have HF9 := hid (HF2.out.below b9 (by omega))
  have HK9 := hid (HK2.out.below b9 (by omega))
  have HB9 := hid ((HB8.out.trans (HQ2.out.mono (by omega))).trans (b9.mono (by omega)))
  have z9 : w8.heap.size + 2 ≤ w9.heap.size := by have := b9.size; omega
  clear b9 HF2 HK2 HQ2 HN2 n2 HB8 HK8 HM8
  go_wp2_with (first
    | ((with_reducible refine wl_row22 (g := G i1) ?_ (.tmp 10) (.tmp 49) ?_ ?_ ?_ ((Blk.new w9 22 _).alloc _) ?_ ?_); rfl; rfl; rfl; rfl; rfl; simp only [Act.put]; intro s3 l3; have HJ3 := hid (l3.other (w9.heap.size + 1) 22 Z16 (by omega) (blk_new1 w9 _ _ _ _)); have HS3 := hid l3.same; have HF3 := hid (l3.other _ _ _ (by omega) ((HF9.out.alloc _).alloc _)); have HK3 := hid (l3.other _ _ _ (by omega) ((HK9.out.alloc _).alloc _)); have HQ3 := hid (l3.below _ _ (by omega) ((HB9.out.alloc (by omega) _).alloc (by rw [size1]; omega) _)); clear l3 HF9 HK9 HB9)
    | ((with_reducible refine wl_row22 (g := G i2) ?_ (.tmp 11) (.tmp 50) ?_ ?_ ?_ HJ3.out ?_ ?_); rfl; rfl; rfl; rfl; rfl; simp only [Act.put]; intro s4 l4; have HS4 := hid (l4.other _ _ _ (by omega) HS3.out); have HT4 := hid l4.same; have HF4 := hid (l4.other _ _ _ (by omega) HF3.out); have HK4 := hid (l4.other _ _ _ (by omega) HK3.out); have HQ4 := hid (l4.below _ _ (by omega) HQ3.out); clear l4 HJ3 HS3 HF3 HK3 HQ3)
    | ((with_reducible refine wl_load ?_ 32 (.tmp 8) ?_ ?_ (ld32 (Blk.range (cs := idL (G i1)) HF4.out)) ?_); rfl; rfl; rfl; simp only [Act.put, List.setIfInBounds_toArray, List.set_cons_zero, List.set_cons_succ])
    | ((with_reducible refine wl_load ?_ 22 (.tmp 10) ?_ ?_ (ld22 (Blk.range (cs := idL (G i1)) HS4.out)) ?_); rfl; rfl; rfl; simp only [Act.put, List.setIfInBounds_toArray, List.set_cons_zero, List.set_cons_succ])
    | ((with_reducible refine wl_load_w ?_ 32 (.tmp 9) ?_ ?_ (ld32 (Blk.range (cs := idL (G i2)) HK4.out)) ?_); rfl; rfl; rfl; simp only [Act.put, List.setIfInBounds_toArray, List.set_cons_zero, List.set_cons_succ])
    | ((with_reducible refine wl_load_w ?_ 22 (.tmp 11) ?_ ?_ (ld22 (Blk.range (cs := idL (G i2)) HT4.out)) ?_); rfl; rfl; rfl; simp only [Act.put, List.setIfInBounds_toArray, List.set_cons_zero, List.set_cons_succ]))
  go_ret
  exact ⟨rfl, HQ4.out⟩
end Go.Proofs.Qxb6604152a.Ids
