/-
  FnKnowsClosestMatchesEndModel, walked.
-/
import Derived.Test.Qxb6604152aModel
namespace Go.Proofs.Qxb6604152a.Ids
open Go.ChangeShapes Go.WideShapes Go.ChangeAt Go.RowKit
open Go.Proofs.Qxb6604152a.Num
open Go.Proofs.Qxb6604152a.Rank

set_option maxHeartbeats 1600000 in
set_option maxRecDepth 10000 in
theorem match_walk (t : Nat → Int) (s : ByteArray) (size : Int) (a : Option Addr) (n c : Nat) (G : Nat → Nat → Int) (S : Nat → ByteArray) (a2 : Option Addr) (n2 c2 : Nat) (G2 : Nat → Nat → Int) (S2 : Nat → ByteArray) (w : World)
    (ht : Byt t) (hv : PView w a n G S) (hv2 : PView w a2 n2 G2 S2) :
    Calls Try.prog 5 #[.agg (peerOf t s), .int .i64 size, .slice a n c, .slice a2 n2 c2] w fun e w' => e = .returned (.bool true) ∧ Below w.heap.size w w' := by
  have HT := hid ht
  have HV := hid hv
  have HV2 := hid hv2
  clear ht hv hv2
  go_enter Try.func5, Try.ntmps5
  obtain ⟨w1, hw1⟩ : ∃ w1, w1 = w.alloc (.cells (peerOf t s) 24) := ⟨_, rfl⟩
  have k0 : Blk w1 w.heap.size 24 (peerOf t s) := by rw [hw1]; exact Blk.new _ _ _
  have HL0 := hid (show (Instr.loadAt 24 (.pointer (some ⟨w.heap.size, 0, none⟩))).run Try.prog (w.alloc (.cells (peerOf t s) 24)) = .ok (.agg (peerOf t s)) (w.alloc (.cells (peerOf t s) 24)) from ld24 (Blk.range (cs := peerL t s) (by rw [← hw1]; exact k0)))
  go_wp2_with ((with_reducible refine wl_load ?_ 24 (.tmp 4) ?_ ?_ HL0.out ?_); rfl; rfl; rfl; simp only [Act.put, List.setIfInBounds_toArray, List.set_cons_zero, List.set_cons_succ]; clear HL0)
  rw [← hw1]
  have B1 : Below w.heap.size w w1 := by rw [hw1]; exact (Below.refl _ _).alloc (Nat.le_refl _) _
  have z1 : w.heap.size < w1.heap.size := k0.lt
  clear hw1
  refine (bytes17 t s size a n c G S a2 n2 c2 G2 S2 w1 (HV.out.below B1) (HV2.out.below B1)).mono ?_
  rintro e w2 ⟨⟨r, rfl⟩, b2⟩
  have B2 := B1.trans (b2.mono (by omega))
  have k2 := k0.below b2 z1
  clear b2 k0 B1 z1
  cases r
  · go_wp2
    go_ret
    exact ⟨rfl, B2⟩
  by_cases hL : 4096 < n
  · go_wp2
    go_ret
    exact ⟨rfl, B2⟩
  by_cases hL2 : 4096 < n2
  · go_wp2
    go_ret
    exact ⟨rfl, B2⟩
  have z2 := k2.lt
  have HL0 := hid (ld24 (Blk.range (cs := peerL t s) k2))
  have HB2 := hid B2
  have HK2 := hid k2
  clear B2 k2
  go_wp2_with ((with_reducible refine wl_load ?_ 24 (.tmp 4) ?_ ?_ HL0.out ?_); rfl; rfl; rfl; simp only [Act.put, List.setIfInBounds_toArray, List.set_cons_zero, List.set_cons_succ]; clear HL0)
  refine (bytesOK t s a n c G S a2 n2 c2 G2 S2 w2 (by omega) (by omega) (HV.out.below HB2.out) (HV2.out.below HB2.out)).mono ?_
  rintro e w3 ⟨⟨r, rfl⟩, b3⟩
  have B3 := HB2.out.trans (b3.mono (by omega))
  have k3 := HK2.out.below b3 z2
  clear b3 HB2 HK2 z2
  cases r
  · go_wp2
    go_ret
    exact ⟨rfl, B3⟩
  have z3 := k3.lt
  have HB3 := hid B3
  have HK3 := hid k3
  clear B3 k3
  go_wp2_with fail
  refine (dom_any size a n c G S w3 (by omega) (HV.out.below HB3.out)).mono ?_
  rintro e w4 ⟨⟨r, rfl, hdom⟩, b4⟩
  have B4 := HB3.out.trans (b4.mono (by omega))
  have k4 := HK3.out.below b4 z3
  clear b4 HB3 HK3 z3
  cases r
  · go_wp2
    go_ret
    exact ⟨rfl, B4⟩
  obtain ⟨hd1, hd2, hd3, hd4⟩ := hdom rfl
  have HD1 := hid hd1
  have HD2 := hid hd2
  have HD3 := hid hd3
  have HD4 := hid hd4
  have z4 := k4.lt
  have HB4 := hid B4
  have HK4 := hid k4
  clear B4 k4 hdom hd1 hd2 hd3 hd4
  go_wp2_with fail
  refine (clone_gen a n c G S w4 (by omega) (HV.out.below HB4.out)).mono ?_
  rintro e w5 ⟨⟨a5, c5, rfl, v5⟩, b5⟩
  have B5 := HB4.out.trans (b5.mono (by omega))
  have k5 := HK4.out.below b5 z4
  have z5 := k5.lt
  have HV5 := hid v5
  have HB5 := hid B5
  have HK5 := hid k5
  clear b5 HB4 HK4 z4 v5 B5 k5
  go_wp2_with fail
  refine (clone_gen a2 n2 c2 G2 S2 w5 (by omega) (HV2.out.below HB5.out)).mono ?_
  rintro e w6 ⟨⟨a6, c6, rfl, v6⟩, b6⟩
  have B6 := HB5.out.trans (b6.mono (by omega))
  have k6 := HK5.out.below b6 z5
  have z6 := k6.lt
  have HV56 := hid (HV5.out.below b6)
  have HV6 := hid v6
  have hne := cw_some w6.heap.size w6
  have HLs : Hid (∀ w', (∃ x : CW w6.heap.size w6, w' = x.val) → (Instr.loadAt 22 (.pointer (some ⟨w.heap.size, 0, none⟩))).run Try.prog w' = .ok (.agg (idOf t)) w') := by
    rintro w' ⟨x, rfl⟩
    exact ld22 (range_peer_id (Blk.range (cs := peerL t s) (k6.below x.2 z6)))
  have q16 : ∀ x : CW w6.heap.size w6, x.val.cell? ⟨w.heap.size, 16, none⟩ = some (.string s) := fun x => ((k6.below x.2 z6).cell 16).trans (peerOf_str t s)
  have hS0 : ∃ x : CW w6.heap.size w6, w6.drew = x.val := ⟨⟨w6.drew, (Below.refl _ _).drew⟩, rfl⟩
  have HK6 := hid k6
  have HB6 := hid B6
  clear b6 HB5 HK5 z5 v6 k6 B6 HV5
  go_wp2
  refine wp_region_held (S := fun w' => ∃ x : CW w6.heap.size w6, w' = x.val) (by kernel_rfl) ?_
  change wpAnyH Try.prog .any _ _ _ 10 (Array.replicate 10 false) _ w6.drew
  refine take_quiet (i := 0) rfl (by kernel_rfl) (by kernel_rfl) (by kernel_rfl) (fun _ _ _ _ h => h) (by rfl) (by rfl) hS0 ?_
  intro K hK
  simp only [List.getElem_toArray, List.getElem_cons_zero]
  go_big_quiet_op
  go_big_quiet_on
  refine take_quiet (i := 1) rfl (by kernel_rfl) (by kernel_rfl) (by kernel_rfl) (fun _ _ _ _ h => h) (by rfl) (by rfl) hS0 ?_
  intro K hK
  simp only [List.getElem_toArray, List.getElem_cons_zero, List.getElem_cons_succ]
  refine quiet_ld 22 (.tmp 36) rfl rfl HLs.out ?_
  simp only [Act.put, List.setIfInBounds_toArray, List.set_cons_zero, List.set_cons_succ]
  go_big_quiet_on
  refine take_quiet (i := 2) rfl (by kernel_rfl) (by kernel_rfl) (by kernel_rfl) (fun _ _ _ _ h => h) (by rfl) (by rfl) hS0 ?_
  intro K hK
  simp only [List.getElem_toArray, List.getElem_cons_zero, List.getElem_cons_succ]
  go_big_quiet_op
  go_big_quiet_on
  refine take_quiet (i := 3) rfl (by kernel_rfl) (by kernel_rfl) (by kernel_rfl) (fun _ _ _ _ h => h) (by rfl) (by rfl) hS0 ?_
  intro K hK
  simp only [List.getElem_toArray, List.getElem_cons_zero, List.getElem_cons_succ]
  go_big_quiet_op
  go_big_quiet_on
  refine take_quiet (i := 4) rfl (by kernel_rfl) (by kernel_rfl) (by kernel_rfl) (fun _ _ _ _ h => h) (by rfl) (by rfl) hS0 ?_
  intro K hK
  simp only [List.getElem_toArray, List.getElem_cons_zero, List.getElem_cons_succ]
  refine quiet_build2 34 0 1 (.tmp 37) (.tmp 39) rfl rfl rfl (build34 t s) ?_
  simp only [Act.put, List.setIfInBounds_toArray, List.set_cons_zero, List.set_cons_succ]
  go_big_quiet_on
  refine take_quiet (i := 5) rfl (by kernel_rfl) (by kernel_rfl) (by kernel_rfl) (fun _ _ _ _ h => h) (by rfl) (by rfl) hS0 ?_
  intro K hK
  simp only [List.getElem_toArray, List.getElem_cons_zero, List.getElem_cons_succ]
  go_big_quiet_op
  go_big_quiet_on
  refine take_quiet (i := 6) rfl (by kernel_rfl) (by kernel_rfl) (by kernel_rfl) (fun _ _ _ _ h => h) (by rfl) (by rfl) hS0 ?_
  intro K hK
  simp only [List.getElem_toArray, List.getElem_cons_zero, List.getElem_cons_succ]
  go_big_quiet_op
  go_big_quiet_on
  refine one_call (i := 7) rfl (by kernel_rfl) (by rfl) (f := 11) (args := #[.slice a5 n c5]) (by kernel_rfl) (peers_gen a5 n c5 G S w6.drew (by omega) (PView.below HV56.out.view (Below.refl _ _).drew)) ?_
  rintro e w7 ⟨⟨a7, c7, rfl, v7⟩, b7⟩
  have b67 : Below w6.heap.size w6 w7 := (Below.refl _ _).drew.trans b7
  refine ⟨_, rfl, ⟨⟨w7, b67⟩, rfl⟩, ?_⟩
  simp only [List.getElem_toArray, List.getElem_cons_zero, List.getElem_cons_succ, Act.put, List.setIfInBounds_toArray, List.set_cons_zero, List.set_cons_succ]
  refine one_call (i := 8) rfl (by kernel_rfl) (by rfl) (f := 10) (args := #[.agg (peerOf t s), .int .i64 size, .slice a7 n c7]) (by kernel_rfl) (new_gen t s size a7 n c7 w7) ?_
  rintro e w8 ⟨rfl, hL8, b8⟩
  have b68 : Below w6.heap.size w6 w8 := b67.trans (b8.mono b67.size)
  refine ⟨_, rfl, ⟨⟨w8, b68⟩, rfl⟩, ?_⟩
  simp only [List.getElem_toArray, List.getElem_cons_zero, List.getElem_cons_succ, Act.put, List.setIfInBounds_toArray, List.set_cons_zero, List.set_cons_succ]
  refine take_quiet (i := 9) rfl (by kernel_rfl) (by kernel_rfl) (by kernel_rfl) (fun _ _ _ _ h => h) (by rfl) (by rfl) ⟨⟨w8, b68⟩, rfl⟩ ?_
  intro K hK
  simp only [List.getElem_toArray, List.getElem_cons_zero, List.getElem_cons_succ]
  go_big_quiet_op
  go_big_quiet_on
  refine wpAnyH_done (by kernel_rfl) ?_ _
  have z67 := b67.size
  have z78 := b8.size
  have HL8 := hid hL8
  have HV78 := hid (v7.below b8)
  have HV58 := hid (HV56.out.below b68)
  have HV68 := hid (HV6.out.below b68)
  have HK8 := hid (HK6.out.below b68 z6)
  have HB8 := hid (HB6.out.trans (b68.mono (by omega)))
  have z8 : w.heap.size < w8.heap.size := by omega
  clear hL8 v7 b7 b67 b8 b68 hS0 q16 HLs hne HV56 HV6 HK6 HB6
  go_wp2_with fail
  refine (peers_gen a6 n2 c6 G2 S2 w8 (by omega) HV68.out.view).mono ?_
  rintro e w9 ⟨⟨a9, c9, rfl, v9⟩, b9⟩
  have z9 := b9.size
  have hLt := HL8.out.lt
  have HL9 := hid (HL8.out.below b9 hLt)
  have HV79 := hid (HV78.out.below b9)
  have HV59 := hid (HV58.out.below b9)
  have HV69 := hid (HV68.out.below b9)
  have HV9 := hid v9
  have HK9 := hid (HK8.out.below b9 z8)
  have HB9 := hid (HB8.out.trans (b9.mono (by omega)))
  clear b9 v9 HL8 HV78 HV58 HV68 HK8 HB8 hLt
  go_wp2_with fail
  refine (knows19 (w7.heap.size + 1) t size a7 n c7 G S a9 n2 c9 G2 S2 w9 HL9.out HV79.out HV9.out HT.out (by omega) (by omega) HD1.out HD2.out HD3.out HD4.out).mono ?_
  rintro e w10 ⟨⟨r1, rfl, hr1⟩, b10⟩
  have z10 := b10.size
  have HR1 := hid hr1
  have HV5a := hid (HV59.out.below b10)
  have HV6a := hid (HV69.out.below b10)
  have HBa := hid (HB9.out.trans (b10.mono (by omega)))
  have HLs := hid (ld22 (range_peer_id (Blk.range (cs := peerL t s) (HK9.out.below b10 (by omega)))))
  clear b10 hr1 HV59 HV69 HK9 HB9 HL9 HV79 HV9
  go_wp2_with ((with_reducible refine wl_load ?_ 22 (.tmp 50) ?_ ?_ HLs.out ?_); rfl; rfl; rfl; simp only [Act.put, List.setIfInBounds_toArray, List.set_cons_zero, List.set_cons_succ]; clear HLs)
  refine (model20 t size a5 n c5 G S a6 n2 c6 G2 S2 w10 HV5a.out HV6a.out HT.out (by omega) (by omega) HD1.out HD2.out HD3.out HD4.out).mono ?_
  rintro e w11 ⟨⟨r2, rfl, hr2⟩, b11⟩
  have HBb := hid (HBa.out.trans (b11.mono (by omega)))
  obtain rfl : r1 = r2 := Bool.eq_iff_iff.mpr (HR1.out.trans hr2.symm)
  clear hr2 b11 HR1 HBa
  go_wp2
  go_ret
  refine ⟨?_, HBb.out⟩
  simp
end Go.Proofs.Qxb6604152a.Ids
