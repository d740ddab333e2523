/-
  zzModelKnows.
-/
import Derived.Test.Qxb6604152aKnows
import Derived.Test.Qxb6604152aByRank
namespace Go.Proofs.Qxb6604152a.Ids
open Go.ChangeShapes Go.WideShapes Go.ChangeAt Go.RowKit
open Go.Proofs.Qxb6604152a.Num
open Go.Proofs.Qxb6604152a.Rank

set_option maxHeartbeats 3200000 in
set_option maxRecDepth 10000 in
theorem model20 (t : Nat → Int) (size : Int) (a : Option Addr) (n c : Nat) (G : Nat → Nat → Int) (S : Nat → ByteArray) (a2 : Option Addr) (n2 c2 : Nat) (G2 : Nat → Nat → Int) (S2 : Nat → ByteArray) (w : World)
    (hv : PV2 w a n c G S) (hv2 : PV2 w a2 n2 c2 G2 S2) (ht : Byt t) (hn : n ≤ 4096) (hn2 : n2 ≤ 4096) (hs : 0 < size) (hev : size % 2 = 0) (hle : (n : Int) ≤ size) (hasc : (n : Int) = size → Asc n G) :
    Calls Try.prog 20 #[.agg (idOf t), .int .i64 size, .slice a n c, .slice a2 n2 c2] w fun e w' => KEnd ((n : Int) < size ∨ Kn (num (G ((lower n G t + n / 2 - 1) % n))) (num (G ((lower n G t + n / 2) % n))) n2 (fun k => num (G2 k))) e ∧ Below w.heap.size w w' := by
  obtain ⟨i1, hi1⟩ : ∃ i, i = (lower n G t + n / 2 - 1) % n := ⟨_, rfl⟩
  obtain ⟨i2, hi2⟩ : ∃ i, i = (lower n G t + n / 2) % n := ⟨_, rfl⟩
  rw [← hi1, ← hi2]
  have HI1 := hid hi1
  have HI2 := hid hi2
  have HV := hid hv
  have HV2 := hid hv2
  have HT := hid ht
  have HA := hid hasc
  have HB0 := hid ((Below.refl w.heap.size w).alloc (Nat.le_refl _) (.cells (idOf t) 22))
  have HL0 := hid (ld22 (Blk.range (cs := idL t) (Blk.new w 22 (idOf t))))
  clear hi1 hi2 hv hv2 ht hasc
  by_cases hfull : (n : Int) < size
  · go_enter Try.func20, Try.ntmps20
    go_wp2
    go_ret
    exact ⟨KEnd.yes (.inl hfull), HB0.out⟩
  · obtain rfl : size = (n : Int) := by omega
    have hn0 : 2 ≤ n := by omega
    obtain ⟨M, rfl, rfl, hM, hP, hG⟩ := HV.out (by omega)
    have HP := hid hP
    have HG := hid hG
    have HASC := hid (HA.out rfl)
    have i1lt : i1 < c := by rw [HI1.out]; exact Nat.mod_lt _ (by omega)
    have i2lt : i2 < c := by rw [HI2.out]; exact Nat.mod_lt _ (by omega)
    have HGF := hid (HG.out i1 i1lt)
    have HGK := hid (HG.out i2 i2lt)
    clear hP hG HV HA hle
    go_enter Try.func20, Try.ntmps20
    go_wp2_with ((with_reducible refine wl_load ?_ 22 (.tmp 4) ?_ ?_ HL0.out ?_); rfl; rfl; rfl; simp only [Act.put, List.setIfInBounds_toArray, List.set_cons_zero, List.set_cons_succ]; clear HL0)
    have hz1 : (w.alloc (.cells (idOf t) 22)).heap.size = w.heap.size + 1 := size1 _ _
    refine (byRank_any t M 0 c c G S (w.alloc (.cells (idOf t) 22)) hn0 hn (by omega) (HP.out.below HB0.out hM) HG.out HT.out HASC.out).mono ?_
    rw [← HI1.out, ← HI2.out]
    rintro e w8 ⟨rfl, b8⟩
    have HB8 := hid (HB0.out.trans (b8.mono (by omega)))
    have z8 : w.heap.size ≤ w8.heap.size := by have := b8.size; omega
    clear b8 HI1 HI2 HB0 HP HASC hz1
    go_wp2_with (first
      | ((with_reducible refine wl_row22 (g := G i1) ?_ (.tmp 9) (.tmp 22) ?_ ?_ ?_ ((Blk.new w8 22 _).alloc _) ?_ ?_); rfl; rfl; rfl; rfl; rfl; simp only [Act.put]; intro s1 l1; have HJ1 := hid (l1.other (w8.heap.size + 1) 22 Z16 (by omega) (blk_new1 w8 _ _ _ _)); have HS1 := hid l1.same; have HQ1 := hid (l1.below _ _ (Nat.le_refl _) (((Below.refl w8.heap.size w8).alloc (Nat.le_refl _) _).alloc (by simp) _)); have HN1 := hid (l1.size.trans (size2 w8 _ _)); clear l1)
      | ((with_reducible refine wl_row22 (g := G i2) ?_ (.tmp 10) (.tmp 23) ?_ ?_ ?_ HJ1.out ?_ ?_); rfl; rfl; rfl; rfl; rfl; simp only [Act.put]; intro s2 l2; have HF2 := hid (l2.other _ _ _ (by omega) HS1.out); have HK2 := hid l2.same; have HQ2 := hid (l2.below _ _ (by omega) HQ1.out); have HN2 := hid (l2.size.trans HN1.out); clear l2 HJ1 HS1 HQ1 HN1))
    have n2z := HN2.out
    have HB2 := hid (HB8.out.trans (HQ2.out.mono z8))
    have HV3 := hid (HV2.out.below HB2.out)
    clear HQ2 HV2 HB8
    go_loopw [12] (fun i wr => ∃ k : Nat, k ≤ n2 ∧ i = .int .i64 k ∧ (∀ j, j < k → ¬ Hit (num (G i1)) (num (G i2)) n2 (fun k => num (G2 k)) j) ∧ Below s2.heap.size s2 wr) (fun i _ => n2 - (intOf i).toNat)
    case atStart => exact ⟨0, by omega, rfl, fun j hj => by omega, Below.refl _ _⟩
    case round =>
      obtain ⟨k, hk, rfl, hno, hBr⟩ := hrel
      have hzr := hBr.size
      have HNO := hid hno
      have HBr := hid (HB2.out.trans (hBr.mono (by omega)))
      have HFr := hid (HF2.out.below hBr (by omega))
      have HKr := hid (HK2.out.below hBr (by omega))
      by_cases hlt : k < n2
      · obtain ⟨M2, rfl, rfl, hM2, hP2, hG2⟩ := HV3.out (by omega)
        have HRk := range_below (hP2 k hlt) hBr hM2
        rw [Nat.zero_add] at HRk
        have HLm := hid (ld22 (range_peer_id HRk))
        have HGk := hid (hG2 k hlt)
        have HBs := hid hBr
        clear hno hBr HRk hP2 hG2
        have hg22 : Try.prog.eqGuardType Try.prog.depth 22 = false := by kernel_rfl
        by_cases e1 : num (G2 k) = num (G i1)
        · have hE1 : ∀ w, (Op.equalIn 10000 22 (.agg (idOf (G2 k))) (.agg (idOf (G i1)))).run Try.prog w = .ok true w := fun w => by rw [eq22 _ _ HGk.out HGF.out, decide_eq_true e1]
          have HE1 := hid e1
          clear e1
          by_cases c1 : k + 1 < c2
          · have HH : Hid (¬ Kn (num (G i1)) (num (G i2)) c2 (fun k => num (G2 k))) := fun h => h k hlt ⟨.inl HE1.out, .inr c1⟩
            have f0 : ((k : Int) == (c2 : Int) - 1) = false := by rw [beq_eq_false_iff_ne]; omega
            go_wp2_with (first
              | ((with_reducible refine wl_load ?_ 22 (.tmp 34) ?_ ?_ HLm.out ?_); rfl; rfl; rfl; simp only [Act.put, List.setIfInBounds_toArray, List.set_cons_zero, List.set_cons_succ]; clear HLm)
              | ((with_reducible refine wl_row22 (g := G2 k) ?_ (.tmp 13) (.tmp 35) ?_ ?_ ?_ (Blk.new wr 22 _) ?_ ?_); rfl; rfl; rfl; rfl; rfl; simp only [Act.put]; intro r1 l1; have HM1 := hid l1.same; have HF1 := hid (l1.other _ _ _ (by omega) (HFr.out.alloc _)); have HK1 := hid (l1.other _ _ _ (by omega) (HKr.out.alloc _)); have HQ1 := hid (l1.below _ _ (by omega) (HBr.out.alloc (by omega) _)); have HQr := hid (l1.below _ _ (by omega) (HBs.out.alloc (by omega) _)); clear l1 HFr HKr HBr HBs)
              | ((with_reducible refine wl_load ?_ 22 (.tmp 13) ?_ ?_ (ld22 (Blk.range (cs := idL (G2 k)) HM1.out)) ?_); rfl; rfl; rfl; simp only [Act.put, List.setIfInBounds_toArray, List.set_cons_zero, List.set_cons_succ])
              | ((with_reducible refine wl_load ?_ 22 (.tmp 9) ?_ ?_ (ld22 (Blk.range (cs := idL (G i1)) HF1.out)) ?_); rfl; rfl; rfl; simp only [Act.put, List.setIfInBounds_toArray, List.set_cons_zero, List.set_cons_succ])
              | ((with_reducible refine wl_load_w ?_ 22 (.tmp 13) ?_ ?_ (ld22 (Blk.range (cs := idL (G2 k)) HM1.out)) ?_); rfl; rfl; rfl; simp only [Act.put, List.setIfInBounds_toArray, List.set_cons_zero, List.set_cons_succ])
              | ((with_reducible refine wl_load_w ?_ 22 (.tmp 10) ?_ ?_ (ld22 (Blk.range (cs := idL (G i2)) HK1.out)) ?_); rfl; rfl; rfl; simp only [Act.put, List.setIfInBounds_toArray, List.set_cons_zero, List.set_cons_succ]))
            go_ret
            exact ⟨KEnd.no (fun h => h.elim (fun e => by omega) HH.out), HQ1.out⟩
          · have f0 : ((k : Int) == (c2 : Int) - 1) = true := by rw [beq_iff_eq]; omega
            by_cases c0 : k = 0
            · have HH : Hid (¬ Kn (num (G i1)) (num (G i2)) c2 (fun k => num (G2 k))) := fun h => h k hlt ⟨.inl HE1.out, .inl c0⟩
              have f1 : (c2 : Int) < 2 := by omega
              clear c0
              go_wp2_with (first
                | ((with_reducible refine wl_load ?_ 22 (.tmp 34) ?_ ?_ HLm.out ?_); rfl; rfl; rfl; simp only [Act.put, List.setIfInBounds_toArray, List.set_cons_zero, List.set_cons_succ]; clear HLm)
                | ((with_reducible refine wl_row22 (g := G2 k) ?_ (.tmp 13) (.tmp 35) ?_ ?_ ?_ (Blk.new wr 22 _) ?_ ?_); rfl; rfl; rfl; rfl; rfl; simp only [Act.put]; intro r1 l1; have HM1 := hid l1.same; have HF1 := hid (l1.other _ _ _ (by omega) (HFr.out.alloc _)); have HK1 := hid (l1.other _ _ _ (by omega) (HKr.out.alloc _)); have HQ1 := hid (l1.below _ _ (by omega) (HBr.out.alloc (by omega) _)); have HQr := hid (l1.below _ _ (by omega) (HBs.out.alloc (by omega) _)); clear l1 HFr HKr HBr HBs)
                | ((with_reducible refine wl_load ?_ 22 (.tmp 13) ?_ ?_ (ld22 (Blk.range (cs := idL (G2 k)) HM1.out)) ?_); rfl; rfl; rfl; simp only [Act.put, List.setIfInBounds_toArray, List.set_cons_zero, List.set_cons_succ])
                | ((with_reducible refine wl_load ?_ 22 (.tmp 9) ?_ ?_ (ld22 (Blk.range (cs := idL (G i1)) HF1.out)) ?_); rfl; rfl; rfl; simp only [Act.put, List.setIfInBounds_toArray, List.set_cons_zero, List.set_cons_succ])
                | ((with_reducible refine wl_load_w ?_ 22 (.tmp 13) ?_ ?_ (ld22 (Blk.range (cs := idL (G2 k)) HM1.out)) ?_); rfl; rfl; rfl; simp only [Act.put, List.setIfInBounds_toArray, List.set_cons_zero, List.set_cons_succ])
                | ((with_reducible refine wl_load_w ?_ 22 (.tmp 10) ?_ ?_ (ld22 (Blk.range (cs := idL (G i2)) HK1.out)) ?_); rfl; rfl; rfl; simp only [Act.put, List.setIfInBounds_toArray, List.set_cons_zero, List.set_cons_succ]))
              go_ret
              exact ⟨KEnd.no (fun h => h.elim (fun e => by omega) HH.out), HQ1.out⟩
            · have HNX := hid (kn_step HNO.out (fun h => by rcases h.2 with h | h <;> omega))
              have f1 : 2 ≤ (c2 : Int) := by omega
              clear c0
              go_wp2_with (first
                | ((with_reducible refine wl_load ?_ 22 (.tmp 34) ?_ ?_ HLm.out ?_); rfl; rfl; rfl; simp only [Act.put, List.setIfInBounds_toArray, List.set_cons_zero, List.set_cons_succ]; clear HLm)
                | ((with_reducible refine wl_row22 (g := G2 k) ?_ (.tmp 13) (.tmp 35) ?_ ?_ ?_ (Blk.new wr 22 _) ?_ ?_); rfl; rfl; rfl; rfl; rfl; simp only [Act.put]; intro r1 l1; have HM1 := hid l1.same; have HF1 := hid (l1.other _ _ _ (by omega) (HFr.out.alloc _)); have HK1 := hid (l1.other _ _ _ (by omega) (HKr.out.alloc _)); have HQ1 := hid (l1.below _ _ (by omega) (HBr.out.alloc (by omega) _)); have HQr := hid (l1.below _ _ (by omega) (HBs.out.alloc (by omega) _)); clear l1 HFr HKr HBr HBs)
                | ((with_reducible refine wl_load ?_ 22 (.tmp 13) ?_ ?_ (ld22 (Blk.range (cs := idL (G2 k)) HM1.out)) ?_); rfl; rfl; rfl; simp only [Act.put, List.setIfInBounds_toArray, List.set_cons_zero, List.set_cons_succ])
                | ((with_reducible refine wl_load ?_ 22 (.tmp 9) ?_ ?_ (ld22 (Blk.range (cs := idL (G i1)) HF1.out)) ?_); rfl; rfl; rfl; simp only [Act.put, List.setIfInBounds_toArray, List.set_cons_zero, List.set_cons_succ])
                | ((with_reducible refine wl_load_w ?_ 22 (.tmp 13) ?_ ?_ (ld22 (Blk.range (cs := idL (G2 k)) HM1.out)) ?_); rfl; rfl; rfl; simp only [Act.put, List.setIfInBounds_toArray, List.set_cons_zero, List.set_cons_succ])
                | ((with_reducible refine wl_load_w ?_ 22 (.tmp 10) ?_ ?_ (ld22 (Blk.range (cs := idL (G i2)) HK1.out)) ?_); rfl; rfl; rfl; simp only [Act.put, List.setIfInBounds_toArray, List.set_cons_zero, List.set_cons_succ]))
              go_roundw
              case rel => exact ⟨k + 1, by omega, by go_num, HNX.out, HQr.out⟩
              case measure => simp [intOf]; omega
        · have hE1 : ∀ w, (Op.equalIn 10000 22 (.agg (idOf (G2 k))) (.agg (idOf (G i1)))).run Try.prog w = .ok false w := fun w => by rw [eq22 _ _ HGk.out HGF.out, decide_eq_false e1]
          by_cases e2 : num (G2 k) = num (G i2)
          · have hE2 : ∀ w, (Op.equalIn 10000 22 (.agg (idOf (G2 k))) (.agg (idOf (G i2)))).run Try.prog w = .ok true w := fun w => by rw [eq22 _ _ HGk.out HGK.out, decide_eq_true e2]
            have HE2 := hid e2
            clear e1 e2
            by_cases c1 : k + 1 < c2
            · have HH : Hid (¬ Kn (num (G i1)) (num (G i2)) c2 (fun k => num (G2 k))) := fun h => h k hlt ⟨.inr HE2.out, .inr c1⟩
              have f0 : ((k : Int) == (c2 : Int) - 1) = false := by rw [beq_eq_false_iff_ne]; omega
              go_wp2_with (first
                | ((with_reducible refine wl_load ?_ 22 (.tmp 34) ?_ ?_ HLm.out ?_); rfl; rfl; rfl; simp only [Act.put, List.setIfInBounds_toArray, List.set_cons_zero, List.set_cons_succ]; clear HLm)
                | ((with_reducible refine wl_row22 (g := G2 k) ?_ (.tmp 13) (.tmp 35) ?_ ?_ ?_ (Blk.new wr 22 _) ?_ ?_); rfl; rfl; rfl; rfl; rfl; simp only [Act.put]; intro r1 l1; have HM1 := hid l1.same; have HF1 := hid (l1.other _ _ _ (by omega) (HFr.out.alloc _)); have HK1 := hid (l1.other _ _ _ (by omega) (HKr.out.alloc _)); have HQ1 := hid (l1.below _ _ (by omega) (HBr.out.alloc (by omega) _)); have HQr := hid (l1.below _ _ (by omega) (HBs.out.alloc (by omega) _)); clear l1 HFr HKr HBr HBs)
                | ((with_reducible refine wl_load ?_ 22 (.tmp 13) ?_ ?_ (ld22 (Blk.range (cs := idL (G2 k)) HM1.out)) ?_); rfl; rfl; rfl; simp only [Act.put, List.setIfInBounds_toArray, List.set_cons_zero, List.set_cons_succ])
                | ((with_reducible refine wl_load ?_ 22 (.tmp 9) ?_ ?_ (ld22 (Blk.range (cs := idL (G i1)) HF1.out)) ?_); rfl; rfl; rfl; simp only [Act.put, List.setIfInBounds_toArray, List.set_cons_zero, List.set_cons_succ])
                | ((with_reducible refine wl_load_w ?_ 22 (.tmp 13) ?_ ?_ (ld22 (Blk.range (cs := idL (G2 k)) HM1.out)) ?_); rfl; rfl; rfl; simp only [Act.put, List.setIfInBounds_toArray, List.set_cons_zero, List.set_cons_succ])
                | ((with_reducible refine wl_load_w ?_ 22 (.tmp 10) ?_ ?_ (ld22 (Blk.range (cs := idL (G i2)) HK1.out)) ?_); rfl; rfl; rfl; simp only [Act.put, List.setIfInBounds_toArray, List.set_cons_zero, List.set_cons_succ]))
              go_ret
              exact ⟨KEnd.no (fun h => h.elim (fun e => by omega) HH.out), HQ1.out⟩
            · have f0 : ((k : Int) == (c2 : Int) - 1) = true := by rw [beq_iff_eq]; omega
              by_cases c0 : k = 0
              · have HH : Hid (¬ Kn (num (G i1)) (num (G i2)) c2 (fun k => num (G2 k))) := fun h => h k hlt ⟨.inr HE2.out, .inl c0⟩
                have f1 : (c2 : Int) < 2 := by omega
                clear c0
                go_wp2_with (first
                  | ((with_reducible refine wl_load ?_ 22 (.tmp 34) ?_ ?_ HLm.out ?_); rfl; rfl; rfl; simp only [Act.put, List.setIfInBounds_toArray, List.set_cons_zero, List.set_cons_succ]; clear HLm)
                  | ((with_reducible refine wl_row22 (g := G2 k) ?_ (.tmp 13) (.tmp 35) ?_ ?_ ?_ (Blk.new wr 22 _) ?_ ?_); rfl; rfl; rfl; rfl; rfl; simp only [Act.put]; intro r1 l1; have HM1 := hid l1.same; have HF1 := hid (l1.other _ _ _ (by omega) (HFr.out.alloc _)); have HK1 := hid (l1.other _ _ _ (by omega) (HKr.out.alloc _)); have HQ1 := hid (l1.below _ _ (by omega) (HBr.out.alloc (by omega) _)); have HQr := hid (l1.below _ _ (by omega) (HBs.out.alloc (by omega) _)); clear l1 HFr HKr HBr HBs)
                  | ((with_reducible refine wl_load ?_ 22 (.tmp 13) ?_ ?_ (ld22 (Blk.range (cs := idL (G2 k)) HM1.out)) ?_); rfl; rfl; rfl; simp only [Act.put, List.setIfInBounds_toArray, List.set_cons_zero, List.set_cons_succ])
                  | ((with_reducible refine wl_load ?_ 22 (.tmp 9) ?_ ?_ (ld22 (Blk.range (cs := idL (G i1)) HF1.out)) ?_); rfl; rfl; rfl; simp only [Act.put, List.setIfInBounds_toArray, List.set_cons_zero, List.set_cons_succ])
                  | ((with_reducible refine wl_load_w ?_ 22 (.tmp 13) ?_ ?_ (ld22 (Blk.range (cs := idL (G2 k)) HM1.out)) ?_); rfl; rfl; rfl; simp only [Act.put, List.setIfInBounds_toArray, List.set_cons_zero, List.set_cons_succ])
                  | ((with_reducible refine wl_load_w ?_ 22 (.tmp 10) ?_ ?_ (ld22 (Blk.range (cs := idL (G i2)) HK1.out)) ?_); rfl; rfl; rfl; simp only [Act.put, List.setIfInBounds_toArray, List.set_cons_zero, List.set_cons_succ]))
                go_ret
                exact ⟨KEnd.no (fun h => h.elim (fun e => by omega) HH.out), HQ1.out⟩
              · have HNX := hid (kn_step HNO.out (fun h => by rcases h.2 with h | h <;> omega))
                have f1 : 2 ≤ (c2 : Int) := by omega
                clear c0
                go_wp2_with (first
                  | ((with_reducible refine wl_load ?_ 22 (.tmp 34) ?_ ?_ HLm.out ?_); rfl; rfl; rfl; simp only [Act.put, List.setIfInBounds_toArray, List.set_cons_zero, List.set_cons_succ]; clear HLm)
                  | ((with_reducible refine wl_row22 (g := G2 k) ?_ (.tmp 13) (.tmp 35) ?_ ?_ ?_ (Blk.new wr 22 _) ?_ ?_); rfl; rfl; rfl; rfl; rfl; simp only [Act.put]; intro r1 l1; have HM1 := hid l1.same; have HF1 := hid (l1.other _ _ _ (by omega) (HFr.out.alloc _)); have HK1 := hid (l1.other _ _ _ (by omega) (HKr.out.alloc _)); have HQ1 := hid (l1.below _ _ (by omega) (HBr.out.alloc (by omega) _)); have HQr := hid (l1.below _ _ (by omega) (HBs.out.alloc (by omega) _)); clear l1 HFr HKr HBr HBs)
                  | ((with_reducible refine wl_load ?_ 22 (.tmp 13) ?_ ?_ (ld22 (Blk.range (cs := idL (G2 k)) HM1.out)) ?_); rfl; rfl; rfl; simp only [Act.put, List.setIfInBounds_toArray, List.set_cons_zero, List.set_cons_succ])
                  | ((with_reducible refine wl_load ?_ 22 (.tmp 9) ?_ ?_ (ld22 (Blk.range (cs := idL (G i1)) HF1.out)) ?_); rfl; rfl; rfl; simp only [Act.put, List.setIfInBounds_toArray, List.set_cons_zero, List.set_cons_succ])
                  | ((with_reducible refine wl_load_w ?_ 22 (.tmp 13) ?_ ?_ (ld22 (Blk.range (cs := idL (G2 k)) HM1.out)) ?_); rfl; rfl; rfl; simp only [Act.put, List.setIfInBounds_toArray, List.set_cons_zero, List.set_cons_succ])
                  | ((with_reducible refine wl_load_w ?_ 22 (.tmp 10) ?_ ?_ (ld22 (Blk.range (cs := idL (G i2)) HK1.out)) ?_); rfl; rfl; rfl; simp only [Act.put, List.setIfInBounds_toArray, List.set_cons_zero, List.set_cons_succ]))
                go_roundw
                case rel => exact ⟨k + 1, by omega, by go_num, HNX.out, HQr.out⟩
                case measure => simp [intOf]; omega
          · have hE2 : ∀ w, (Op.equalIn 10000 22 (.agg (idOf (G2 k))) (.agg (idOf (G i2)))).run Try.prog w = .ok false w := fun w => by rw [eq22 _ _ HGk.out HGK.out, decide_eq_false e2]
            have HNX := hid (kn_step HNO.out (fun h => by rcases h.1 with h | h; exact e1 h; exact e2 h))
            clear e1 e2
            go_wp2_with (first
              | ((with_reducible refine wl_load ?_ 22 (.tmp 34) ?_ ?_ HLm.out ?_); rfl; rfl; rfl; simp only [Act.put, List.setIfInBounds_toArray, List.set_cons_zero, List.set_cons_succ]; clear HLm)
              | ((with_reducible refine wl_row22 (g := G2 k) ?_ (.tmp 13) (.tmp 35) ?_ ?_ ?_ (Blk.new wr 22 _) ?_ ?_); rfl; rfl; rfl; rfl; rfl; simp only [Act.put]; intro r1 l1; have HM1 := hid l1.same; have HF1 := hid (l1.other _ _ _ (by omega) (HFr.out.alloc _)); have HK1 := hid (l1.other _ _ _ (by omega) (HKr.out.alloc _)); have HQ1 := hid (l1.below _ _ (by omega) (HBr.out.alloc (by omega) _)); have HQr := hid (l1.below _ _ (by omega) (HBs.out.alloc (by omega) _)); clear l1 HFr HKr HBr HBs)
              | ((with_reducible refine wl_load ?_ 22 (.tmp 13) ?_ ?_ (ld22 (Blk.range (cs := idL (G2 k)) HM1.out)) ?_); rfl; rfl; rfl; simp only [Act.put, List.setIfInBounds_toArray, List.set_cons_zero, List.set_cons_succ])
              | ((with_reducible refine wl_load ?_ 22 (.tmp 9) ?_ ?_ (ld22 (Blk.range (cs := idL (G i1)) HF1.out)) ?_); rfl; rfl; rfl; simp only [Act.put, List.setIfInBounds_toArray, List.set_cons_zero, List.set_cons_succ])
              | ((with_reducible refine wl_load_w ?_ 22 (.tmp 13) ?_ ?_ (ld22 (Blk.range (cs := idL (G2 k)) HM1.out)) ?_); rfl; rfl; rfl; simp only [Act.put, List.setIfInBounds_toArray, List.set_cons_zero, List.set_cons_succ])
              | ((with_reducible refine wl_load_w ?_ 22 (.tmp 10) ?_ ?_ (ld22 (Blk.range (cs := idL (G i2)) HK1.out)) ?_); rfl; rfl; rfl; simp only [Act.put, List.setIfInBounds_toArray, List.set_cons_zero, List.set_cons_succ]))
            go_roundw
            case rel => exact ⟨k + 1, by omega, by go_num, HNX.out, HQr.out⟩
            case measure => simp [intOf]; omega
      · obtain rfl : n2 = k := by omega
        clear hno hBr
        go_wp2
        go_ret
        exact ⟨KEnd.yes (.inr HNO.out), HBr.out⟩
end Go.Proofs.Qxb6604152a.Ids
