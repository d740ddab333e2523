/-
  zzEndsByRank, walked.
-/
import Derived.Test.Qxb6604152aRanks
namespace Go.Proofs.Qxb6604152a.Ids
open Go.ChangeShapes Go.WideShapes Go.ChangeAt Go.RowKit
open Go.Proofs.Qxb6604152a.Num
open Go.Proofs.Qxb6604152a.Rank

set_option maxHeartbeats 3200000 in
theorem byRank_any (t : Nat → Int) (b off n cap : Nat) (G : Nat → Nat → Int) (S : Nat → ByteArray) (w : World) (hn : 2 ≤ n) (hn2 : n ≤ 4096) (hb : b < w.heap.size) (hP : Peers w b off n G S)
    (hG : ∀ k, k < n → Byt (G k)) (ht : Byt t) (ha : Asc n G) :
    Calls Try.prog 13 #[.agg (idOf t), .slice (some ⟨b, off, none⟩) n cap] w fun e w' => e = .returned (.tuple #[.agg (idOf (G ((lower n G t + n / 2 - 1) % n))), .agg (idOf (G ((lower n G t + n / 2) % n)))]) ∧ Below w.heap.size w w' := by
  obtain ⟨i1, hi1⟩ : ∃ i, i = (lower n G t + n / 2 - 1) % n := ⟨_, rfl⟩
  obtain ⟨i2, hi2⟩ : ∃ i, i = (lower n G t + n / 2) % n := ⟨_, rfl⟩
  rw [← hi1, ← hi2]
  have hmk := mk50 n (by omega)
  have HST := hid (l1_start w n t (fun m => subId (G m) t))
  have HP := hid hP
  have HG := hid hG
  have HT := hid ht
  have HA := hid ha
  have HI1 := hid hi1
  have HI2 := hid hi2
  clear hP hG ht ha hi1 hi2
  go_enter Try.func13, Try.ntmps13
  go_wp2
  go_loopw [9] (fun i wr => ∃ k : Nat, k ≤ n ∧ i = .int .i64 k ∧ L1 w n k t (fun m => subId (G m) t) wr) (fun i _ => n - (intOf i).toNat)
  case atStart => exact ⟨0, by omega, rfl, HST.out⟩
  case round =>
    obtain ⟨k, hk, rfl, hL⟩ := hrel
    by_cases hlt : k < n
    · have hne := cw_some (w.heap.size + 3) wr
      have hsz := hL.lt
      have rk := HP.out.below hL.below hb k hlt
      have HLa : Hid (∀ w', (∃ x : CW (w.heap.size + 3) wr, w' = x.val) → (Instr.loadAt 22 (.pointer (some ⟨b, off + k * 17, none⟩))).run Try.prog w' = .ok (.agg (idOf (G k))) w') := by
        rintro w' ⟨x, rfl⟩
        exact ld22 (range_peer_id (range_below rk x.2 (by omega)))
      have HLb : Hid (∀ w', (∃ x : CW (w.heap.size + 3) wr, w' = x.val) → (Instr.loadAt 22 (.pointer (some ⟨w.heap.size, 0, none⟩))).run Try.prog w' = .ok (.agg (idOf t)) w') := by
        rintro w' ⟨x, rfl⟩
        exact ld22 (Blk.range (cs := idL t) (hL.b2.below x.2 (by omega)))
      have hS0 : ∃ x : CW (w.heap.size + 3) wr, wr.drew = x.val := ⟨⟨wr.drew, (Below.refl _ _).drew⟩, rfl⟩
      have HL := hid hL
      clear hL rk
      go_wp2
      refine wp_region_held (S := fun w' => ∃ x : CW (w.heap.size + 3) wr, w' = x.val) (by kernel_rfl) ?_
      change wpAnyH Try.prog .any _ _ _ 11 (Array.replicate 11 false) _ wr.drew
      refine take_quiet (i := 0) rfl (by kernel_rfl) (by kernel_rfl) (by kernel_rfl) (fun _ _ _ _ h => h) (by rfl) (by rfl) hS0 ?_
      intro K hK
      simp only [List.getElem_toArray, List.getElem_cons_zero]
      go_big_quiet_op
      go_big_quiet_on
      refine take_quiet (i := 1) rfl (by kernel_rfl) (by kernel_rfl) (by kernel_rfl) (fun _ _ _ _ h => h) (by rfl) (by rfl) hS0 ?_
      intro K hK
      simp only [List.getElem_toArray, List.getElem_cons_zero, List.getElem_cons_succ]
      go_big_quiet_op
      go_big_quiet_on
      refine take_quiet (i := 2) rfl (by kernel_rfl) (by kernel_rfl) (by kernel_rfl) (fun _ _ _ _ h => h) (by rfl) (by rfl) hS0 ?_
      intro K hK
      simp only [List.getElem_toArray, List.getElem_cons_zero, List.getElem_cons_succ]
      go_big_quiet_op
      go_big_quiet_on
      refine take_quiet (i := 3) rfl (by kernel_rfl) (by kernel_rfl) (by kernel_rfl) (fun _ _ _ _ h => h) (by rfl) (by rfl) hS0 ?_
      intro K hK
      simp only [List.getElem_toArray, List.getElem_cons_zero, List.getElem_cons_succ]
      go_big_quiet_op
      go_big_quiet_on
      refine take_quiet (i := 4) rfl (by kernel_rfl) (by kernel_rfl) (by kernel_rfl) (fun _ _ _ _ h => h) (by rfl) (by rfl) hS0 ?_
      intro K hK
      simp only [List.getElem_toArray, List.getElem_cons_zero, List.getElem_cons_succ]
      go_big_quiet_op
      go_big_quiet_on
      refine take_quiet (i := 5) rfl (by kernel_rfl) (by kernel_rfl) (by kernel_rfl) (fun _ _ _ _ h => h) (by rfl) (by rfl) hS0 ?_
      intro K hK
      simp only [List.getElem_toArray, List.getElem_cons_zero, List.getElem_cons_succ]
      go_big_quiet_op
      go_big_quiet_on
      refine take_quiet (i := 6) rfl (by kernel_rfl) (by kernel_rfl) (by kernel_rfl) (fun _ _ _ _ h => h) (by rfl) (by rfl) hS0 ?_
      intro K hK
      simp only [List.getElem_toArray, List.getElem_cons_zero, List.getElem_cons_succ]
      refine quiet_ld 22 (.tmp 29) rfl rfl HLa.out ?_
      simp only [Act.put, List.setIfInBounds_toArray, List.set_cons_zero, List.set_cons_succ]
      go_big_quiet_on
      refine take_quiet (i := 7) rfl (by kernel_rfl) (by kernel_rfl) (by kernel_rfl) (fun _ _ _ _ h => h) (by rfl) (by rfl) hS0 ?_
      intro K hK
      simp only [List.getElem_toArray, List.getElem_cons_zero, List.getElem_cons_succ]
      refine quiet_ld 22 (.tmp 2) rfl rfl HLb.out ?_
      simp only [Act.put, List.setIfInBounds_toArray, List.set_cons_zero, List.set_cons_succ]
      go_big_quiet_on
      refine one_call (i := 8) rfl (by kernel_rfl) (by rfl) (f := 15) (args := #[.agg (idOf (G k)), .agg (idOf t)]) (by kernel_rfl) (sub_any (G k) t wr.drew (HG.out k hlt) HT.out) ?_
      rintro e w6 ⟨rfl, b6⟩
      have b6' : Below wr.heap.size wr w6 := (Below.refl _ _).drew.trans b6
      have hL6 := HL.out.over b6'
      have b6s : Below (w.heap.size + 3) wr w6 := b6'.mono (by omega)
      refine ⟨_, rfl, ⟨⟨w6, b6s⟩, rfl⟩, ?_⟩
      simp only [List.getElem_toArray, List.getElem_cons_zero, List.getElem_cons_succ, Act.put, List.setIfInBounds_toArray, List.set_cons_zero, List.set_cons_succ]
      refine take_quiet (i := 9) rfl (by kernel_rfl) (by kernel_rfl) (by kernel_rfl) (fun _ _ _ _ h => h) (by rfl) (by rfl) ⟨⟨w6, b6s⟩, rfl⟩ ?_
      intro K hK
      simp only [List.getElem_toArray, List.getElem_cons_zero, List.getElem_cons_succ]
      go_big_quiet_op
      go_big_quiet_on
      have HST6 := hid (st22m (subId (G k) t) (there_part16 hL6.th hlt))
      have HLn := hid (hL6.step hlt)
      refine one_store (i := 10) rfl (by kernel_rfl) (by rfl) 22 (.tmp 33) (.tmp 32) rfl rfl rfl HST6.out ⟨⟨_, below_setCells (Nat.le_refl _) (idL (subId (G k) t)) (k * 16) _ b6s⟩, rfl⟩ ?_
      simp only [List.getElem_toArray, List.getElem_cons_zero, List.getElem_cons_succ, Act.put]
      refine wpAnyH_done (by kernel_rfl) ?_ _
      clear hne HLa HLb hS0 HST6 hL6 b6 b6' b6s HL
      go_wp2
      go_roundw
      case rel => exact ⟨k + 1, by omega, by go_num, HLn.out⟩
      case measure => simp [intOf]; omega
    · obtain rfl : n = k := by omega
      have HL2 := hid hL.full
      clear hL
      obtain ⟨w4, rfl⟩ : ∃ w4 : World, w4 = wr := ⟨_, rfl⟩
      go_wp2
      go_loopw [10] (fun i wr => ∃ k : Nat, ∃ g h : Nat → Int, k ≤ n ∧ i = .int .i64 k ∧ (i1 < k → g = G i1) ∧ (i2 < k → h = G i2) ∧ L2 w n (fun m => subId (G m) t) g h wr) (fun i _ => n - (intOf i).toNat)
      case atStart => exact ⟨0, _, _, by omega, rfl, fun h => by omega, fun h => by omega, HL2.out⟩
      case round =>
        clear hk hlt
        obtain ⟨i, g, h, hi, rfl, hg, hh, hL⟩ := hrel
        by_cases hlt2 : i < n
        · have HL := hid hL
          have HGg := hid hg
          have HGh := hid hh
          clear hL hg hh
          go_wp2
          go_loopw [11, 12] (fun r j wr => ∃ q : Nat, q ≤ n ∧ j = .int .i64 q ∧ r = .int .i64 (rankOf (fun m => subId (G m) t) i q) ∧ L2 w n (fun m => subId (G m) t) g h wr) (fun _ j _ => n - (intOf j).toNat)
          case atStart => exact ⟨0, by omega, rfl, rfl, HL.out⟩
          case round =>
            clear HL
            obtain ⟨q, hq, rfl, rfl, hL⟩ := hrel
            obtain ⟨r, hr⟩ : ∃ r, r = rankOf (fun m => subId (G m) t) i q := ⟨_, rfl⟩
            have hr2 : r ≤ q := by rw [hr]; exact cnt_le _ _
            rw [← hr]
            by_cases hlt3 : q < n
            · have HR := hid hr
              have hsz := hL.lt
              have hne := cw_some wr.heap.size wr
              have HLa : Hid (∀ w', (∃ x : CW wr.heap.size wr, w' = x.val) → (Instr.loadAt 22 (.pointer (some ⟨w.heap.size + 3, q * 16, none⟩))).run Try.prog w' = .ok (.agg (idOf (subId (G q) t))) w') := by
                rintro w' ⟨x, rfl⟩
                exact ld22 (range_below (hL.ids q hlt3) x.2 (by omega))
              have HLb : Hid (∀ w', (∃ x : CW wr.heap.size wr, w' = x.val) → (Instr.loadAt 22 (.pointer (some ⟨w.heap.size + 3, i * 16, none⟩))).run Try.prog w' = .ok (.agg (idOf (subId (G i) t))) w') := by
                rintro w' ⟨x, rfl⟩
                exact ld22 (range_below (hL.ids i hlt2) x.2 (by omega))
              have HL := hid hL
              clear hr hL
              by_cases hc : num (subId (G q) t) < num (subId (G i) t)
              · have HC16 : Hid (∀ x : CW wr.heap.size wr, Calls Try.prog 16 #[.agg (idOf (subId (G q) t)), .agg (idOf (subId (G i) t))] x.val fun e w'' => e = .returned (.bool true) ∧ ∃ y : CW wr.heap.size wr, w'' = y.val) := fun x => by
                  have := cw_call x (less_any _ _ _ (sub_byt (HG.out q hlt3) HT.out) (sub_byt (HG.out i hlt2) HT.out))
                  rw [decide_eq_true hc] at this; exact this
                have HN : Hid (rankOf (fun m => subId (G m) t) i (q + 1) = r + 1) := by
                  rw [HR.out]; unfold rankOf; simp only [cnt]; rw [if_pos (decide_eq_true hc)]; rfl
                clear hc
                clear HR
                go_wp2
                refine region_cw wr.heap.size (by kernel_rfl) (by kernel_rfl) ?_
                repeat (first | go_big_quiet_skip | (go_big_quiet_want; first | (refine quiet_ld 22 (.tmp 46) rfl rfl HLa.out ?_; simp only [Act.put, List.setIfInBounds_toArray, List.set_cons_zero, List.set_cons_succ]; go_big_quiet_on) | (refine quiet_ld 22 (.tmp 50) rfl rfl HLb.out ?_; simp only [Act.put, List.setIfInBounds_toArray, List.set_cons_zero, List.set_cons_succ]; go_big_quiet_on) | (go_big_quiet_op; first | go_big_quiet_on | go_big_quiet_call (exact HC16.out _))))
                refine wpQuiet_nil ?_
                intro r2 hr2
                obtain ⟨⟨r2', hb2⟩, hr2e⟩ := hr2
                subst hr2e
                have HL2 := hid (HL.out.over hb2)
                clear hb2 hne HLa HLb HC16 HL hsz
                go_wp2
                go_roundw
                case rel => exact ⟨q + 1, by omega, by go_num, by rw [HN.out]; go_num, HL2.out⟩
                case measure => simp [intOf]; omega
              · have HC16 : Hid (∀ x : CW wr.heap.size wr, Calls Try.prog 16 #[.agg (idOf (subId (G q) t)), .agg (idOf (subId (G i) t))] x.val fun e w'' => e = .returned (.bool false) ∧ ∃ y : CW wr.heap.size wr, w'' = y.val) := fun x => by
                  have := cw_call x (less_any _ _ _ (sub_byt (HG.out q hlt3) HT.out) (sub_byt (HG.out i hlt2) HT.out))
                  rw [decide_eq_false hc] at this; exact this
                have HN : Hid (rankOf (fun m => subId (G m) t) i (q + 1) = r) := by
                  rw [HR.out]; unfold rankOf; simp only [cnt]; rw [if_neg (by simpa using hc)]; rfl
                clear hc
                clear HR
                go_wp2
                refine region_cw wr.heap.size (by kernel_rfl) (by kernel_rfl) ?_
                repeat (first | go_big_quiet_skip | (go_big_quiet_want; first | (refine quiet_ld 22 (.tmp 46) rfl rfl HLa.out ?_; simp only [Act.put, List.setIfInBounds_toArray, List.set_cons_zero, List.set_cons_succ]; go_big_quiet_on) | (refine quiet_ld 22 (.tmp 50) rfl rfl HLb.out ?_; simp only [Act.put, List.setIfInBounds_toArray, List.set_cons_zero, List.set_cons_succ]; go_big_quiet_on) | (go_big_quiet_op; first | go_big_quiet_on | go_big_quiet_call (exact HC16.out _))))
                refine wpQuiet_nil ?_
                intro r2 hr2
                obtain ⟨⟨r2', hb2⟩, hr2e⟩ := hr2
                subst hr2e
                have HL2 := hid (HL.out.over hb2)
                clear hb2 hne HLa HLb HC16 HL hsz
                go_wp2
                go_roundw
                case rel => exact ⟨q + 1, by omega, by go_num, by rw [HN.out], HL2.out⟩
                case measure => simp [intOf]; omega
            · obtain rfl : n = q := by omega
              have hL' := hL
              have h1 : n / 2 - 1 < n := by omega
              have h2 : n / 2 < n := by omega
              have R1 := rank_at HA.out HG.out HT.out hlt2 h1
              have R2 := rank_at HA.out HG.out HT.out hlt2 h2
              rw [← hr, show lower n G t + (n / 2 - 1) = lower n G t + n / 2 - 1 by omega, ← HI1.out] at R1
              rw [← hr, ← HI2.out] at R2
              have HLm := hid (ld22 (range_peer_id (HP.out.below hL.below hb i hlt2)))
              have HL := hid hL
              clear hL hL' hr hq hlt3
              by_cases c1 : i = i1
              · have f1 := R1.2 c1
                have f2 : ¬ r = n / 2 := by omega
                have HC1 := hid c1
                have HN2 : Hid (¬ i = i2) := fun e => f2 (R2.2 e)
                clear R1 R2 c1
                have f3 : (r : Int) = (n : Int) / 2 - 1 := by omega
                have f4 : ¬ (r : Int) = (n : Int) / 2 := by omega
                go_wp2_with (first
                  | ((with_reducible refine wl_load ?_ 22 (.tmp 62) ?_ ?_ HLm.out ?_); rfl; rfl; rfl; simp only [Act.put, List.setIfInBounds_toArray, List.set_cons_zero, List.set_cons_succ]; clear HLm)
                  | ((with_reducible refine wl_set4 (g' := G i) ?_ (.tmp 4) (.tmp 63) ?_ ?_ ?_ HL.out ?_); rfl; rfl; rfl; rfl; simp only [Act.put]; intro w2 hw2; have HL2 := hid hw2; clear hw2 HL))
                go_roundw
                case rel => exact ⟨i + 1, _, _, by omega, by go_num, fun _ => by rw [HC1.out], fun e => HGh.out (by have := HN2.out; omega), HL2.out⟩
                case measure => simp [intOf]; omega
              · by_cases c2 : i = i2
                · have f2 := R2.2 c2
                  have f1 : ¬ r = n / 2 - 1 := fun e => c1 (R1.1 e)
                  have HC2 := hid c2
                  have HN1 : Hid (¬ i = i1) := c1
                  clear R1 R2 c1 c2
                  have f3 : ¬ (r : Int) = (n : Int) / 2 - 1 := by omega
                  have f4 : (r : Int) = (n : Int) / 2 := by omega
                  go_wp2_with (first
                    | ((with_reducible refine wl_load ?_ 22 (.tmp 70) ?_ ?_ HLm.out ?_); rfl; rfl; rfl; simp only [Act.put, List.setIfInBounds_toArray, List.set_cons_zero, List.set_cons_succ]; clear HLm)
                    | ((with_reducible refine wl_set5 (h' := G i) ?_ (.tmp 5) (.tmp 71) ?_ ?_ ?_ HL.out ?_); rfl; rfl; rfl; rfl; simp only [Act.put]; intro w2 hw2; have HL2 := hid hw2; clear hw2 HL))
                  go_roundw
                  case rel => exact ⟨i + 1, _, _, by omega, by go_num, fun e => HGg.out (by have := HN1.out; omega), fun _ => by rw [HC2.out], HL2.out⟩
                  case measure => simp [intOf]; omega
                · have f1 : ¬ r = n / 2 - 1 := fun e => c1 (R1.1 e)
                  have f2 : ¬ r = n / 2 := fun e => c2 (R2.1 e)
                  have HN1 : Hid (¬ i = i1) := c1
                  have HN2 : Hid (¬ i = i2) := c2
                  clear R1 R2 c1 c2
                  have f3 : ¬ (r : Int) = (n : Int) / 2 - 1 := by omega
                  have f4 : ¬ (r : Int) = (n : Int) / 2 := by omega
                  go_wp2
                  go_roundw
                  case rel => exact ⟨i + 1, _, _, by omega, by go_num, fun e => HGg.out (by have := HN1.out; omega), fun e => HGh.out (by have := HN2.out; omega), HL.out⟩
                  case measure => simp [intOf]; omega
        · obtain rfl : n = i := by omega
          have E1 : i1 < n := by rw [HI1.out]; exact Nat.mod_lt _ (by omega)
          have E2 : i2 < n := by rw [HI2.out]; exact Nat.mod_lt _ (by omega)
          obtain rfl := hg E1
          obtain rfl := hh E2
          have HL := hid hL
          have hS0 : L2 w n (fun m => subId (G m) t) (G i1) (G i2) wr.drew := hL.over (Below.refl _ _).drew
          have HLa : Hid (∀ w', L2 w n (fun m => subId (G m) t) (G i1) (G i2) w' → (Instr.loadAt 22 (.pointer (some ⟨w.heap.size + 1, 0, none⟩))).run Try.prog w' = .ok (.agg (idOf (G i1))) w') := fun w' h => ld22 (Blk.range (cs := idL (G i1)) h.b4)
          have HLb : Hid (∀ w', L2 w n (fun m => subId (G m) t) (G i1) (G i2) w' → (Instr.loadAt 22 (.pointer (some ⟨w.heap.size + 2, 0, none⟩))).run Try.prog w' = .ok (.agg (idOf (G i2))) w') := fun w' h => ld22 (Blk.range (cs := idL (G i2)) h.b5)
          have st1 := st22 hS0.b4 (G i1)
          have hS1 := hS0.set4 (G i1)
          have st2 := st22 hS1.b5 (G i2)
          have hS2 := hS1.set5 (G i2)
          clear hL HL
          go_wp2
          refine wp_region_held (S := fun w' => L2 w n (fun m => subId (G m) t) (G i1) (G i2) w') (by kernel_rfl) ?_
          change wpAnyH Try.prog .any _ _ _ 4 (Array.replicate 4 false) _ wr.drew
          refine take_quiet (i := 0) rfl (by kernel_rfl) (by kernel_rfl) (by kernel_rfl) (fun _ _ _ _ h => h) (by rfl) (by rfl) hS0 ?_
          intro K hK
          simp only [List.getElem_toArray, List.getElem_cons_zero]
          refine quiet_ld 22 (.tmp 4) rfl rfl HLa.out ?_
          simp only [Act.put, List.setIfInBounds_toArray, List.set_cons_zero, List.set_cons_succ]
          go_big_quiet_on
          refine take_quiet (i := 1) rfl (by kernel_rfl) (by kernel_rfl) (by kernel_rfl) (fun _ _ _ _ h => h) (by rfl) (by rfl) hS0 ?_
          intro K hK
          simp only [List.getElem_toArray, List.getElem_cons_zero, List.getElem_cons_succ]
          refine quiet_ld 22 (.tmp 5) rfl rfl HLb.out ?_
          simp only [Act.put, List.setIfInBounds_toArray, List.set_cons_zero, List.set_cons_succ]
          go_big_quiet_on
          refine one_store (i := 2) rfl (by kernel_rfl) (by rfl) 22 (.tmp 4) (.tmp 72) rfl rfl rfl st1 hS1 ?_
          simp only [List.getElem_toArray, List.getElem_cons_zero, List.getElem_cons_succ, Act.put]
          refine one_store (i := 3) rfl (by kernel_rfl) (by rfl) 22 (.tmp 5) (.tmp 73) rfl rfl rfl st2 hS2 ?_
          simp only [List.getElem_toArray, List.getElem_cons_zero, List.getElem_cons_succ, Act.put]
          refine wpAnyH_done (by kernel_rfl) ?_ _
          have HS2 := hid hS2
          clear hS0 hS1 hS2 st1 st2 HLa HLb
          go_wp2
          refine bodyPost_ret (v := .tuple #[.agg (idOf (G i1)), .agg (idOf (G i2))]) (results_cell2 (P := Try.prog) (fn := Try.f13) Try.results13 _ _ (w.heap.size + 1) (w.heap.size + 2) 22 _ _ _ rfl rfl HS2.out.b4 HS2.out.b5 Try.underlying22 rfl (by rw [idOf_size]; exact info22) (by rw [idOf_size]; exact info22)) rfl ⟨rfl, ?_⟩
          exact HS2.out.below
end Go.Proofs.Qxb6604152a.Ids
