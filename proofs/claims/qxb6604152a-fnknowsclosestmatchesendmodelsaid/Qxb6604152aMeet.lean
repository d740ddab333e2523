/-
  The head that the laws share: gates, clone, the leaf set.
-/
import Derived.Test.Qxb6604152aEq
import Derived.Test.Qxb6604152aRing
namespace Go.Proofs.Qxb6604152a.Ids
open Go.ChangeShapes Go.WideShapes Go.ChangeAt Go.RowKit
open Go.Proofs.Qxb6604152a.Num
open Go.Proofs.Qxb6604152a.Rank

/-- What is known behind a store of a whole block. -/
structure Laid (w w2 : World) (b T : Nat) (c : Array Value) : Prop where
  same : Blk w2 b T c
  other : ∀ b' T' c', b' ≠ b → Blk w b' T' c' → Blk w2 b' T' c'
  below : ∀ B w0, B ≤ b → Below B w0 w → Below B w0 w2
  size : w2.heap.size = w.heap.size
theorem laid_setRow {w : World} {b T : Nat} {c0 : Array Value} (h : Blk w b T c0) (c : Array Value) : Laid w (w.setRow b c) b T c :=
  ⟨h.setRow_same c, fun b' T' c' hne hb => hb.setRow_other c hne, fun B w0 hB hb => below_setRow hb hB c, by simp⟩
section
variable {ops : Array Oper} {rest : List Oper} {o : Oper} {a : Act} {w : World} {Q : Exit → Act → World → Prop}
theorem wl_row22 (hgd : o.guard = none) (x y : Operand) (ho : o.op = .store 22 x y) {b : Nat} {c0 : Array Value} {g : Nat → Int} (hx : a.eval x = .pointer (some ⟨b, 0, none⟩)) (hy : a.eval y = .agg (idOf g))
    (hb : Blk w b 22 c0) (hc : c0.size = 16) (h : ∀ w2, Laid w w2 b 22 (idOf g) → wpList Try.prog ops Q rest (a.put o.dst undef) w2) : wpList Try.prog ops Q (o :: rest) a w := by
  have hl : (Instr.storeAt 22 (.pointer (some ⟨b, 0, none⟩)) (.agg (idOf g))).run Try.prog w = .ok () (w.setRow b (idOf g)) := by
    simp only [Instr.storeAt, Instr.sureAddr, Sem.run_bind, Sem.run_pure, Result.andThen]
    exact run_storeVar_row w b 22 22 _ (idOf g) hb (by rw [idOf_size]; exact info22) (by rw [idOf_size, hc]) (idOf_one g)
  exact wl_store hgd 22 x y ho hx hy hl (h _ (laid_setRow hb _))
theorem wl_row32 (hgd : o.guard = none) (x y : Operand) (ho : o.op = .store 32 x y) {b : Nat} {c0 : Array Value} {g : Nat → Int} (hx : a.eval x = .pointer (some ⟨b, 0, none⟩)) (hy : a.eval y = .agg (idOf g))
    (hb : Blk w b 32 c0) (hc : c0.size = 16) (h : ∀ w2, Laid w w2 b 32 (idOf g) → wpList Try.prog ops Q rest (a.put o.dst undef) w2) : wpList Try.prog ops Q (o :: rest) a w := by
  have hl : (Instr.storeAt 32 (.pointer (some ⟨b, 0, none⟩)) (.agg (idOf g))).run Try.prog w = .ok () (w.setRow b (idOf g)) := by
    simp only [Instr.storeAt, Instr.sureAddr, Sem.run_bind, Sem.run_pure, Result.andThen]
    exact run_storeVar_row w b 32 32 _ (idOf g) hb (by rw [idOf_size]; exact info32) (by rw [idOf_size, hc]) (idOf_one g)
  exact wl_store hgd 32 x y ho hx hy hl (h _ (laid_setRow hb _))
end

abbrev Z16 : Array Value := #[.int .u8 0, .int .u8 0, .int .u8 0, .int .u8 0, .int .u8 0, .int .u8 0, .int .u8 0, .int .u8 0, .int .u8 0, .int .u8 0, .int .u8 0, .int .u8 0, .int .u8 0, .int .u8 0, .int .u8 0, .int .u8 0]
theorem blk_new1 (w : World) (A : Array Value) (TA T : Nat) (C : Array Value) : Blk ((w.alloc (.cells A TA)).alloc (.cells C T)) (w.heap.size + 1) T C := by
  have := Blk.new (w.alloc (.cells A TA)) T C
  simpa using this
theorem size1 (w : World) (o : Obj) : (w.alloc o).heap.size = w.heap.size + 1 := by simp
theorem size2 (w : World) (o p : Obj) : ((w.alloc o).alloc p).heap.size = w.heap.size + 2 := by simp
theorem lower_low (n : Nat) (G : Nat → Nat → Int) (t : Nat → Int) : lower n G t = Ring.low n (fun k => num (G k)) (num t) := rfl
theorem ends_facts {n i1 i2 : Nat} {G : Nat → Nat → Int} {t : Nat → Int} (hn : 2 ≤ n) (h1 : i1 = (lower n G t + n / 2 - 1) % n) (h2 : i2 = (lower n G t + n / 2) % n) :
    i1 < n ∧ i2 < n ∧ ((i1 + 1 < n ∧ i2 = i1 + 1) ∨ (i1 + 1 = n ∧ i2 = 0)) := by
  obtain ⟨a, b, c, _⟩ := Ring.ends_at (n := n) (a := lower n G t) hn (cnt_le _ _)
  subst h1; subst h2
  exact ⟨b, a, c⟩
theorem asc_ne {n i j : Nat} {G : Nat → Nat → Int} (h : Asc n G) (hi : i < n) (hj : j < n) (hne : i ≠ j) : num (G i) ≠ num (G j) := by
  rcases Nat.lt_or_gt_of_ne hne with e | e
  · have := h i j e hj; omega
  · have := h j i e hi; omega
theorem guard22 : Try.prog.eqGuardType Try.prog.depth 22 = false := by kernel_rfl
theorem run_neq22 (x y : Operand) (g h : Nat → Int) (b : Bool) (hE : ∀ w, (Op.equalIn 10000 22 (.agg (idOf g)) (.agg (idOf h))).run Try.prog w = .ok b w) (w : World) :
    (do eqGuard .neq 22 x y (.agg (idOf g)) (.agg (idOf h)); binOp .neq 22 (.agg (idOf g)) (.agg (idOf h)) : Sem Value).run Try.prog w = .ok (.bool (!b)) w := by
  simp only [Sem.run_bind, run_eqGuard_agg w .neq 22 x y _ _ guard22, Result.andThen_ok, run_neq_struct w 22, hE w]
theorem quiet_neq22 {C : World → Prop} {K : Act → Prop} {o : Oper} {a : Act} {T2 : TypeId} (x y : Operand) (ho : o.op = .binOp .neq 22 x y T2) {g h : Nat → Int} (hx : a.eval x = .agg (idOf g)) (hy : a.eval y = .agg (idOf h)) {b : Bool}
    (hE : ∀ w, (Op.equalIn 10000 22 (.agg (idOf g)) (.agg (idOf h))).run Try.prog w = .ok b w) (hk : K (a.put o.dst (.bool (!b)))) : o.quiet Try.prog a C K :=
  ⟨_, fun w _ => by
    have := run_neq22 x y g h b hE w
    unfold Oper.quietAt execOp
    simp only [ho, hx, hy, Sem.run_bind, Sem.run_pure] at this ⊢
    rw [this]
    exact ⟨rfl, rfl⟩, hk⟩
theorem quiet_pickF {P : Program} {C : World → Prop} {K : Act → Prop} {o : Oper} {a : Act} (c x y : Operand) (ho : o.op = .pick c x y) (hc : a.eval c = .bool false) {v : Value} (hy : a.eval y = v) (hk : K (a.put o.dst v)) : o.quiet P a C K :=
  ⟨v, fun w _ => by
    unfold Oper.quietAt execOp
    simp only [ho, hc, hy, asBool, Sem.run_bind, Sem.run_pure, Result.andThen_ok]
    exact ⟨rfl, rfl⟩, hk⟩
theorem quiet_pickT {P : Program} {C : World → Prop} {K : Act → Prop} {o : Oper} {a : Act} (c x y : Operand) (ho : o.op = .pick c x y) (hc : a.eval c = .bool true) {v : Value} (hy : a.eval x = v) (hk : K (a.put o.dst v)) : o.quiet P a C K :=
  ⟨v, fun w _ => by
    unfold Oper.quietAt execOp
    simp only [ho, hc, hy, asBool, Sem.run_bind, Sem.run_pure, Result.andThen_ok]
    exact ⟨rfl, rfl⟩, hk⟩
theorem num_zero : num (fun _ => 0) = 0 := by decide
theorem byt_zero : Byt (fun _ => 0) := fun _ _ => ⟨Int.le_refl _, by simp⟩
theorem wl_load_w {P : Program} {ops : Array Oper} {rest : List Oper} {o : Oper} {a : Act} {w : World} {Q : Exit → Act → World → Prop} (hw : Region.wanted o (yielded ops a.tmps) = true) (ty : TypeId) (x : Operand) (ho : o.op = .load ty x) {p : Value} (hx : a.eval x = p) {v : Value}
    (hl : (Instr.loadAt ty p).run P w = .ok v w) (h : wpList P ops Q rest (a.put o.dst v) w) : wpList P ops Q (o :: rest) a w :=
  BigFrame.wpList_want hw fun _ hK => by
    unfold Oper.wp execOp
    simp only [ho, hx, Sem.run_bind, hl, Sem.run_pure, Result.andThen_ok]
    exact hK _ _ h
theorem dec_at {k j : Nat} (h : k = j) : true = decide (j < k + 1) := by rw [h]; simp
theorem dec_ne {k j : Nat} (h : ¬ j = k) : decide (j < k) = decide (j < k + 1) := by
  by_cases e : j < k
  · rw [decide_eq_true e, decide_eq_true (by omega)]
  · rw [decide_eq_false e, decide_eq_false (by omega)]
theorem PView.below {w w' : World} {a : Option Addr} {n : Nat} {G : Nat → Nat → Int} {S : Nat → ByteArray} (h : PView w a n G S) (hb : Below w.heap.size w w') : PView w' a n G S := fun hn => by
  obtain ⟨b, off, rfl, h1, h2, h3⟩ := h hn
  exact ⟨b, off, rfl, Nat.lt_of_lt_of_le h1 hb.size, h2.below hb h1, h3⟩

set_option maxHeartbeats 1600000 in
set_option maxRecDepth 10000 in
theorem meet_walk (t : Nat → Int) (s : ByteArray) (size : Int) (a : Option Addr) (n c : Nat) (G : Nat → Nat → Int) (S : Nat → ByteArray) (w : World) (ht : Byt t) (hv : PView w a n G S) :
    Calls Try.prog 4 #[.agg (peerOf t s), .int .i64 size, .slice a n c] w fun e w' => e = .returned (.bool true) ∧ Below w.heap.size w w' := by
  have HT := hid ht
  have HV := hid hv
  clear ht hv
  go_enter Try.func4, Try.ntmps4
  obtain ⟨w1, hw1⟩ : ∃ w1, w1 = w.alloc (.cells (peerOf t s) 24) := ⟨_, rfl⟩
  have k0 : Blk w1 w.heap.size 24 (peerOf t s) := by rw [hw1]; exact Blk.new _ _ _
  have HL0 := hid (show (Instr.loadAt 24 (.pointer (some ⟨w.heap.size, 0, none⟩))).run Try.prog (w.alloc (.cells (peerOf t s) 24)) = .ok (.agg (peerOf t s)) (w.alloc (.cells (peerOf t s) 24)) from ld24 (Blk.range (cs := peerL t s) (by rw [← hw1]; exact k0)))
  go_wp2_with ((with_reducible refine wl_load ?_ 24 (.tmp 3) ?_ ?_ HL0.out ?_); rfl; rfl; rfl; simp only [Act.put, List.setIfInBounds_toArray, List.set_cons_zero, List.set_cons_succ]; clear HL0)
  rw [← hw1]
  have B1 : Below w.heap.size w w1 := by rw [hw1]; exact (Below.refl _ _).alloc (Nat.le_refl _) _
  have z1 : w.heap.size < w1.heap.size := k0.lt
  clear hw1
  refine (bytes14 t s size a n c G S w1 (HV.out.below B1)).mono ?_
  rintro e w2 ⟨⟨r, rfl⟩, b2⟩
  have B2 := B1.trans (b2.mono (by omega))
  have k2 := k0.below b2 z1
  clear b2 k0 B1 z1
  cases r
  · go_wp2
    go_ret
    exact ⟨rfl, B2⟩
  by_cases hL : 4096 < n
  · go_wp2
    go_ret
    exact ⟨rfl, B2⟩
  have z2 := k2.lt
  have HL0 := hid (ld24 (Blk.range (cs := peerL t s) k2))
  have HB2 := hid B2
  have HK2 := hid k2
  clear B2 k2
  go_wp2_with ((with_reducible refine wl_load ?_ 24 (.tmp 3) ?_ ?_ HL0.out ?_); rfl; rfl; rfl; simp only [Act.put, List.setIfInBounds_toArray, List.set_cons_zero, List.set_cons_succ]; clear HL0)
  refine (bytesOK t s a n c G S none 0 0 G S w2 (by omega) (by omega) (HV.out.below HB2.out) (fun h => by omega)).mono ?_
  rintro e w3 ⟨⟨r, rfl⟩, b3⟩
  have B3 := HB2.out.trans (b3.mono (by omega))
  have k3 := HK2.out.below b3 z2
  clear b3 HB2 HK2 z2
  cases r
  · go_wp2
    go_ret
    exact ⟨rfl, B3⟩
  have z3 := k3.lt
  have HB3 := hid B3
  have HK3 := hid k3
  clear B3 k3
  go_wp2_with fail
  refine (full_any size a n c G S w3 (by omega) (HV.out.below HB3.out)).mono ?_
  rintro e w4 ⟨⟨r, rfl, hfull⟩, b4⟩
  have B4 := HB3.out.trans (b4.mono (by omega))
  have k4 := HK3.out.below b4 z3
  clear b4 HB3 HK3 z3
  cases r
  · go_wp2
    go_ret
    exact ⟨rfl, B4⟩
  obtain ⟨rfl, hn2, hnev, hasc⟩ := hfull rfl
  have HASC := hid hasc
  have z4 := k4.lt
  obtain ⟨b, off, rfl, hb, hP, hG⟩ := HV.out (by omega)
  have HG := hid hG
  have HP4 := hid (hP.below B4 hb)
  have HB4 := hid B4
  have HK4 := hid k4
  clear B4 k4 hfull hasc hG hP
  go_wp2_with fail
  refine (clone_pos b off n c G S w4 (by omega) (by omega) (by omega) HP4.out).mono ?_
  rintro e w5 ⟨rfl, hP5, hz5, b5⟩
  have B5 := HB4.out.trans (b5.mono (by omega))
  have k5 := HK4.out.below b5 z4
  have hM1 : w4.heap.size < w5.heap.size := hz5
  clear b5 HB4 HK4 HP4
  have z5 := k5.lt
  have hne := cw_some w5.heap.size w5
  have HLs : Hid (∀ w', (∃ x : CW w5.heap.size w5, w' = x.val) → (Instr.loadAt 22 (.pointer (some ⟨w.heap.size, 0, none⟩))).run Try.prog w' = .ok (.agg (idOf t)) w') := by
    rintro w' ⟨x, rfl⟩
    exact ld22 (range_peer_id (Blk.range (cs := peerL t s) (k5.below x.2 z5)))
  have q16 : ∀ x : CW w5.heap.size w5, x.val.cell? ⟨w.heap.size, 16, none⟩ = some (.string s) := fun x => ((k5.below x.2 z5).cell 16).trans (peerOf_str t s)
  have hS0 : ∃ x : CW w5.heap.size w5, w5.drew = x.val := ⟨⟨w5.drew, (Below.refl _ _).drew⟩, rfl⟩
  have HP5 := hid hP5
  have HK5 := hid k5
  have HB5 := hid B5
  clear hP5 k5 B5 hz5
  go_wp2
  refine wp_region_held (S := fun w' => ∃ x : CW w5.heap.size w5, w' = x.val) (by kernel_rfl) ?_
  change wpAnyH Try.prog .any _ _ _ 10 (Array.replicate 10 false) _ w5.drew
  refine take_quiet (i := 0) rfl (by kernel_rfl) (by kernel_rfl) (by kernel_rfl) (fun _ _ _ _ h => h) (by rfl) (by rfl) hS0 ?_
  intro K hK
  simp only [List.getElem_toArray, List.getElem_cons_zero]
  go_big_quiet_op
  go_big_quiet_on
  refine take_quiet (i := 1) rfl (by kernel_rfl) (by kernel_rfl) (by kernel_rfl) (fun _ _ _ _ h => h) (by rfl) (by rfl) hS0 ?_
  intro K hK
  simp only [List.getElem_toArray, List.getElem_cons_zero, List.getElem_cons_succ]
  refine quiet_ld 22 (.tmp 37) rfl rfl HLs.out ?_
  simp only [Act.put, List.setIfInBounds_toArray, List.set_cons_zero, List.set_cons_succ]
  go_big_quiet_on
  refine take_quiet (i := 2) rfl (by kernel_rfl) (by kernel_rfl) (by kernel_rfl) (fun _ _ _ _ h => h) (by rfl) (by rfl) hS0 ?_
  intro K hK
  simp only [List.getElem_toArray, List.getElem_cons_zero, List.getElem_cons_succ]
  go_big_quiet_op
  go_big_quiet_on
  refine take_quiet (i := 3) rfl (by kernel_rfl) (by kernel_rfl) (by kernel_rfl) (fun _ _ _ _ h => h) (by rfl) (by rfl) hS0 ?_
  intro K hK
  simp only [List.getElem_toArray, List.getElem_cons_zero, List.getElem_cons_succ]
  go_big_quiet_op
  go_big_quiet_on
  refine take_quiet (i := 4) rfl (by kernel_rfl) (by kernel_rfl) (by kernel_rfl) (fun _ _ _ _ h => h) (by rfl) (by rfl) hS0 ?_
  intro K hK
  simp only [List.getElem_toArray, List.getElem_cons_zero, List.getElem_cons_succ]
  refine quiet_build2 34 0 1 (.tmp 38) (.tmp 40) rfl rfl rfl (build34 t s) ?_
  simp only [Act.put, List.setIfInBounds_toArray, List.set_cons_zero, List.set_cons_succ]
  go_big_quiet_on
  refine take_quiet (i := 5) rfl (by kernel_rfl) (by kernel_rfl) (by kernel_rfl) (fun _ _ _ _ h => h) (by rfl) (by rfl) hS0 ?_
  intro K hK
  simp only [List.getElem_toArray, List.getElem_cons_zero, List.getElem_cons_succ]
  go_big_quiet_op
  go_big_quiet_on
  refine take_quiet (i := 6) rfl (by kernel_rfl) (by kernel_rfl) (by kernel_rfl) (fun _ _ _ _ h => h) (by rfl) (by rfl) hS0 ?_
  intro K hK
  simp only [List.getElem_toArray, List.getElem_cons_zero, List.getElem_cons_succ]
  go_big_quiet_op
  go_big_quiet_on
  refine one_call (i := 7) rfl (by kernel_rfl) (by rfl) (f := 11) (args := #[.slice (some ⟨w4.heap.size, 0, none⟩) n n]) (by kernel_rfl) (peers_pos w4.heap.size 0 n n G S w5.drew (by omega) (by omega) hM1 HP5.out) ?_
  rintro e w6 ⟨rfl, hP6, hz6, b6⟩
  refine ⟨_, rfl, ⟨⟨w6, (Below.refl _ _).drew.trans b6⟩, rfl⟩, ?_⟩
  simp only [List.getElem_toArray, List.getElem_cons_zero, List.getElem_cons_succ, Act.put, List.setIfInBounds_toArray, List.set_cons_zero, List.set_cons_succ]
  refine one_call (i := 8) rfl (by kernel_rfl) (by rfl) (f := 10) (args := #[.agg (peerOf t s), .int .i64 n, .slice (some ⟨w5.drew.heap.size, 0, none⟩) n n]) (by kernel_rfl) (new_any t s n w5.drew.heap.size n n w6) ?_
  rintro e w7 ⟨rfl, hL7, b7⟩
  have b57 : Below w5.heap.size w5 w7 := ((Below.refl w5.heap.size w5).drew.trans b6).trans (b7.mono (Nat.le_of_lt hz6))
  refine ⟨_, rfl, ⟨⟨w7, b57⟩, rfl⟩, ?_⟩
  simp only [List.getElem_toArray, List.getElem_cons_zero, List.getElem_cons_succ, Act.put, List.setIfInBounds_toArray, List.set_cons_zero, List.set_cons_succ]
  refine take_quiet (i := 9) rfl (by kernel_rfl) (by kernel_rfl) (by kernel_rfl) (fun _ _ _ _ h => h) (by rfl) (by rfl) ⟨⟨w7, b57⟩, rfl⟩ ?_
  intro K hK
  simp only [List.getElem_toArray, List.getElem_cons_zero, List.getElem_cons_succ]
  go_big_quiet_op
  go_big_quiet_on
  refine wpAnyH_done (by kernel_rfl) ?_ _
  have z56 : w5.heap.size < w6.heap.size := hz6
  have hz7 := b7.size
  have hP7 := hP6.below b7 hz6
  have hM7 := HP5.out.below b57 hM1
  have k7 := HK5.out.below b57 z5
  have B7 := HB5.out.trans (b57.mono (by have := HB5.out.size; omega))
  have z7 : w.heap.size < w7.heap.size := k7.lt
  have zM : w4.heap.size < w7.heap.size := by omega
  have HL7 := hid hL7
  have HP7 := hid hP7
  have HM7 := hid hM7
  have HK7 := hid k7
  have HB7 := hid B7
  clear hL7 hP7 hM7 k7 B7 hP6 b7 b57 hS0 q16 HLs hne HP5 HK5 HB5 b6
  go_wp2_with fail
  refine (zzEnds_any (w6.heap.size + 1) w5.drew.heap.size n G S t w7 hn2 (by omega) (Nat.lt_of_lt_of_le hz6 hz7) HL7.out HP7.out HG.out HT.out HASC.out).mono ?_
  obtain ⟨i1, hi1⟩ : ∃ i, i = (lower n G t + n / 2 - 1) % n := ⟨_, rfl⟩
  obtain ⟨i2, hi2⟩ : ∃ i, i = (lower n G t + n / 2) % n := ⟨_, rfl⟩
  rw [← hi1, ← hi2]
  rintro e w8 ⟨rfl, b8⟩
  have HI1 := hid hi1
  have HI2 := hid hi2
  have HM8 := hid (HM7.out.below b8 zM)
  have HK8 := hid (HK7.out.below b8 z7)
  have HB8 := hid (HB7.out.trans (b8.mono (by omega)))
  have z8 : w7.heap.size ≤ w8.heap.size := b8.size
  clear hi1 hi2 b8 HL7 HP7 HM7 HK7 HB7
  obtain ⟨i1lt, i2lt, hpos⟩ := ends_facts hn2 HI1.out HI2.out
  have HPOS := hid hpos
  have gF := HG.out i1 i1lt
  have gK := HG.out i2 i2lt
  have HNE : Hid (num (G i1) ≠ num (G i2)) := asc_ne HASC.out i1lt i2lt (by rcases hpos with h | h <;> omega)
  have hE : ∀ w, (Op.equalIn 10000 22 (.agg (idOf (G i1))) (.agg (idOf (G i2)))).run Try.prog w = .ok false w := fun w => by
    rw [eq22 _ _ gF gK, decide_eq_false HNE.out]
  have hg22 : Try.prog.eqGuardType Try.prog.depth 22 = false := by kernel_rfl
  have HGF := hid gF
  have HGK := hid gK
  clear gF gK hpos
  go_wp2_with (first
    | ((with_reducible refine wl_row32 (g := G i1) ?_ (.tmp 8) (.tmp 49) ?_ ?_ ?_ ((Blk.new w8 32 _).alloc _) ?_ ?_); rfl; rfl; rfl; rfl; rfl; simp only [Act.put]; intro s1 l1; have HJ1 := hid (l1.other (w8.heap.size + 1) 32 Z16 (by omega) (blk_new1 w8 _ _ _ _)); have HS1 := hid l1.same; have HQ1 := hid (l1.below _ _ (Nat.le_refl _) (((Below.refl w8.heap.size w8).alloc (Nat.le_refl _) _).alloc (by simp) _)); have HN1 := hid (l1.size.trans (size2 w8 _ _)); clear l1)
    | ((with_reducible refine wl_row32 (g := G i2) ?_ (.tmp 9) (.tmp 50) ?_ ?_ ?_ HJ1.out ?_ ?_); rfl; rfl; rfl; rfl; rfl; simp only [Act.put]; intro s2 l2; have HF2 := hid (l2.other _ _ _ (by omega) HS1.out); have HK2 := hid l2.same; have HQ2 := hid (l2.below _ _ (by omega) HQ1.out); have HN2 := hid (l2.size.trans HN1.out); clear l2 HJ1 HS1 HQ1 HN1)
    | ((with_reducible refine wl_load ?_ 32 (.tmp 8) ?_ ?_ (ld32 (Blk.range (cs := idL (G i1)) HF2.out)) ?_); rfl; rfl; rfl; simp only [Act.put, List.setIfInBounds_toArray, List.set_cons_zero, List.set_cons_succ]; clear HF2)
    | ((with_reducible refine wl_row22 (g := G i1) ?_ (.tmp 10) (.tmp 51) ?_ ?_ ?_ (Blk.new s2 22 _) ?_ ?_); rfl; rfl; rfl; rfl; rfl; simp only [Act.put]; intro s3 l3; have HF3 := hid l3.same; have HK3 := hid (l3.other _ _ _ (by have := HN2.out; omega) (HK2.out.alloc _)); have HQ3 := hid (l3.below _ _ (by have := HN2.out; omega) (HQ2.out.alloc (by have := HN2.out; omega) _)); have HN3 := hid (l3.size.trans (size1 s2 _)); clear l3 HK2 HQ2)
    | ((with_reducible refine wl_load ?_ 32 (.tmp 9) ?_ ?_ (ld32 (Blk.range (cs := idL (G i2)) HK3.out)) ?_); rfl; rfl; rfl; simp only [Act.put, List.setIfInBounds_toArray, List.set_cons_zero, List.set_cons_succ]; clear HK3)
    | ((with_reducible refine wl_row22 (g := G i2) ?_ (.tmp 11) (.tmp 52) ?_ ?_ ?_ (Blk.new s3 22 _) ?_ ?_); rfl; rfl; rfl; rfl; rfl; simp only [Act.put]; intro s4 l4; have HF4 := hid (l4.other _ _ _ (by have := HN3.out; omega) (HF3.out.alloc _)); have HK4 := hid l4.same; have HQ4 := hid (l4.below _ _ (by have := HN2.out; have := HN3.out; omega) (HQ3.out.alloc (by have := HN2.out; have := HN3.out; omega) _)); have HN4 := hid (l4.size.trans (size1 s3 _)); clear l4 HF3 HQ3)
    | ((with_reducible refine wl_load ?_ 22 (.tmp 10) ?_ ?_ (ld22 (Blk.range (cs := idL (G i1)) HF4.out)) ?_); rfl; rfl; rfl; simp only [Act.put, List.setIfInBounds_toArray, List.set_cons_zero, List.set_cons_succ])
    | ((with_reducible refine wl_load ?_ 22 (.tmp 11) ?_ ?_ (ld22 (Blk.range (cs := idL (G i2)) HK4.out)) ?_); rfl; rfl; rfl; simp only [Act.put, List.setIfInBounds_toArray, List.set_cons_zero, List.set_cons_succ]))
  refine (sub_any (G i2) (G i1) s4 HGK.out HGF.out).mono ?_
  rintro e w9 ⟨rfl, b9⟩
  have z9 := b9.size
  have n2 := HN2.out
  have n3 := HN3.out
  have n4 := HN4.out
  have HF9 := hid (HF4.out.below b9 (by omega))
  have HK9 := hid (HK4.out.below b9 (by omega))
  have HQ9 := hid (HQ4.out.trans (b9.mono (by omega)))
  obtain ⟨p10, hp10⟩ : ∃ p, p = s2.heap.size := ⟨_, rfl⟩
  obtain ⟨p11, hp11⟩ : ∃ p, p = s3.heap.size := ⟨_, rfl⟩
  rw [← hp10] at HF9
  rw [← hp11] at HK9
  rw [← hp10, ← hp11]
  have q10 : p10 = w8.heap.size + 2 := hp10.trans HN2.out
  have q11 : p11 = w8.heap.size + 3 := by rw [hp11, HN3.out, HN2.out]
  have q12 : w8.heap.size + 4 ≤ w9.heap.size := by omega
  have Q10 := hid q10
  have Q11 := hid q11
  clear q10 q11 hp10 hp11 b9 HF4 HK4 HQ4 n2 n3 n4 z9 HN2 HN3 HN4 hE
  go_wp2_with ((with_reducible refine wl_row22 (g := subId (G i2) (G i1)) ?_ (.tmp 12) (.tmp 58) ?_ ?_ ?_ (Blk.new w9 22 _) ?_ ?_); rfl; rfl; rfl; rfl; rfl; simp only [Act.put]; intro s5 l5; have HP5 := hid l5.same; have HF5 := hid (l5.other _ _ _ (by have := Q10.out; omega) (HF9.out.alloc _)); have HK5 := hid (l5.other _ _ _ (by have := Q11.out; omega) (HK9.out.alloc _)); have HQ5 := hid (l5.below _ _ (by omega) (HQ9.out.alloc (by omega) _)); have HN5 := hid (l5.size.trans (size1 w9 _)); clear l5 HF9 HK9 HQ9)
  go_loopw [13, 14, 15] (fun bF bK i wr => ∃ k : Nat, ∃ x y : Bool, k ≤ n ∧ i = .int .i64 k ∧ bF = .bool x ∧ bK = .bool y ∧ x = decide (i1 < k) ∧ y = decide (i2 < k) ∧ Below s5.heap.size s5 wr) (fun _ _ i _ => n - (intOf i).toNat)
  case atStart => exact ⟨0, false, false, by omega, rfl, rfl, rfl, rfl, rfl, Below.refl _ _⟩
  case round =>
    obtain ⟨k, x, y, hk, rfl, rfl, rfl, hx, hy, hBr⟩ := hrel
    have hzr := hBr.size
    have n5 := HN5.out
    have q10 := Q10.out
    have q11 := Q11.out
    have HFr := hid (HF5.out.below hBr (by omega))
    have HKr := hid (HK5.out.below hBr (by omega))
    have HPr := hid (HP5.out.below hBr (by omega))
    have HQr := hid hBr
    have HX := hid hx
    have HY := hid hy
    have hpk : p10 < s5.heap.size ∧ p11 < s5.heap.size ∧ w9.heap.size < s5.heap.size := by omega
    clear hx hy hBr
    by_cases hlt : k < n
    · have gk := HG.out k hlt
      have hM := (HM8.out.below HQ5.out (by omega)).below HQr.out (by omega) k hlt
      rw [Nat.zero_add] at hM
      have HLm := hid (ld22 (range_peer_id hM))
      clear hM q10 q11 n5
      by_cases c1 : k = i1
      · have HC1 := hid c1
        have HNK : Hid (num (G k) ≠ num (G i2)) := by rw [HC1.out]; exact HNE.out
        clear c1
        have hE1 : ∀ w, (Op.equalIn 10000 22 (.agg (idOf (G k))) (.agg (idOf (G i1)))).run Try.prog w = .ok true w := fun w => by rw [eq22 _ _ gk HGF.out, decide_eq_true (by rw [HC1.out])]
        have hE2 : ∀ w, (Op.equalIn 10000 22 (.agg (idOf (G k))) (.agg (idOf (G i2)))).run Try.prog w = .ok false w := fun w => by rw [eq22 _ _ gk HGK.out, decide_eq_false HNK.out]
        have HGk := hid gk
        clear gk
        go_wp2_with (first
          | ((with_reducible refine wl_load ?_ 22 (.tmp 68) ?_ ?_ HLm.out ?_); rfl; rfl; rfl; simp only [Act.put, List.setIfInBounds_toArray, List.set_cons_zero, List.set_cons_succ]; clear HLm)
          | ((with_reducible refine wl_row22 (g := G k) ?_ (.tmp 16) (.tmp 69) ?_ ?_ ?_ (Blk.new wr 22 _) ?_ ?_); rfl; rfl; rfl; rfl; rfl; simp only [Act.put]; intro r1 l1; have HM1 := hid l1.same; have HF1 := hid (l1.other _ _ _ (by omega) (HFr.out.alloc _)); have HK1 := hid (l1.other _ _ _ (by omega) (HKr.out.alloc _)); have HP1 := hid (l1.other _ _ _ (by omega) (HPr.out.alloc _)); have HQ1 := hid (l1.below _ _ (by omega) (HQr.out.alloc (by omega) _)); have HN1 := hid (l1.size.trans (size1 wr _)); clear l1)
          | ((with_reducible refine wl_load ?_ 22 (.tmp 16) ?_ ?_ (ld22 (Blk.range (cs := idL (G k)) HM1.out)) ?_); rfl; rfl; rfl; simp only [Act.put, List.setIfInBounds_toArray, List.set_cons_zero, List.set_cons_succ])
          | ((with_reducible refine wl_load ?_ 22 (.tmp 10) ?_ ?_ (ld22 (Blk.range (cs := idL (G i1)) HF1.out)) ?_); rfl; rfl; rfl; simp only [Act.put, List.setIfInBounds_toArray, List.set_cons_zero, List.set_cons_succ])
          | ((with_reducible refine wl_load ?_ 22 (.tmp 11) ?_ ?_ (ld22 (Blk.range (cs := idL (G i2)) HK1.out)) ?_); rfl; rfl; rfl; simp only [Act.put, List.setIfInBounds_toArray, List.set_cons_zero, List.set_cons_succ]))
        have n1 := HN1.out
        have hne := cw_some r1.heap.size r1
        have HLa : Hid (∀ w', (∃ x : CW r1.heap.size r1, w' = x.val) → (Instr.loadAt 22 (.pointer (some ⟨wr.heap.size, 0, none⟩))).run Try.prog w' = .ok (.agg (idOf (G k))) w') := by
          rintro w' ⟨x, rfl⟩
          exact ld22 (Blk.range (cs := idL (G k)) (HM1.out.below x.2 (by omega)))
        have HLb : Hid (∀ w', (∃ x : CW r1.heap.size r1, w' = x.val) → (Instr.loadAt 22 (.pointer (some ⟨p10, 0, none⟩))).run Try.prog w' = .ok (.agg (idOf (G i1))) w') := by
          rintro w' ⟨x, rfl⟩
          exact ld22 (Blk.range (cs := idL (G i1)) (HF1.out.below x.2 (by omega)))
        have HLc : Hid (∀ w', (∃ x : CW r1.heap.size r1, w' = x.val) → (Instr.loadAt 22 (.pointer (some ⟨w9.heap.size, 0, none⟩))).run Try.prog w' = .ok (.agg (idOf (subId (G i2) (G i1)))) w') := by
          rintro w' ⟨x, rfl⟩
          exact ld22 (Blk.range (cs := idL (subId (G i2) (G i1))) (HP1.out.below x.2 (by omega)))
        have HC15 : Hid (∀ x : CW r1.heap.size r1, Calls Try.prog 15 #[.agg (idOf (G k)), .agg (idOf (G i1))] x.val fun e w'' => e = .returned (.agg (idOf (subId (G k) (G i1)))) ∧ ∃ y : CW r1.heap.size r1, w'' = y.val) :=
          fun x => cw_call x (sub_any _ _ _ HGk.out HGF.out)
        have HC16 : Hid (∀ x : CW r1.heap.size r1, Calls Try.prog 16 #[.agg (idOf (subId (G k) (G i1))), .agg (idOf (subId (G i2) (G i1)))] x.val fun e w'' => e = .returned (.bool (decide (num (subId (G k) (G i1)) < num (subId (G i2) (G i1))))) ∧ ∃ y : CW r1.heap.size r1, w'' = y.val) :=
          fun x => cw_call x (less_any _ _ _ (sub_byt HGk.out HGF.out) (sub_byt HGK.out HGF.out))
        refine region_cw r1.heap.size (by kernel_rfl) (by kernel_rfl) ?_
        repeat (first | go_big_quiet_skip | (go_big_quiet_want; first | (refine quiet_ld 22 (.tmp 16) rfl rfl HLa.out ?_; simp only [Act.put, List.setIfInBounds_toArray, List.set_cons_zero, List.set_cons_succ]; go_big_quiet_on) | (refine quiet_ld 22 (.tmp 10) rfl rfl HLb.out ?_; simp only [Act.put, List.setIfInBounds_toArray, List.set_cons_zero, List.set_cons_succ]; go_big_quiet_on) | (refine quiet_ld 22 (.tmp 12) rfl rfl HLc.out ?_; simp only [Act.put, List.setIfInBounds_toArray, List.set_cons_zero, List.set_cons_succ]; go_big_quiet_on) | (refine quiet_neq22 (.tmp 76) (.tmp 77) rfl rfl rfl hE1 ?_; simp only [Bool.not_true, Act.put, List.setIfInBounds_toArray, List.set_cons_zero, List.set_cons_succ]; go_big_quiet_on) | (refine quiet_pickF (.tmp 79) (.tmp 84) (.const (.bool false)) rfl rfl (v := .bool false) rfl ?_; simp only [Act.put, List.setIfInBounds_toArray, List.set_cons_zero, List.set_cons_succ]; go_big_quiet_on) | (go_big_quiet_op; first | go_big_quiet_on | go_big_quiet_call (first | exact HC15.out _ | exact HC16.out _))))
        refine wpQuiet_nil ?_
        intro r2 hr2
        obtain ⟨⟨r2', hb2⟩, hr2e⟩ := hr2
        subst hr2e
        have HQ2 := hid (HQ1.out.trans (hb2.mono (by omega)))
        clear hb2 hne HLa HLb HLc HC15 HC16
        go_wp2
        go_roundw
        case rel => exact ⟨k + 1, _, _, by omega, by go_num, rfl, rfl, dec_at HC1.out, HY.out.trans (dec_ne (by rw [HC1.out]; exact fun e => HNE.out (by rw [e]))), HQ2.out⟩
        case measure => simp [intOf]; omega
      · have HC1 := hid c1
        have HN1' : Hid (num (G k) ≠ num (G i1)) := asc_ne HASC.out hlt i1lt c1
        have hcd : decide (num (subId (G k) (G i1)) < num (subId (G i2) (G i1))) = false := by
          rw [sub_num gk HGF.out, sub_num HGK.out HGF.out]
          exact decide_eq_false (Ring.meet (n := n) (x := fun k => num (G k)) HASC.out (fun k hk => num_bd (HG.out k hk)) i1lt i2lt HPOS.out k hlt c1)
        clear c1
        by_cases c2 : k = i2
        · have HC2 := hid c2
          clear c2
          have hE1 : ∀ w, (Op.equalIn 10000 22 (.agg (idOf (G k))) (.agg (idOf (G i1)))).run Try.prog w = .ok false w := fun w => by rw [eq22 _ _ gk HGF.out, decide_eq_false HN1'.out]
          have hE2 : ∀ w, (Op.equalIn 10000 22 (.agg (idOf (G k))) (.agg (idOf (G i2)))).run Try.prog w = .ok true w := fun w => by rw [eq22 _ _ gk HGK.out, decide_eq_true (by rw [HC2.out])]
          have HGk := hid gk
          clear gk
          go_wp2_with (first
            | ((with_reducible refine wl_load ?_ 22 (.tmp 68) ?_ ?_ HLm.out ?_); rfl; rfl; rfl; simp only [Act.put, List.setIfInBounds_toArray, List.set_cons_zero, List.set_cons_succ]; clear HLm)
            | ((with_reducible refine wl_row22 (g := G k) ?_ (.tmp 16) (.tmp 69) ?_ ?_ ?_ (Blk.new wr 22 _) ?_ ?_); rfl; rfl; rfl; rfl; rfl; simp only [Act.put]; intro r1 l1; have HM1 := hid l1.same; have HF1 := hid (l1.other _ _ _ (by omega) (HFr.out.alloc _)); have HK1 := hid (l1.other _ _ _ (by omega) (HKr.out.alloc _)); have HP1 := hid (l1.other _ _ _ (by omega) (HPr.out.alloc _)); have HQ1 := hid (l1.below _ _ (by omega) (HQr.out.alloc (by omega) _)); have HN1 := hid (l1.size.trans (size1 wr _)); clear l1)
            | ((with_reducible refine wl_load ?_ 22 (.tmp 16) ?_ ?_ (ld22 (Blk.range (cs := idL (G k)) HM1.out)) ?_); rfl; rfl; rfl; simp only [Act.put, List.setIfInBounds_toArray, List.set_cons_zero, List.set_cons_succ])
            | ((with_reducible refine wl_load ?_ 22 (.tmp 10) ?_ ?_ (ld22 (Blk.range (cs := idL (G i1)) HF1.out)) ?_); rfl; rfl; rfl; simp only [Act.put, List.setIfInBounds_toArray, List.set_cons_zero, List.set_cons_succ])
            | ((with_reducible refine wl_load ?_ 22 (.tmp 11) ?_ ?_ (ld22 (Blk.range (cs := idL (G i2)) HK1.out)) ?_); rfl; rfl; rfl; simp only [Act.put, List.setIfInBounds_toArray, List.set_cons_zero, List.set_cons_succ]))
          have n1 := HN1.out
          have hne := cw_some r1.heap.size r1
          have HLa : Hid (∀ w', (∃ x : CW r1.heap.size r1, w' = x.val) → (Instr.loadAt 22 (.pointer (some ⟨wr.heap.size, 0, none⟩))).run Try.prog w' = .ok (.agg (idOf (G k))) w') := by
            rintro w' ⟨x, rfl⟩
            exact ld22 (Blk.range (cs := idL (G k)) (HM1.out.below x.2 (by omega)))
          have HLb : Hid (∀ w', (∃ x : CW r1.heap.size r1, w' = x.val) → (Instr.loadAt 22 (.pointer (some ⟨p10, 0, none⟩))).run Try.prog w' = .ok (.agg (idOf (G i1))) w') := by
            rintro w' ⟨x, rfl⟩
            exact ld22 (Blk.range (cs := idL (G i1)) (HF1.out.below x.2 (by omega)))
          have HLc : Hid (∀ w', (∃ x : CW r1.heap.size r1, w' = x.val) → (Instr.loadAt 22 (.pointer (some ⟨w9.heap.size, 0, none⟩))).run Try.prog w' = .ok (.agg (idOf (subId (G i2) (G i1)))) w') := by
            rintro w' ⟨x, rfl⟩
            exact ld22 (Blk.range (cs := idL (subId (G i2) (G i1))) (HP1.out.below x.2 (by omega)))
          have HC15 : Hid (∀ x : CW r1.heap.size r1, Calls Try.prog 15 #[.agg (idOf (G k)), .agg (idOf (G i1))] x.val fun e w'' => e = .returned (.agg (idOf (subId (G k) (G i1)))) ∧ ∃ y : CW r1.heap.size r1, w'' = y.val) :=
            fun x => cw_call x (sub_any _ _ _ HGk.out HGF.out)
          have HC16 : Hid (∀ x : CW r1.heap.size r1, Calls Try.prog 16 #[.agg (idOf (subId (G k) (G i1))), .agg (idOf (subId (G i2) (G i1)))] x.val fun e w'' => e = .returned (.bool (decide (num (subId (G k) (G i1)) < num (subId (G i2) (G i1))))) ∧ ∃ y : CW r1.heap.size r1, w'' = y.val) :=
            fun x => cw_call x (less_any _ _ _ (sub_byt HGk.out HGF.out) (sub_byt HGK.out HGF.out))
          refine region_cw r1.heap.size (by kernel_rfl) (by kernel_rfl) ?_
          repeat (first | go_big_quiet_skip | (go_big_quiet_want; first | (refine quiet_ld 22 (.tmp 16) rfl rfl HLa.out ?_; simp only [Act.put, List.setIfInBounds_toArray, List.set_cons_zero, List.set_cons_succ]; go_big_quiet_on) | (refine quiet_ld 22 (.tmp 10) rfl rfl HLb.out ?_; simp only [Act.put, List.setIfInBounds_toArray, List.set_cons_zero, List.set_cons_succ]; go_big_quiet_on) | (refine quiet_ld 22 (.tmp 12) rfl rfl HLc.out ?_; simp only [Act.put, List.setIfInBounds_toArray, List.set_cons_zero, List.set_cons_succ]; go_big_quiet_on) | (refine quiet_neq22 (.tmp 76) (.tmp 77) rfl rfl rfl hE1 ?_; simp only [Bool.not_false, Act.put, List.setIfInBounds_toArray, List.set_cons_zero, List.set_cons_succ]; go_big_quiet_on) | (refine quiet_pickT (.tmp 79) (.tmp 84) (.const (.bool false)) rfl rfl (v := .bool false) (by show Value.bool (decide (num (subId (G k) (G i1)) < num (subId (G i2) (G i1)))) = Value.bool false; rw [hcd]) ?_; simp only [Act.put, List.setIfInBounds_toArray, List.set_cons_zero, List.set_cons_succ]; go_big_quiet_on) | (go_big_quiet_op; first | go_big_quiet_on | go_big_quiet_call (first | exact HC15.out _ | exact HC16.out _))))
          refine wpQuiet_nil ?_
          intro r2 hr2
          obtain ⟨⟨r2', hb2⟩, hr2e⟩ := hr2
          subst hr2e
          have HQ2 := hid (HQ1.out.trans (hb2.mono (by omega)))
          clear hb2 hne HLa HLb HLc HC15 HC16
          go_wp2
          go_roundw
          case rel => exact ⟨k + 1, _, _, by omega, by go_num, rfl, rfl, HX.out.trans (dec_ne (fun e => HC1.out e.symm)), dec_at HC2.out, HQ2.out⟩
          case measure => simp [intOf]; omega
        · have HC2 := hid c2
          have HN2' : Hid (num (G k) ≠ num (G i2)) := asc_ne HASC.out hlt i2lt c2
          clear c2
          have hE1 : ∀ w, (Op.equalIn 10000 22 (.agg (idOf (G k))) (.agg (idOf (G i1)))).run Try.prog w = .ok false w := fun w => by rw [eq22 _ _ gk HGF.out, decide_eq_false HN1'.out]
          have hE2 : ∀ w, (Op.equalIn 10000 22 (.agg (idOf (G k))) (.agg (idOf (G i2)))).run Try.prog w = .ok false w := fun w => by rw [eq22 _ _ gk HGK.out, decide_eq_false HN2'.out]
          have HGk := hid gk
          clear gk
          go_wp2_with (first
            | ((with_reducible refine wl_load ?_ 22 (.tmp 68) ?_ ?_ HLm.out ?_); rfl; rfl; rfl; simp only [Act.put, List.setIfInBounds_toArray, List.set_cons_zero, List.set_cons_succ]; clear HLm)
            | ((with_reducible refine wl_row22 (g := G k) ?_ (.tmp 16) (.tmp 69) ?_ ?_ ?_ (Blk.new wr 22 _) ?_ ?_); rfl; rfl; rfl; rfl; rfl; simp only [Act.put]; intro r1 l1; have HM1 := hid l1.same; have HF1 := hid (l1.other _ _ _ (by omega) (HFr.out.alloc _)); have HK1 := hid (l1.other _ _ _ (by omega) (HKr.out.alloc _)); have HP1 := hid (l1.other _ _ _ (by omega) (HPr.out.alloc _)); have HQ1 := hid (l1.below _ _ (by omega) (HQr.out.alloc (by omega) _)); have HN1 := hid (l1.size.trans (size1 wr _)); clear l1)
            | ((with_reducible refine wl_load ?_ 22 (.tmp 16) ?_ ?_ (ld22 (Blk.range (cs := idL (G k)) HM1.out)) ?_); rfl; rfl; rfl; simp only [Act.put, List.setIfInBounds_toArray, List.set_cons_zero, List.set_cons_succ])
            | ((with_reducible refine wl_load ?_ 22 (.tmp 10) ?_ ?_ (ld22 (Blk.range (cs := idL (G i1)) HF1.out)) ?_); rfl; rfl; rfl; simp only [Act.put, List.setIfInBounds_toArray, List.set_cons_zero, List.set_cons_succ])
            | ((with_reducible refine wl_load ?_ 22 (.tmp 11) ?_ ?_ (ld22 (Blk.range (cs := idL (G i2)) HK1.out)) ?_); rfl; rfl; rfl; simp only [Act.put, List.setIfInBounds_toArray, List.set_cons_zero, List.set_cons_succ]))
          have n1 := HN1.out
          have hne := cw_some r1.heap.size r1
          have HLa : Hid (∀ w', (∃ x : CW r1.heap.size r1, w' = x.val) → (Instr.loadAt 22 (.pointer (some ⟨wr.heap.size, 0, none⟩))).run Try.prog w' = .ok (.agg (idOf (G k))) w') := by
            rintro w' ⟨x, rfl⟩
            exact ld22 (Blk.range (cs := idL (G k)) (HM1.out.below x.2 (by omega)))
          have HLb : Hid (∀ w', (∃ x : CW r1.heap.size r1, w' = x.val) → (Instr.loadAt 22 (.pointer (some ⟨p10, 0, none⟩))).run Try.prog w' = .ok (.agg (idOf (G i1))) w') := by
            rintro w' ⟨x, rfl⟩
            exact ld22 (Blk.range (cs := idL (G i1)) (HF1.out.below x.2 (by omega)))
          have HLc : Hid (∀ w', (∃ x : CW r1.heap.size r1, w' = x.val) → (Instr.loadAt 22 (.pointer (some ⟨w9.heap.size, 0, none⟩))).run Try.prog w' = .ok (.agg (idOf (subId (G i2) (G i1)))) w') := by
            rintro w' ⟨x, rfl⟩
            exact ld22 (Blk.range (cs := idL (subId (G i2) (G i1))) (HP1.out.below x.2 (by omega)))
          have HC15 : Hid (∀ x : CW r1.heap.size r1, Calls Try.prog 15 #[.agg (idOf (G k)), .agg (idOf (G i1))] x.val fun e w'' => e = .returned (.agg (idOf (subId (G k) (G i1)))) ∧ ∃ y : CW r1.heap.size r1, w'' = y.val) :=
            fun x => cw_call x (sub_any _ _ _ HGk.out HGF.out)
          have HC16 : Hid (∀ x : CW r1.heap.size r1, Calls Try.prog 16 #[.agg (idOf (subId (G k) (G i1))), .agg (idOf (subId (G i2) (G i1)))] x.val fun e w'' => e = .returned (.bool (decide (num (subId (G k) (G i1)) < num (subId (G i2) (G i1))))) ∧ ∃ y : CW r1.heap.size r1, w'' = y.val) :=
            fun x => cw_call x (less_any _ _ _ (sub_byt HGk.out HGF.out) (sub_byt HGK.out HGF.out))
          refine region_cw r1.heap.size (by kernel_rfl) (by kernel_rfl) ?_
          repeat (first | go_big_quiet_skip | (go_big_quiet_want; first | (refine quiet_ld 22 (.tmp 16) rfl rfl HLa.out ?_; simp only [Act.put, List.setIfInBounds_toArray, List.set_cons_zero, List.set_cons_succ]; go_big_quiet_on) | (refine quiet_ld 22 (.tmp 10) rfl rfl HLb.out ?_; simp only [Act.put, List.setIfInBounds_toArray, List.set_cons_zero, List.set_cons_succ]; go_big_quiet_on) | (refine quiet_ld 22 (.tmp 12) rfl rfl HLc.out ?_; simp only [Act.put, List.setIfInBounds_toArray, List.set_cons_zero, List.set_cons_succ]; go_big_quiet_on) | (refine quiet_neq22 (.tmp 76) (.tmp 77) rfl rfl rfl hE1 ?_; simp only [Bool.not_false, Act.put, List.setIfInBounds_toArray, List.set_cons_zero, List.set_cons_succ]; go_big_quiet_on) | (refine quiet_pickT (.tmp 79) (.tmp 84) (.const (.bool false)) rfl rfl (v := .bool false) (by show Value.bool (decide (num (subId (G k) (G i1)) < num (subId (G i2) (G i1)))) = Value.bool false; rw [hcd]) ?_; simp only [Act.put, List.setIfInBounds_toArray, List.set_cons_zero, List.set_cons_succ]; go_big_quiet_on) | (go_big_quiet_op; first | go_big_quiet_on | go_big_quiet_call (first | exact HC15.out _ | exact HC16.out _))))
          refine wpQuiet_nil ?_
          intro r2 hr2
          obtain ⟨⟨r2', hb2⟩, hr2e⟩ := hr2
          subst hr2e
          have HQ2 := hid (HQ1.out.trans (hb2.mono (by omega)))
          clear hb2 hne HLa HLb HLc HC15 HC16
          go_wp2
          go_roundw
          case rel => exact ⟨k + 1, _, _, by omega, by go_num, rfl, rfl, HX.out.trans (dec_ne (fun e => HC1.out e.symm)), HY.out.trans (dec_ne (fun e => HC2.out e.symm)), HQ2.out⟩
          case measure => simp [intOf]; omega
    · obtain rfl : k = n := by omega
      have hx := HX.out
      have hy := HY.out
      rw [decide_eq_true i1lt] at hx
      rw [decide_eq_true i2lt] at hy
      subst hx
      subst hy
      have k8 := (HK8.out.below HQ5.out (by omega)).below HQr.out (by omega)
      have HLs := hid (ld22 (range_peer_id (Blk.range (cs := peerL t s) (k8.alloc (.cells Z16 22)))))
      have HLf := hid (ld22 (Blk.range (cs := idL (G i1)) (HFr.out.alloc (.cells Z16 22))))
      clear k8 HX HY
      go_wp2_with (first
        | ((with_reducible refine wl_load ?_ 22 (.tmp 92) ?_ ?_ HLs.out ?_); rfl; rfl; rfl; simp only [Act.put, List.setIfInBounds_toArray, List.set_cons_zero, List.set_cons_succ]; clear HLs)
        | ((with_reducible refine wl_load ?_ 22 (.tmp 10) ?_ ?_ HLf.out ?_); rfl; rfl; rfl; simp only [Act.put, List.setIfInBounds_toArray, List.set_cons_zero, List.set_cons_succ]; clear HLf))
      refine (sub_any t (G i1) (wr.alloc (.cells Z16 22)) HT.out HGF.out).mono ?_
      rintro e w10 ⟨rfl, b10⟩
      have zz := b10.size
      have z10 : wr.heap.size + 1 ≤ w10.heap.size := by rw [size1] at zz; exact zz
      have HZ10 : Hid (Blk w10 wr.heap.size 22 (idOf fun _ => 0)) := by
        rw [← zero16]
        exact (Blk.new wr 22 Z16).below b10 (by simp)
      have HP10 := hid ((HPr.out.alloc (.cells Z16 22)).below b10 (by rw [size1]; omega))
      have HB10 := hid ((HQr.out.alloc hzr (.cells Z16 22)).trans (b10.mono (by rw [size1]; omega)))
      have HTO := Ring.self_out (n := k) (x := fun j => num (G j)) HASC.out (fun j hj => num_bd (HG.out j hj)) (num_bd HT.out) hn2 HI1.out HI2.out
      have HTOH := hid HTO
      have HBW := hid (HB8.out.trans (HQ5.out.mono (by omega)))
      clear b10 zz HTO
      by_cases hz : num (subId t (G i1)) = 0
      · have hE3 : ∀ w, (Op.equalIn 10000 22 (.agg (idOf (subId t (G i1)))) (.agg (idOf fun _ => 0))).run Try.prog w = .ok true w := fun w => by
          rw [eq22 _ _ (sub_byt HT.out HGF.out) byt_zero, decide_eq_true (by rw [hz, num_zero])]
        clear hz
        go_wp2_with (first
        | ((with_reducible refine wl_row22 (g := subId t (G i1)) ?_ (.tmp 18) (.tmp 95) ?_ ?_ ?_ (Blk.new w10 22 _) ?_ ?_); rfl; rfl; rfl; rfl; rfl; simp only [Act.put]; intro u1 l1; have HSu := hid l1.same; have HZu := hid (l1.other _ _ _ (by omega) (HZ10.out.alloc _)); have HPu := hid (l1.other _ _ _ (by omega) (HP10.out.alloc _)); have HBu := hid (l1.below _ _ (by omega) (HB10.out.alloc (by omega) _)); clear l1 HZ10 HP10 HB10)
        | ((with_reducible refine wl_load ?_ 22 (.tmp 18) ?_ ?_ (ld22 (Blk.range (cs := idL (subId t (G i1))) HSu.out)) ?_); rfl; rfl; rfl; simp only [Act.put, List.setIfInBounds_toArray, List.set_cons_zero, List.set_cons_succ])
        | ((with_reducible refine wl_load ?_ 22 (.tmp 17) ?_ ?_ (ld22 (Blk.range (cs := idL fun _ => 0) HZu.out)) ?_); rfl; rfl; rfl; simp only [Act.put, List.setIfInBounds_toArray, List.set_cons_zero, List.set_cons_succ]))
        go_ret
        exact ⟨rfl, HBW.out.trans (HBu.out.mono (by omega))⟩
      · have hE3 : ∀ w, (Op.equalIn 10000 22 (.agg (idOf (subId t (G i1)))) (.agg (idOf fun _ => 0))).run Try.prog w = .ok false w := fun w => by
          rw [eq22 _ _ (sub_byt HT.out HGF.out) byt_zero, decide_eq_false (by rw [num_zero]; exact hz)]
        have hcd : decide (num (subId t (G i1)) < num (subId (G i2) (G i1))) = false := by
          rw [sub_num HT.out HGF.out] at hz
          rw [sub_num HT.out HGF.out, sub_num HGK.out HGF.out]
          rcases HTOH.out with h | h
          · exact absurd h hz
          · exact decide_eq_false h
        clear hz
        go_wp2_with (first
        | ((with_reducible refine wl_row22 (g := subId t (G i1)) ?_ (.tmp 18) (.tmp 95) ?_ ?_ ?_ (Blk.new w10 22 _) ?_ ?_); rfl; rfl; rfl; rfl; rfl; simp only [Act.put]; intro u1 l1; have HSu := hid l1.same; have HZu := hid (l1.other _ _ _ (by omega) (HZ10.out.alloc _)); have HPu := hid (l1.other _ _ _ (by omega) (HP10.out.alloc _)); have HBu := hid (l1.below _ _ (by omega) (HB10.out.alloc (by omega) _)); clear l1 HZ10 HP10 HB10)
        | ((with_reducible refine wl_load ?_ 22 (.tmp 18) ?_ ?_ (ld22 (Blk.range (cs := idL (subId t (G i1))) HSu.out)) ?_); rfl; rfl; rfl; simp only [Act.put, List.setIfInBounds_toArray, List.set_cons_zero, List.set_cons_succ])
        | ((with_reducible refine wl_load ?_ 22 (.tmp 17) ?_ ?_ (ld22 (Blk.range (cs := idL fun _ => 0) HZu.out)) ?_); rfl; rfl; rfl; simp only [Act.put, List.setIfInBounds_toArray, List.set_cons_zero, List.set_cons_succ])
        | ((with_reducible refine wl_load_w ?_ 22 (.tmp 18) ?_ ?_ (ld22 (Blk.range (cs := idL (subId t (G i1))) HSu.out)) ?_); rfl; rfl; rfl; simp only [Act.put, List.setIfInBounds_toArray, List.set_cons_zero, List.set_cons_succ])
        | ((with_reducible refine wl_load_w ?_ 22 (.tmp 12) ?_ ?_ (ld22 (Blk.range (cs := idL (subId (G i2) (G i1))) HPu.out)) ?_); rfl; rfl; rfl; simp only [Act.put, List.setIfInBounds_toArray, List.set_cons_zero, List.set_cons_succ]))
        refine (less_any (subId t (G i1)) (subId (G i2) (G i1)) u1 (sub_byt HT.out HGF.out) (sub_byt HGK.out HGF.out)).mono ?_
        rw [hcd]
        rintro e w11 ⟨rfl, b11⟩
        have HB11 := hid (HBW.out.trans ((HBu.out.trans (b11.mono (HBu.out.size))).mono (by omega)))
        clear b11
        go_wp2
        go_ret
        exact ⟨rfl, HB11.out⟩

end Go.Proofs.Qxb6604152a.Ids
