/-
  fullEnds, ZZFullEnds.
-/
import Derived.Test.Qxb6604152aSearch
namespace Go.Proofs.Qxb6604152a.Ids
open Go.ChangeShapes Go.WideShapes Go.ChangeAt Go.RowKit
open Go.Proofs.Qxb6604152a.Num
open Go.Proofs.Qxb6604152a.Rank

/-- A leaf set as it lies in memory. -/
structure Leaf (w : World) (L : Nat) (t : Nat → Int) (size : Int) (m : Value) : Prop where
  self : w.rangeAt L 0 (idL t)
  sz : w.cell? ⟨L, 17, none⟩ = some (.int .i64 size)
  mem : w.cell? ⟨L, 18, none⟩ = some m
theorem Leaf.lt {w : World} {L : Nat} {t : Nat → Int} {size : Int} {m : Value} (h : Leaf w L t size m) : L < w.heap.size := World.block_lt_of_cell? w _ h.sz
theorem Leaf.below {w w' : World} {B L : Nat} {t : Nat → Int} {size : Int} {m : Value} (h : Leaf w L t size m) (hb : Below B w w') (hlt : L < B) : Leaf w' L t size m :=
  ⟨range_below h.self hb hlt, (hb.cell (p := ⟨L, 17, none⟩) hlt).trans h.sz, (hb.cell (p := ⟨L, 18, none⟩) hlt).trans h.mem⟩

/-! ### regions that draw, with stores or calls that make memory among their operations: what only reads is taken first -/
section
variable {P : Program} {ops : Array Oper} {md : Region.Mode} {Q : Exit → Act → World → Prop} {S : World → Prop}
def valOp : Op → Bool
  | .move _ | .assign _ | .load _ _ | .fieldAddr _ _ _ | .indexAddr _ _ _ | .binOp _ _ _ _ _ | .build _ _ | .extract _ _ | .unOp _ _ _ => true
  | _ => false
theorem valOnly {a : Act} {o : Oper} (h : valOp o.op = true) (w : World) (n : Next) (w' : World) (hr : (execOp a.eval o).run P w = .ok n w') : ∃ u, n = .value u := by
  unfold execOp at hr
  have key : ∀ s : Sem Value, (do pure (Next.value (← s)) : Sem Next).run P w = .ok n w' → ∃ u, n = .value u := by
    intro s hs
    simp only [Sem.run_bind] at hs
    cases e : s.run P w with
    | ok v w1 => rw [e] at hs; simp only [Result.andThen_ok, Sem.run_pure] at hs; cases hs; exact ⟨_, rfl⟩
    | halt x w1 => rw [e] at hs; simp [Result.andThen] at hs
  split at hr <;> rename_i heq <;> first | (rw [heq] at h; cases h; done) | exact key _ hr | skip
  · simp only [Sem.run_pure] at hr; cases hr; exact ⟨_, rfl⟩
  · simp only [Sem.run_pure] at hr; cases hr; exact ⟨_, rfl⟩
theorem take_quiet {i : Nat} {oi : Oper} {fuel : Nat} {listed : Array Bool} {a : Act} {w : World} (hi : ops[i]? = some oi)
    (hs : Region.noSelect ops = true) (hf : Region.free md ops listed i = true) (hr : (Region.ready md ops listed).contains i = true)
    (hQ : ∀ v c a w, Q (.panic c) (a.put oi.dst v) w → Q (.panic c) a w) (hv : valOp oi.op = true) (hw : Region.wanted oi (yielded ops a.tmps) = true) (hS : S w)
    (h : ∀ K : Act → Prop, (∀ a', wpAnyH P md ops Q S fuel (listed.setIfInBounds i true) a' w → K a') → oi.quiet P a S K) : wpAnyH P md ops Q S (fuel + 1) listed a w := by
  obtain ⟨v, h1, h2⟩ := h _ (fun _ h => h)
  refine wpAnyH_take hi hs hf hr (hQ v) (.inl ⟨hw, fun w1 hw1 => ?_⟩) hS h2
  have h3 := h1 w1 hw1
  unfold Oper.quietAt at h3
  have h4 := valOnly (P := P) (a := a) hv w1
  generalize (execOp a.eval oi).run P w1 = r at *
  cases r with
  | ok n w' =>
    obtain ⟨u, rfl⟩ := h4 n w' rfl
    obtain ⟨e1, e2⟩ := h3
    rw [e1, e2]
  | halt x w' => simp only [Oper.quietUpon] at h3
theorem take_run {i : Nat} {oi : Oper} {fuel : Nat} {listed : Array Bool} {a : Act} {w : World} (v : Value) (hi : ops[i]? = some oi)
    (hs : Region.noSelect ops = true) (hf : Region.free md ops listed i = true) (hr : (Region.ready md ops listed).contains i = true)
    (hQ : ∀ v c a w, Q (.panic c) (a.put oi.dst v) w → Q (.panic c) a w) (hw : Region.wanted oi (yielded ops a.tmps) = true) (hS : S w)
    (hrun : ∀ w, S w → (execOp a.eval oi).run P w = .ok (.value v) w)
    (h : wpAnyH P md ops Q S fuel (listed.setIfInBounds i true) (a.put oi.dst v) w) : wpAnyH P md ops Q S (fuel + 1) listed a w :=
  wpAnyH_take hi hs hf hr (hQ v) (.inl ⟨hw, hrun⟩) hS h
/-- One operation alone may come up: a store. -/
theorem one_store {i : Nat} {oi : Oper} {fuel : Nat} {listed : Array Bool} {a : Act} {w w2 : World} (hi : ops[i]? = some oi) (hr : Region.ready md ops listed = [i])
    (hw : Region.wanted oi (yielded ops a.tmps) = true) (ty : TypeId) (x y : Operand) (ho : oi.op = .store ty x y) {p v : Value} (hx : a.eval x = p) (hy : a.eval y = v)
    (hl : (Instr.storeAt ty p v).run P w = .ok () w2) (hS : S w2)
    (h : wpAnyH P md ops Q S fuel (listed.setIfInBounds i true) (a.put oi.dst undef) w2) : wpAnyH P md ops Q S (fuel + 1) listed a w := by
  refine wpAnyH_all hr (by simp) (fun j hj => ?_)
  obtain rfl : j = i := by simpa using hj
  unfold wpOp
  simp only [hi, hw, if_true]
  refine .inl ?_
  unfold Oper.wp execOp
  simp only [ho, hx, hy, Sem.run_bind, hl, Sem.run_pure, Result.andThen_ok]
  exact ⟨hS, h⟩
/-- One operation alone may come up: a call of a function by its name. -/
theorem one_call {i : Nat} {oi : Oper} {fuel : Nat} {listed : Array Bool} {a : Act} {w : World} {f : FuncId} {args : Array Value} {R : Ending → World → Prop} (hi : ops[i]? = some oi) (hr : Region.ready md ops listed = [i])
    (hw : Region.wanted oi (yielded ops a.tmps) = true) (hrun : (execOp a.eval oi).run P w = .ok (.enter f args) w) (hc : Calls P f args w R)
    (h : ∀ e w', R e w' → ∃ v, e = .returned v ∧ S w' ∧ wpAnyH P md ops Q S fuel (listed.setIfInBounds i true) (a.put oi.dst v) w') : wpAnyH P md ops Q S (fuel + 1) listed a w := by
  refine wpAnyH_all hr (by simp) (fun j hj => ?_)
  obtain rfl : j = i := by simpa using hj
  unfold wpOp
  simp only [hi, hw, if_true]
  refine .inl ?_
  unfold Oper.wp
  rw [hrun]
  simp only [Oper.upon]
  refine hc.mono fun e w' hR => ?_
  obtain ⟨v, rfl, h1, h2⟩ := h e w' hR
  exact ⟨h1, h2⟩
end

theorem results_cell2 {P : Program} {fn : Func} {p q : Tmp} {ty : TypeId} (h : fn.results = #[.cell p ty, .cell q ty]) (tmps : Array Value) (w : World) (b1 b2 : Nat) (T : TypeId) (c1 c2 : Array Value) (d : TypeDesc)
    (hp : tmps.getD p undef = .pointer (some ⟨b1, 0, none⟩)) (hq : tmps.getD q undef = .pointer (some ⟨b2, 0, none⟩)) (h1 : w.heap[b1]? = some (.cells c1 T (0, 0))) (h2 : w.heap[b2]? = some (.cells c2 T (0, 0)))
    (hu : P.underlying ty = some d) (hd : (match d with | .struct _ | .array _ _ => true | _ => false) = true) (hi1 : (P.info? ty).map (·.size) = some c1.size) (hi2 : (P.info? ty).map (·.size) = some c2.size) :
    (results fn tmps).run P w = .ok (.tuple #[.agg c1, .agg c2]) w := by
  have hp' : tmps[p]?.getD undef = .pointer (some ⟨b1, 0, none⟩) := by simpa using hp
  have hq' : tmps[q]?.getD undef = .pointer (some ⟨b2, 0, none⟩) := by simpa using hq
  simp [results, h, hp', hq', asAddr, run_loadVar_row w b1 T ty c1 (0, 0) d h1 hu hd hi1, run_loadVar_row w b2 T ty c2 (0, 0) d h2 hu hd hi2]

theorem Blk.setRow_same {w : World} {b T : Nat} {c : Array Value} (h : Blk w b T c) (cs : Array Value) : Blk (w.setRow b cs) b T cs := setRow_heap w b c cs T (0, 0) h
theorem Blk.setRow_other {w : World} {b T g : Nat} {c : Array Value} (h : Blk w b T c) (cs : Array Value) (hne : b ≠ g) : Blk (w.setRow g cs) b T c := by
  unfold Blk at *
  simp only [World.setRow, Array.getElem?_modify]
  rw [if_neg (fun e => hne e.symm)]; exact h
set_option maxHeartbeats 1600000 in
theorem ends_any (L M n : Nat) (G : Nat → Nat → Int) (S : Nat → ByteArray) (t : Nat → Int) (w : World) (hn0 : 2 ≤ n) (hn : n ≤ 4096) (hM : M < w.heap.size) (hL : Leaf w L t (n : Int) (.slice (some ⟨M, 0, none⟩) n n))
    (hP : Peers w M 0 n G S) (hG : ∀ k, k < n → Byt (G k)) (ht : Byt t) (hs : ∀ i j, i < j → j < n → num (G i) < num (G j)) :
    Calls Try.prog 22 #[.pointer (some ⟨L, 0, none⟩)] w fun e w' => e = .returned (.tuple #[.agg (idOf (G ((lower n G t + n / 2 - 1) % n))), .agg (idOf (G ((lower n G t + n / 2) % n)))]) ∧ Below w.heap.size w w' := by
  have hLt := hL.lt
  have HL := hid hL
  have HP := hid hP
  have HG := hid hG
  have HT := hid ht
  have HS := hid hs
  have hlow : lower n G t ≤ n := cnt_le _ _
  clear hP hG ht hs hL
  go_enter Try.func22, Try.ntmps22
  go_wp2
  rw [zero16]
  obtain ⟨w1, hw1⟩ : ∃ w1, w1 = (w.alloc (.cells (idOf fun _ => 0) 32)).alloc (.cells (idOf fun _ => 0) 32) := ⟨_, rfl⟩
  rw [← hw1]
  have B1 : Below w.heap.size w w1 := by rw [hw1]; exact ((Below.refl _ _).alloc (Nat.le_refl _) _).alloc (by simp) _
  have k0 : Blk w1 w.heap.size 32 (idOf fun _ => 0) := by rw [hw1]; exact (Blk.new _ _ _).alloc _
  have k1 : Blk w1 (w.heap.size + 1) 32 (idOf fun _ => 0) := by
    rw [hw1]
    have := Blk.new (w.alloc (.cells (idOf fun _ => 0) 32)) 32 (idOf fun _ => 0)
    simpa using this
  have hz1 : w1.heap.size = w.heap.size + 2 := by rw [hw1]; simp
  have HB1 := hid B1
  have HK0 := hid k0
  have HK1 := hid k1
  have HZ1 := hid hz1
  clear hw1 B1 k0 k1 hz1
  have hLt1 : L < w1.heap.size := by rw [HZ1.out]; omega
  have hMt1 : M < w1.heap.size := by rw [HZ1.out]; omega
  have hne := cw_some w1.heap.size w1
  have LL : ∀ x : CW w1.heap.size w1, Leaf x.val L t (n : Int) (.slice (some ⟨M, 0, none⟩) n n) := fun x => (HL.out.below HB1.out hLt).below x.2 hLt1
  have q18 : ∀ x : CW w1.heap.size w1, x.val.cell? ⟨L, 18, none⟩ = some (.slice (some ⟨M, 0, none⟩) n n) := fun x => (LL x).mem
  have HL2 : Hid (∀ w', (∃ x : CW w1.heap.size w1, w' = x.val) → (Instr.loadAt 32 (.pointer (some ⟨L, 0, none⟩))).run Try.prog w' = .ok (.agg (idOf t)) w') := by
    rintro w' ⟨x, rfl⟩
    exact ld32 (LL x).self
  have HC : Hid (∀ x : CW w1.heap.size w1, Calls Try.prog 23 #[.slice (some ⟨M, 0, none⟩) n n, .agg (idOf t), .func (.func 24) #[] #[]] x.val fun e w'' => e = .returned (.tuple #[.int .i64 (lower n G t), .bool (fnd n G t (lower n G t))]) ∧ ∃ y : CW w1.heap.size w1, w'' = y.val) :=
    fun x => cw_call x (bs_any M n n G S t _ hn (Nat.lt_of_lt_of_le hMt1 x.2.size) ((HP.out.below HB1.out hM).below x.2 hMt1) HG.out HT.out HS.out)
  clear LL
  refine region_cw w1.heap.size (by kernel_rfl) (by kernel_rfl) ?_
  repeat (first | go_big_quiet_skip | (go_big_quiet_want; first | (refine quiet_ld 32 (.tmp 15) rfl rfl HL2.out ?_; simp only [Act.put, List.setIfInBounds_toArray, List.set_cons_zero, List.set_cons_succ]; go_big_quiet_on) | (go_big_quiet_op; first | go_big_quiet_on | go_big_quiet_call (exact HC.out _))))
  refine wpQuiet_nil ?_
  intro w2 hw2
  obtain ⟨⟨w2', hb2⟩, hw2e⟩ := hw2
  subst hw2e
  clear q18 hne
  have hz2 := hb2.size
  have LL := (HL.out.below HB1.out hLt).below hb2 hLt1
  have PP := (HP.out.below HB1.out hM).below hb2 hMt1
  have c17 := LL.sz
  have c18 := LL.mem
  have HB2 := hid (HB1.out.trans (hb2.mono (by rw [HZ1.out]; omega)))
  have HK02 := hid (HK0.out.below hb2 (by rw [HZ1.out]; omega))
  have HK12 := hid (HK1.out.below hb2 (by rw [HZ1.out]; omega))
  have li1 : (lower n G t + n / 2 - 1) % n < n := Nat.mod_lt _ (by omega)
  have li2 : (lower n G t + n / 2) % n < n := Nat.mod_lt _ (by omega)
  have LX : ∀ x : CW w.heap.size w2, Leaf x.val L t (n : Int) (.slice (some ⟨M, 0, none⟩) n n) := fun x => LL.below x.2 hLt
  have PX : ∀ x : CW w.heap.size w2, Peers x.val M 0 n G S := fun x => PP.below x.2 hM
  have q17 : ∀ x : CW w.heap.size w2, x.val.cell? ⟨L, 17, none⟩ = some (.int .i64 (n : Int)) := fun x => (LX x).sz
  have q18 : ∀ x : CW w.heap.size w2, x.val.cell? ⟨L, 18, none⟩ = some (.slice (some ⟨M, 0, none⟩) n n) := fun x => (LX x).mem
  have HLa : Hid (∀ w', (∃ x : CW w.heap.size w2, w' = x.val) → (Instr.loadAt 32 (.pointer (some ⟨M, (lower n G t + n / 2 - 1) % n * 17, none⟩))).run Try.prog w' = .ok (.agg (idOf (G ((lower n G t + n / 2 - 1) % n)))) w') := by
    rintro w' ⟨x, rfl⟩
    have := PX x _ li1
    rw [Nat.zero_add] at this
    exact ld32 (range_peer_id this)
  have HLb : Hid (∀ w', (∃ x : CW w.heap.size w2, w' = x.val) → (Instr.loadAt 32 (.pointer (some ⟨M, (lower n G t + n / 2) % n * 17, none⟩))).run Try.prog w' = .ok (.agg (idOf (G ((lower n G t + n / 2) % n)))) w') := by
    rintro w' ⟨x, rfl⟩
    have := PX x _ li2
    rw [Nat.zero_add] at this
    exact ld32 (range_peer_id this)
  have m1 : 0 ≤ ((lower n G t : Int) + (n : Int) / 2 - 1) % (n : Int) := Int.emod_nonneg _ (by omega)
  have m2 : ((lower n G t : Int) + (n : Int) / 2 - 1) % (n : Int) < (n : Int) := Int.emod_lt_of_pos _ (by omega)
  have m3 : 0 ≤ ((lower n G t : Int) + (n : Int) / 2) % (n : Int) := Int.emod_nonneg _ (by omega)
  have m4 : ((lower n G t : Int) + (n : Int) / 2) % (n : Int) < (n : Int) := Int.emod_lt_of_pos _ (by omega)
  have hS0 : ∃ x : CW w.heap.size w2, w2.drew = x.val := ⟨⟨w2.drew, (Below.refl _ _).drew⟩, rfl⟩
  have hne2 := cw_some w.heap.size w2
  clear LL PP LX PX hb2
  go_wp2
  refine wp_region_held (S := fun w' => ∃ x : CW w.heap.size w2, w' = x.val) (by kernel_rfl) ?_
  change wpAnyH Try.prog .any _ _ _ 33 (Array.replicate 33 false) _ w2.drew
  refine take_quiet (i := 0) rfl (by kernel_rfl) (by kernel_rfl) (by kernel_rfl) (fun _ _ _ _ h => h) (by rfl) (by rfl) hS0 ?_
  intro K hK
  simp only [List.getElem_toArray, List.getElem_cons_zero]
  go_big_quiet_op
  go_big_quiet_on
  refine take_run (i := 1) (.pointer (some ⟨L, 0, none⟩)) rfl (by kernel_rfl) (by kernel_rfl) (by kernel_rfl) (fun _ _ _ _ h => h) (by rfl) hS0 (fun _ _ => rfl) ?_
  simp only [List.getElem_toArray, List.getElem_cons_zero, List.getElem_cons_succ, Act.put, List.setIfInBounds_toArray, List.set_cons_zero, List.set_cons_succ]
  refine take_quiet (i := 2) rfl (by kernel_rfl) (by kernel_rfl) (by kernel_rfl) (fun _ _ _ _ h => h) (by rfl) (by rfl) hS0 ?_
  intro K hK
  simp only [List.getElem_toArray, List.getElem_cons_zero, List.getElem_cons_succ]
  go_big_quiet_op
  go_big_quiet_on
  refine take_quiet (i := 3) rfl (by kernel_rfl) (by kernel_rfl) (by kernel_rfl) (fun _ _ _ _ h => h) (by rfl) (by rfl) hS0 ?_
  intro K hK
  simp only [List.getElem_toArray, List.getElem_cons_zero, List.getElem_cons_succ]
  go_big_quiet_op
  go_big_quiet_on
  refine take_quiet (i := 4) rfl (by kernel_rfl) (by kernel_rfl) (by kernel_rfl) (fun _ _ _ _ h => h) (by rfl) (by rfl) hS0 ?_
  intro K hK
  simp only [List.getElem_toArray, List.getElem_cons_zero, List.getElem_cons_succ]
  go_big_quiet_op
  go_big_quiet_on
  refine take_quiet (i := 5) rfl (by kernel_rfl) (by kernel_rfl) (by kernel_rfl) (fun _ _ _ _ h => h) (by rfl) (by rfl) hS0 ?_
  intro K hK
  simp only [List.getElem_toArray, List.getElem_cons_zero, List.getElem_cons_succ]
  go_big_quiet_op
  go_big_quiet_on
  refine take_quiet (i := 6) rfl (by kernel_rfl) (by kernel_rfl) (by kernel_rfl) (fun _ _ _ _ h => h) (by rfl) (by rfl) hS0 ?_
  intro K hK
  simp only [List.getElem_toArray, List.getElem_cons_zero, List.getElem_cons_succ]
  go_big_quiet_op
  go_big_quiet_on
  refine take_quiet (i := 7) rfl (by kernel_rfl) (by kernel_rfl) (by kernel_rfl) (fun _ _ _ _ h => h) (by rfl) (by rfl) hS0 ?_
  intro K hK
  simp only [List.getElem_toArray, List.getElem_cons_zero, List.getElem_cons_succ]
  go_big_quiet_op
  go_big_quiet_on
  refine take_quiet (i := 8) rfl (by kernel_rfl) (by kernel_rfl) (by kernel_rfl) (fun _ _ _ _ h => h) (by rfl) (by rfl) hS0 ?_
  intro K hK
  simp only [List.getElem_toArray, List.getElem_cons_zero, List.getElem_cons_succ]
  go_big_quiet_op
  go_big_quiet_on
  refine take_run (i := 9) (.pointer (some ⟨L, 0, none⟩)) rfl (by kernel_rfl) (by kernel_rfl) (by kernel_rfl) (fun _ _ _ _ h => h) (by rfl) hS0 (fun _ _ => rfl) ?_
  simp only [List.getElem_toArray, List.getElem_cons_zero, List.getElem_cons_succ, Act.put, List.setIfInBounds_toArray, List.set_cons_zero, List.set_cons_succ]
  refine take_quiet (i := 10) rfl (by kernel_rfl) (by kernel_rfl) (by kernel_rfl) (fun _ _ _ _ h => h) (by rfl) (by rfl) hS0 ?_
  intro K hK
  simp only [List.getElem_toArray, List.getElem_cons_zero, List.getElem_cons_succ]
  go_big_quiet_op
  go_big_quiet_on
  refine take_quiet (i := 11) rfl (by kernel_rfl) (by kernel_rfl) (by kernel_rfl) (fun _ _ _ _ h => h) (by rfl) (by rfl) hS0 ?_
  intro K hK
  simp only [List.getElem_toArray, List.getElem_cons_zero, List.getElem_cons_succ]
  go_big_quiet_op
  go_big_quiet_on
  refine take_quiet (i := 12) rfl (by kernel_rfl) (by kernel_rfl) (by kernel_rfl) (fun _ _ _ _ h => h) (by rfl) (by rfl) hS0 ?_
  intro K hK
  simp only [List.getElem_toArray, List.getElem_cons_zero, List.getElem_cons_succ]
  go_big_quiet_op
  go_big_quiet_on
  refine take_quiet (i := 13) rfl (by kernel_rfl) (by kernel_rfl) (by kernel_rfl) (fun _ _ _ _ h => h) (by rfl) (by rfl) hS0 ?_
  intro K hK
  simp only [List.getElem_toArray, List.getElem_cons_zero, List.getElem_cons_succ]
  go_big_quiet_op
  go_big_quiet_on
  refine take_quiet (i := 14) rfl (by kernel_rfl) (by kernel_rfl) (by kernel_rfl) (fun _ _ _ _ h => h) (by rfl) (by rfl) hS0 ?_
  intro K hK
  simp only [List.getElem_toArray, List.getElem_cons_zero, List.getElem_cons_succ]
  go_big_quiet_op
  go_big_quiet_on
  refine take_quiet (i := 15) rfl (by kernel_rfl) (by kernel_rfl) (by kernel_rfl) (fun _ _ _ _ h => h) (by rfl) (by rfl) hS0 ?_
  intro K hK
  simp only [List.getElem_toArray, List.getElem_cons_zero, List.getElem_cons_succ]
  refine quiet_ld 32 (.tmp 39) rfl rfl HLa.out ?_
  simp only [Act.put, List.setIfInBounds_toArray, List.set_cons_zero, List.set_cons_succ]
  go_big_quiet_on
  refine take_quiet (i := 16) rfl (by kernel_rfl) (by kernel_rfl) (by kernel_rfl) (fun _ _ _ _ h => h) (by rfl) (by rfl) hS0 ?_
  intro K hK
  simp only [List.getElem_toArray, List.getElem_cons_zero, List.getElem_cons_succ]
  go_big_quiet_op
  go_big_quiet_on
  refine take_run (i := 17) (.pointer (some ⟨L, 0, none⟩)) rfl (by kernel_rfl) (by kernel_rfl) (by kernel_rfl) (fun _ _ _ _ h => h) (by rfl) hS0 (fun _ _ => rfl) ?_
  simp only [List.getElem_toArray, List.getElem_cons_zero, List.getElem_cons_succ, Act.put, List.setIfInBounds_toArray, List.set_cons_zero, List.set_cons_succ]
  refine take_quiet (i := 18) rfl (by kernel_rfl) (by kernel_rfl) (by kernel_rfl) (fun _ _ _ _ h => h) (by rfl) (by rfl) hS0 ?_
  intro K hK
  simp only [List.getElem_toArray, List.getElem_cons_zero, List.getElem_cons_succ]
  go_big_quiet_op
  go_big_quiet_on
  refine take_quiet (i := 19) rfl (by kernel_rfl) (by kernel_rfl) (by kernel_rfl) (fun _ _ _ _ h => h) (by rfl) (by rfl) hS0 ?_
  intro K hK
  simp only [List.getElem_toArray, List.getElem_cons_zero, List.getElem_cons_succ]
  go_big_quiet_op
  go_big_quiet_on
  refine take_quiet (i := 20) rfl (by kernel_rfl) (by kernel_rfl) (by kernel_rfl) (fun _ _ _ _ h => h) (by rfl) (by rfl) hS0 ?_
  intro K hK
  simp only [List.getElem_toArray, List.getElem_cons_zero, List.getElem_cons_succ]
  go_big_quiet_op
  go_big_quiet_on
  refine take_quiet (i := 21) rfl (by kernel_rfl) (by kernel_rfl) (by kernel_rfl) (fun _ _ _ _ h => h) (by rfl) (by rfl) hS0 ?_
  intro K hK
  simp only [List.getElem_toArray, List.getElem_cons_zero, List.getElem_cons_succ]
  go_big_quiet_op
  go_big_quiet_on
  refine take_quiet (i := 22) rfl (by kernel_rfl) (by kernel_rfl) (by kernel_rfl) (fun _ _ _ _ h => h) (by rfl) (by rfl) hS0 ?_
  intro K hK
  simp only [List.getElem_toArray, List.getElem_cons_zero, List.getElem_cons_succ]
  go_big_quiet_op
  go_big_quiet_on
  refine take_quiet (i := 23) rfl (by kernel_rfl) (by kernel_rfl) (by kernel_rfl) (fun _ _ _ _ h => h) (by rfl) (by rfl) hS0 ?_
  intro K hK
  simp only [List.getElem_toArray, List.getElem_cons_zero, List.getElem_cons_succ]
  go_big_quiet_op
  go_big_quiet_on
  refine take_run (i := 24) (.pointer (some ⟨L, 0, none⟩)) rfl (by kernel_rfl) (by kernel_rfl) (by kernel_rfl) (fun _ _ _ _ h => h) (by rfl) hS0 (fun _ _ => rfl) ?_
  simp only [List.getElem_toArray, List.getElem_cons_zero, List.getElem_cons_succ, Act.put, List.setIfInBounds_toArray, List.set_cons_zero, List.set_cons_succ]
  refine take_quiet (i := 25) rfl (by kernel_rfl) (by kernel_rfl) (by kernel_rfl) (fun _ _ _ _ h => h) (by rfl) (by rfl) hS0 ?_
  intro K hK
  simp only [List.getElem_toArray, List.getElem_cons_zero, List.getElem_cons_succ]
  go_big_quiet_op
  go_big_quiet_on
  refine take_quiet (i := 26) rfl (by kernel_rfl) (by kernel_rfl) (by kernel_rfl) (fun _ _ _ _ h => h) (by rfl) (by rfl) hS0 ?_
  intro K hK
  simp only [List.getElem_toArray, List.getElem_cons_zero, List.getElem_cons_succ]
  go_big_quiet_op
  go_big_quiet_on
  refine take_quiet (i := 27) rfl (by kernel_rfl) (by kernel_rfl) (by kernel_rfl) (fun _ _ _ _ h => h) (by rfl) (by rfl) hS0 ?_
  intro K hK
  simp only [List.getElem_toArray, List.getElem_cons_zero, List.getElem_cons_succ]
  go_big_quiet_op
  go_big_quiet_on
  refine take_quiet (i := 28) rfl (by kernel_rfl) (by kernel_rfl) (by kernel_rfl) (fun _ _ _ _ h => h) (by rfl) (by rfl) hS0 ?_
  intro K hK
  simp only [List.getElem_toArray, List.getElem_cons_zero, List.getElem_cons_succ]
  go_big_quiet_op
  go_big_quiet_on
  refine take_quiet (i := 29) rfl (by kernel_rfl) (by kernel_rfl) (by kernel_rfl) (fun _ _ _ _ h => h) (by rfl) (by rfl) hS0 ?_
  intro K hK
  simp only [List.getElem_toArray, List.getElem_cons_zero, List.getElem_cons_succ]
  go_big_quiet_op
  go_big_quiet_on
  refine take_quiet (i := 30) rfl (by kernel_rfl) (by kernel_rfl) (by kernel_rfl) (fun _ _ _ _ h => h) (by rfl) (by rfl) hS0 ?_
  intro K hK
  simp only [List.getElem_toArray, List.getElem_cons_zero, List.getElem_cons_succ]
  refine quiet_ld 32 (.tmp 54) rfl rfl HLb.out ?_
  simp only [Act.put, List.setIfInBounds_toArray, List.set_cons_zero, List.set_cons_succ]
  go_big_quiet_on
  have st1 := st32 (w := w2.drew) HK02.out (G ((lower n G t + n / 2 - 1) % n))
  have k1 : Blk ((w2.drew).setRow w.heap.size (idOf (G ((lower n G t + n / 2 - 1) % n)))) (w.heap.size + 1) 32 (idOf fun _ => 0) := Blk.setRow_other HK12.out _ (by omega)
  have st2 := st32 k1 (G ((lower n G t + n / 2) % n))
  have hBa : Below w.heap.size w2 ((w2.drew).setRow w.heap.size (idOf (G ((lower n G t + n / 2 - 1) % n)))) := below_setRow (Below.refl _ _).drew (Nat.le_refl _) _
  have hBb := below_setRow hBa (show w.heap.size ≤ w.heap.size + 1 by omega) (idOf (G ((lower n G t + n / 2) % n)))
  have r1 : Blk (((w2.drew).setRow w.heap.size (idOf (G ((lower n G t + n / 2 - 1) % n)))).setRow (w.heap.size + 1) (idOf (G ((lower n G t + n / 2) % n)))) w.heap.size 32 (idOf (G ((lower n G t + n / 2 - 1) % n))) :=
    Blk.setRow_other (Blk.setRow_same HK02.out _) _ (by omega)
  have r2 : Blk (((w2.drew).setRow w.heap.size (idOf (G ((lower n G t + n / 2 - 1) % n)))).setRow (w.heap.size + 1) (idOf (G ((lower n G t + n / 2) % n)))) (w.heap.size + 1) 32 (idOf (G ((lower n G t + n / 2) % n))) :=
    Blk.setRow_same k1 _
  refine one_store (i := 31) rfl (by kernel_rfl) (by rfl) 32 (.tmp 2) (.tmp 40) rfl rfl rfl st1 ⟨⟨_, hBa⟩, rfl⟩ ?_
  simp only [List.getElem_toArray, List.getElem_cons_zero, List.getElem_cons_succ, Act.put]
  refine one_store (i := 32) rfl (by kernel_rfl) (by rfl) 32 (.tmp 3) (.tmp 55) rfl rfl rfl st2 ⟨⟨_, hBb⟩, rfl⟩ ?_
  simp only [List.getElem_toArray, List.getElem_cons_zero, List.getElem_cons_succ, Act.put]
  refine wpAnyH_done (by kernel_rfl) ?_ _
  have HR1 := hid r1
  have HR2 := hid r2
  have HBb := hid hBb
  clear r1 r2 hBa hBb st1 st2 k1 hne2 q17 q18
  go_wp2
  refine bodyPost_ret (v := .tuple #[.agg (idOf (G ((lower n G t + n / 2 - 1) % n))), .agg (idOf (G ((lower n G t + n / 2) % n)))]) (results_cell2 (P := Try.prog) (fn := Try.f22) Try.results22 _ _ w.heap.size (w.heap.size + 1) 32 _ _ _ rfl rfl HR1.out HR2.out Try.underlying32 rfl (by rw [idOf_size]; exact info32) (by rw [idOf_size]; exact info32)) rfl ⟨rfl, ?_⟩
  exact HB2.out.trans HBb.out

end Go.Proofs.Qxb6604152a.Ids
