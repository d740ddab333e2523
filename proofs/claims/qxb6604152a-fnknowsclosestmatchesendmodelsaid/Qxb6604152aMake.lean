/-
  ZZFullEnds, ZZNewLeafSetWith, zzCloneZ, zzPeers.
-/
import Derived.Test.Qxb6604152aEnds
namespace Go.Proofs.Qxb6604152a.Ids
open Go.ChangeShapes Go.WideShapes Go.ChangeAt Go.RowKit
open Go.Proofs.Qxb6604152a.Num
open Go.Proofs.Qxb6604152a.Rank

theorem build34 (g : Nat → Int) (s : ByteArray) (w : World) : (Instr.build 34 #[(0, .agg (idOf g)), (1, .string s)]).run Try.prog w = .ok (.agg (peerOf g s)) w := by kernel_rfl
def leafOf (t : Nat → Int) (s : ByteArray) (size : Int) (m : Value) : Array Value := (peerL t s ++ [.int .i64 size, m]).toArray
theorem build48 (t : Nat → Int) (s : ByteArray) (size : Int) (b n c : Nat) (w : World) : (Instr.build 48 #[(0, .agg (peerOf t s)), (1, .int .i64 size), (2, .slice (some ⟨b, 0, none⟩) n c)]).run Try.prog w = .ok (.agg (leafOf t s size (.slice (some ⟨b, 0, none⟩) n c))) w := by kernel_rfl

section
variable {P : Program} {ops : Array Oper} {rest : List Oper} {o : Oper} {a : Act} {w : World} {Q : Exit → Act → World → Prop}
theorem wl_move (hgd : o.guard = none) (x : Operand) (ho : o.op = .move x) {v : Value} (hx : a.eval x = v) (h : wpList P ops Q rest (a.put o.dst v) w) : wpList P ops Q (o :: rest) a w :=
  wpList_plain hgd fun _ hK => by
    unfold Oper.wp execOp
    simp only [ho, hx, Sem.run_pure]
    exact hK _ _ h
theorem wl_build3 (hgd : o.guard = none) (ty : TypeId) (i0 i1 i2 : Nat) (x0 x1 x2 : Operand) (ho : o.op = .build ty #[(i0, x0), (i1, x1), (i2, x2)]) {v0 v1 v2 : Value} (h0 : a.eval x0 = v0) (h1 : a.eval x1 = v1) (h2 : a.eval x2 = v2) {v : Value}
    (hl : (Instr.build ty #[(i0, v0), (i1, v1), (i2, v2)]).run P w = .ok v w) (h : wpList P ops Q rest (a.put o.dst v) w) : wpList P ops Q (o :: rest) a w :=
  wpList_plain hgd fun _ hK => by
    have e : (#[(i0, x0), (i1, x1), (i2, x2)] : Array (Nat × Operand)).map (fun (i, x) => (i, a.eval x)) = #[(i0, v0), (i1, v1), (i2, v2)] := by simp [h0, h1, h2]
    unfold Oper.wp execOp
    simp only [ho, e, Sem.run_bind, hl, Sem.run_pure, Result.andThen_ok]
    exact hK _ _ h
theorem quiet_build2 {C : World → Prop} {K : Act → Prop} (ty : TypeId) (i0 i1 : Nat) (x0 x1 : Operand) (ho : o.op = .build ty #[(i0, x0), (i1, x1)]) {v0 v1 : Value} (h0 : a.eval x0 = v0) (h1 : a.eval x1 = v1) {v : Value}
    (hl : ∀ w, (Instr.build ty #[(i0, v0), (i1, v1)]).run P w = .ok v w) (hk : K (a.put o.dst v)) : o.quiet P a C K :=
  ⟨v, fun w _ => by
    have e : (#[(i0, x0), (i1, x1)] : Array (Nat × Operand)).map (fun (i, x) => (i, a.eval x)) = #[(i0, v0), (i1, v1)] := by simp [h0, h1]
    unfold Oper.quietAt execOp
    simp only [ho, e, Sem.run_bind, hl w, Sem.run_pure, Result.andThen_ok]
    exact ⟨rfl, rfl⟩, hk⟩
end

set_option maxHeartbeats 400000 in
theorem zzEnds_any (L M n : Nat) (G : Nat → Nat → Int) (S : Nat → ByteArray) (t : Nat → Int) (w : World) (hn0 : 2 ≤ n) (hn : n ≤ 4096) (hM : M < w.heap.size) (hL : Leaf w L t (n : Int) (.slice (some ⟨M, 0, none⟩) n n))
    (hP : Peers w M 0 n G S) (hG : ∀ k, k < n → Byt (G k)) (ht : Byt t) (hs : ∀ i j, i < j → j < n → num (G i) < num (G j)) :
    Calls Try.prog 12 #[.pointer (some ⟨L, 0, none⟩)] w fun e w' => e = .returned (.tuple #[.agg (idOf (G ((lower n G t + n / 2 - 1) % n))), .agg (idOf (G ((lower n G t + n / 2) % n)))]) ∧ Below w.heap.size w w' := by
  have hLt := hL.lt
  have HL := hid hL
  have HP := hid hP
  have HG := hid hG
  have HT := hid ht
  have HS := hid hs
  clear hP hG ht hs hL
  obtain ⟨F, hF⟩ : ∃ F, F = G ((lower n G t + n / 2 - 1) % n) := ⟨_, rfl⟩
  obtain ⟨K2, hK2⟩ : ∃ F, F = G ((lower n G t + n / 2) % n) := ⟨_, rfl⟩
  rw [← hF, ← hK2]
  have HF := hid hF
  have HK := hid hK2
  clear hF hK2
  go_enter Try.func12, Try.ntmps12
  go_wp2_with fail
  rw [zero16]
  obtain ⟨w1, hw1⟩ : ∃ w1, w1 = (w.alloc (.cells (idOf fun _ => 0) 32)).alloc (.cells (idOf fun _ => 0) 32) := ⟨_, rfl⟩
  rw [← hw1]
  have B1 : Below w.heap.size w w1 := by rw [hw1]; exact ((Below.refl _ _).alloc (Nat.le_refl _) _).alloc (by simp) _
  have k0 : Blk w1 w.heap.size 32 (idOf fun _ => 0) := by rw [hw1]; exact (Blk.new _ _ _).alloc _
  have k1 : Blk w1 (w.heap.size + 1) 32 (idOf fun _ => 0) := by
    rw [hw1]
    have := Blk.new (w.alloc (.cells (idOf fun _ => 0) 32)) 32 (idOf fun _ => 0)
    simpa using this
  have hz1 : w1.heap.size = w.heap.size + 2 := by rw [hw1]; simp
  clear hw1
  refine (ends_any L M n G S t w1 hn0 hn (by rw [hz1]; omega) (HL.out.below B1 hLt) (HP.out.below B1 hM) HG.out HT.out HS.out).mono ?_
  rw [← HF.out, ← HK.out]
  rintro e w2 ⟨rfl, hb2⟩
  have j0 := k0.below hb2 (by omega)
  have j1 := k1.below hb2 (by omega)
  have HB2 := hid (B1.trans (hb2.mono (by omega)))
  have st1 := hid (st32 j0 F)
  have l1 : Blk (w2.setRow w.heap.size (idOf F)) (w.heap.size + 1) 32 (idOf fun _ => 0) := Blk.setRow_other j1 _ (by omega)
  have st2 := hid (st32 l1 K2)
  have HR1 := hid (show Blk ((w2.setRow w.heap.size (idOf F)).setRow (w.heap.size + 1) (idOf K2)) w.heap.size 32 (idOf F) from Blk.setRow_other (Blk.setRow_same j0 _) _ (by omega))
  have HR2 := hid (show Blk ((w2.setRow w.heap.size (idOf F)).setRow (w.heap.size + 1) (idOf K2)) (w.heap.size + 1) 32 (idOf K2) from Blk.setRow_same l1 _)
  clear B1 k0 k1 hz1 hb2 j0 j1 l1
  go_wp2_with (first | (refine wl_store rfl 32 (.tmp 2) (.tmp 6) rfl rfl rfl st1.out ?_) | (refine wl_store rfl 32 (.tmp 3) (.tmp 7) rfl rfl rfl st2.out ?_))
  refine bodyPost_ret (v := .tuple #[.agg (idOf F), .agg (idOf K2)]) (results_cell2 (P := Try.prog) (fn := Try.f12) Try.results12 _ _ w.heap.size (w.heap.size + 1) 32 _ _ _ rfl rfl HR1.out HR2.out Try.underlying32 rfl (by rw [idOf_size]; exact info32) (by rw [idOf_size]; exact info32)) rfl ⟨rfl, ?_⟩
  exact below_setRow (below_setRow HB2.out (Nat.le_refl _) _) (by omega) _

set_option maxHeartbeats 400000 in
theorem new_any (t : Nat → Int) (s : ByteArray) (size : Int) (M n c : Nat) (w : World) :
    Calls Try.prog 10 #[.agg (peerOf t s), .int .i64 size, .slice (some ⟨M, 0, none⟩) n c] w fun e w' => e = .returned (.pointer (some ⟨w.heap.size + 1, 0, none⟩)) ∧ Leaf w' (w.heap.size + 1) t size (.slice (some ⟨M, 0, none⟩) n c) ∧ Below w.heap.size w w' := by
  have R1 := hid (ld34 (Blk.range (cs := peerL t s) (Blk.new w 34 (peerOf t s))))
  have hb := hid (build48 t s size M n c)
  go_enter Try.func10, Try.ntmps10
  go_wp2_with (refine wl_load rfl 34 (.tmp 3) rfl rfl R1.out ?_; simp only [Act.put, List.setIfInBounds_toArray, List.set_cons_zero, List.set_cons_succ]; refine wl_move rfl (.tmp 1) rfl rfl ?_; simp only [Act.put, List.setIfInBounds_toArray, List.set_cons_zero, List.set_cons_succ]; refine wl_move rfl (.tmp 2) rfl rfl ?_; simp only [Act.put, List.setIfInBounds_toArray, List.set_cons_zero, List.set_cons_succ]; refine wl_build3 rfl 48 0 1 2 (.tmp 7) (.tmp 8) (.tmp 9) rfl rfl rfl rfl (hb.out _) ?_; simp only [Act.put, List.setIfInBounds_toArray, List.set_cons_zero, List.set_cons_succ]; clear R1 hb)
  go_ret
  have hblk : Blk ((w.alloc (.cells (peerOf t s) 34)).alloc (.cells (leafOf t s size (.slice (some ⟨M, 0, none⟩) n c)) 48)) (w.heap.size + 1) 48 (leafOf t s size (.slice (some ⟨M, 0, none⟩) n c)) := by
    have := Blk.new (w.alloc (.cells (peerOf t s) 34)) 48 (leafOf t s size (.slice (some ⟨M, 0, none⟩) n c))
    simpa using this
  refine ⟨rfl, ⟨range_peer_id (s := s) (fun j v hv => ?_), ?_, ?_⟩, ((Below.refl _ _).alloc (Nat.le_refl _) _).alloc (by simp) _⟩
  · rw [Nat.zero_add, hblk.cell]
    have hj : j < (peerL t s).length := (List.getElem?_eq_some_iff.1 hv).1
    unfold leafOf
    rw [List.getElem?_toArray, List.getElem?_append_left hj]; exact hv
  · rw [hblk.cell]; unfold leafOf
    rw [List.getElem?_toArray, List.getElem?_append_right (by rw [peerL_len]; omega), peerL_len]; rfl
  · rw [hblk.cell]; unfold leafOf
    rw [List.getElem?_toArray, List.getElem?_append_right (by rw [peerL_len]; omega), peerL_len]; rfl

end Go.Proofs.Qxb6604152a.Ids
