/-
  zzCloneZ, zzPeers.
-/
import Derived.Test.Qxb6604152aMake
namespace Go.Proofs.Qxb6604152a.Ids
open Go.ChangeShapes Go.WideShapes Go.ChangeAt Go.RowKit
open Go.Proofs.Qxb6604152a.Num
open Go.Proofs.Qxb6604152a.Rank

theorem below_setCells {B b : Nat} {w0 : World} (hb : B ≤ b) : ∀ (vs : List Value) (o : Nat) (w : World), Below B w0 w → Below B w0 (w.setCells b o vs)
  | [], _, _, h => h
  | v :: r, o, w, h => by
    rw [World.setCells]
    exact below_setCells hb r (o + 1) _ (h.setCell hb v)
theorem size_setCells (b : Nat) : ∀ (vs : List Value) (o : Nat) (w : World), (w.setCells b o vs).heap.size = w.heap.size
  | [], _, _ => rfl
  | v :: r, o, w => by
    rw [World.setCells, size_setCells b r (o + 1)]; simp
def zeroPeer : Value := .agg #[.int .u8 0, .int .u8 0, .int .u8 0, .int .u8 0, .int .u8 0, .int .u8 0, .int .u8 0, .int .u8 0, .int .u8 0, .int .u8 0, .int .u8 0, .int .u8 0, .int .u8 0, .int .u8 0, .int .u8 0, .int .u8 0, .string ByteArray.empty]
theorem infoz24 : (Try.prog.info? 24).map (fun i => (i.zero, i.size, i.bytes)) = some (some zeroPeer, 17, 32) := by kernel_rfl
theorem infoz34 : (Try.prog.info? 34).map (fun i => (i.zero, i.size, i.bytes)) = some (some zeroPeer, 17, 32) := by kernel_rfl
def blank (n : Nat) : Array Value := madeCells zeroPeer.cells (n * 17)
theorem mk25 (n : Nat) (h : n ≤ 1000000) (w : World) :
    (Instr.makeSlice 25 (.int .i64 (n : Int)) (.int .i64 (n : Int))).run Try.prog w = .ok (.slice (some ⟨w.heap.size, 0, none⟩) n n) (w.alloc (.cells (blank n) 24)) := by
  obtain ⟨i, hi, hz0, hz1, hz2⟩ := info_parts infoz24
  have := run_make (P := Try.prog) w 25 24 i _ Try.underlying25 hi hz0 .i64 .i64 (n : Int) (n : Int) (by omega) (Int.le_refl _) (by rw [hz2]; omega) (by omega)
  rw [hz1] at this
  simp only [Int.toNat_natCast] at this
  exact this
theorem mk35 (n : Nat) (h : n ≤ 1000000) (w : World) :
    (Instr.makeSlice 35 (.int .i64 (n : Int)) (.int .i64 (n : Int))).run Try.prog w = .ok (.slice (some ⟨w.heap.size, 0, none⟩) n n) (w.alloc (.cells (blank n) 34)) := by
  obtain ⟨i, hi, hz0, hz1, hz2⟩ := info_parts infoz34
  have := run_make (P := Try.prog) w 35 34 i _ Try.underlying35 hi hz0 .i64 .i64 (n : Int) (n : Int) (by omega) (Int.le_refl _) (by rw [hz2]; omega) (by omega)
  rw [hz1] at this
  simp only [Int.toNat_natCast] at this
  exact this
theorem there_blank (w : World) (T n : Nat) : (w.alloc (.cells (blank n) T)).there w.heap.size 0 (n * 17) := fun j hj => by
  have hb := Blk.new w T (blank n)
  refine ⟨?_, hb.free _⟩
  rw [Nat.zero_add, hb.cell]
  have : j < (blank n).size := by unfold blank; rw [size_madeCells]; exact hj
  simp [this]
theorem there_part {w : World} {b n : Nat} (h : w.there b 0 (n * 17)) {k : Nat} (hk : k < n) : w.there b (k * 17) 17 := fun j hj => by
  have := h (k * 17 + j) (by omega)
  simpa using this
theorem there_drew {w : World} {b o n : Nat} (h : w.there b o n) : w.drew.there b o n := h
/-- The first k peers lie there. -/
theorem peers_step {w : World} {b n k : Nat} {G : Nat → Nat → Int} {S : Nat → ByteArray} (h : Peers w b 0 k G S) (ht : w.there b 0 (n * 17)) (hk : k < n) :
    Peers (w.setCells b (k * 17) (peerL (G k) (S k))) b 0 (k + 1) G S := by
  intro j hj
  by_cases e : j = k
  · subst e
    rw [Nat.zero_add]
    exact World.rangeAt_setCells_same w b (j * 17) _ (by rw [peerL_len]; exact there_part ht hk)
  · exact World.rangeAt_setCells_apart (h j (by omega)) b (k * 17) _ (by rw [peerL_len]; omega)
theorem st24 {w : World} {b o : Nat} (g : Nat → Int) (s : ByteArray) (h : w.there b o 17) : (Instr.storeAt 24 (.pointer (some ⟨b, o, none⟩)) (.agg (peerOf g s))).run Try.prog w = .ok () (w.setCells b o (peerL g s)) := by
  have := run_storeAt_mid (P := Try.prog) w b o 24 (peerOf g s) (by rw [peerOf_size]; exact h) (by rw [peerOf_size]; exact info24) (peerOf_one g s)
  simpa [peerOf] using this
theorem st34 {w : World} {b o : Nat} (g : Nat → Int) (s : ByteArray) (h : w.there b o 17) : (Instr.storeAt 34 (.pointer (some ⟨b, o, none⟩)) (.agg (peerOf g s))).run Try.prog w = .ok () (w.setCells b o (peerL g s)) := by
  have := run_storeAt_mid (P := Try.prog) w b o 34 (peerOf g s) (by rw [peerOf_size]; exact h) (by rw [peerOf_size]; exact info34) (peerOf_one g s)
  simpa [peerOf] using this

theorem peerL_str (g : Nat → Int) (s : ByteArray) : (peerL g s)[16]? = some (.string s) := by
  unfold peerL
  rw [List.getElem?_append_right (by rw [idL_len]; omega), idL_len]; rfl

set_option maxHeartbeats 800000 in
theorem clone_pos (b off n cap : Nat) (G : Nat → Nat → Int) (S : Nat → ByteArray) (w : World) (hn : 1 ≤ n) (hn2 : n ≤ 4096) (hb : b < w.heap.size) (hP : Peers w b off n G S) :
    Calls Try.prog 9 #[.slice (some ⟨b, off, none⟩) n cap] w fun e w' => e = .returned (.slice (some ⟨w.heap.size, 0, none⟩) n n) ∧ Peers w' w.heap.size 0 n G S ∧ w.heap.size < w'.heap.size ∧ Below w.heap.size w w' := by
  have q25 : ∀ (w : World) (a : Option Addr) (n c n' c' : Nat), (binOp .eql 25 (.slice a n c) (.slice none n' c')).run Try.prog w = .ok (.bool a.isNone) w := fun w a n c n' c' => Lib.run_eql_slice_nil w _ _ a n c n' c' Try.underlying25
  have hmk := mk25 n (by omega)
  have HP := hid hP
  have HT := hid (there_blank w 24 n)
  clear hP
  go_enter Try.func9, Try.ntmps9
  go_wp2
  go_loopw [4] (fun i wr => ∃ k : Nat, k ≤ n ∧ i = .int .i64 k ∧ Peers wr w.heap.size 0 k G S ∧ wr.there w.heap.size 0 (n * 17) ∧ w.heap.size < wr.heap.size ∧ Below w.heap.size w wr) (fun i _ => n - (intOf i).toNat)
  case atStart => exact ⟨0, by omega, rfl, fun j hj => by omega, HT.out, by simp, (Below.refl _ _).alloc (Nat.le_refl _) _⟩
  case round =>
    obtain ⟨k, hk, rfl, hPk, hth, hsz, hB⟩ := hrel
    by_cases hlt : k < n
    · have HL := hid (ld24 (range_below (HP.out k hlt) hB hb))
      have HST := hid (st24 (G k) (S k) (there_part hth hlt))
      have HPk := hid (peers_step hPk hth hlt)
      have HTh := hid (World.there_setCells hth w.heap.size (k * 17) (peerL (G k) (S k)))
      have HB := hid (below_setCells (Nat.le_refl _) (peerL (G k) (S k)) (k * 17) _ hB)
      have HSZ : Hid (w.heap.size < (wr.setCells w.heap.size (k * 17) (peerL (G k) (S k))).heap.size) := by rw [size_setCells]; exact hsz
      clear hPk hth hB hsz
      go_wp2_with (first | ((with_reducible refine wl_load ?_ 24 (.tmp 20) ?_ ?_ HL.out ?_); rfl; rfl; rfl; simp only [Act.put, List.setIfInBounds_toArray, List.set_cons_zero, List.set_cons_succ]; clear HL) | ((with_reducible refine wl_store ?_ 24 (.tmp 22) (.tmp 21) ?_ ?_ ?_ HST.out ?_); rfl; rfl; rfl; rfl; simp only [Act.put]; clear HST))
      go_roundw
      case rel => exact ⟨k + 1, by omega, by go_num, HPk.out, HTh.out, HSZ.out, HB.out⟩
      case measure => simp [intOf]; omega
    · obtain rfl : k = n := by omega
      go_wp2
      go_ret
      exact ⟨rfl, hPk, hsz, hB⟩
set_option maxHeartbeats 1600000 in
theorem peers_pos (b off n cap : Nat) (G : Nat → Nat → Int) (S : Nat → ByteArray) (w : World) (hn : 1 ≤ n) (hn2 : n ≤ 4096) (hb : b < w.heap.size) (hP : Peers w b off n G S) :
    Calls Try.prog 11 #[.slice (some ⟨b, off, none⟩) n cap] w fun e w' => e = .returned (.slice (some ⟨w.heap.size, 0, none⟩) n n) ∧ Peers w' w.heap.size 0 n G S ∧ w.heap.size < w'.heap.size ∧ Below w.heap.size w w' := by
  have q25 : ∀ (w : World) (a : Option Addr) (n c n' c' : Nat), (binOp .eql 25 (.slice a n c) (.slice none n' c')).run Try.prog w = .ok (.bool a.isNone) w := fun w a n c n' c' => Lib.run_eql_slice_nil w _ _ a n c n' c' Try.underlying25
  have hmk := mk35 n (by omega)
  have HP := hid hP
  have HT := hid (there_blank w 34 n)
  clear hP
  go_enter Try.func11, Try.ntmps11
  go_wp2
  go_loopw [4] (fun i wr => ∃ k : Nat, k ≤ n ∧ i = .int .i64 k ∧ Peers wr w.heap.size 0 k G S ∧ wr.there w.heap.size 0 (n * 17) ∧ w.heap.size < wr.heap.size ∧ Below w.heap.size w wr) (fun i _ => n - (intOf i).toNat)
  case atStart => exact ⟨0, by omega, rfl, fun j hj => by omega, HT.out, by simp, (Below.refl _ _).alloc (Nat.le_refl _) _⟩
  case round =>
    obtain ⟨k, hk, rfl, hPk, hth, hsz, hB⟩ := hrel
    by_cases hlt : k < n
    · have hne := cw_some w.heap.size wr
      have rk := range_below (HP.out k hlt) hB hb
      have q16 : ∀ x : CW w.heap.size wr, x.val.cell? ⟨b, off + k * 17 + 16, none⟩ = some (.string (S k)) := fun x => range_below rk x.2 hb 16 _ (peerL_str _ _)
      have HLa : Hid (∀ w', (∃ x : CW w.heap.size wr, w' = x.val) → (Instr.loadAt 22 (.pointer (some ⟨b, off + k * 17, none⟩))).run Try.prog w' = .ok (.agg (idOf (G k))) w') := by
        rintro w' ⟨x, rfl⟩
        exact ld22 (range_peer_id (range_below rk x.2 hb))
      have HST := hid (st34 (w := wr.drew) (G k) (S k) (there_part hth hlt))
      have HPk := hid (peers_step (w := wr.drew) hPk hth hlt)
      have HTh := hid (World.there_setCells (w := wr.drew) hth w.heap.size (k * 17) (peerL (G k) (S k)))
      have HBs := hid (below_setCells (w0 := wr) (Nat.le_refl w.heap.size) (peerL (G k) (S k)) (k * 17) _ (Below.refl _ _).drew)
      have HB := hid (below_setCells (Nat.le_refl _) (peerL (G k) (S k)) (k * 17) _ hB.drew)
      have HSZ : Hid (w.heap.size < (wr.drew.setCells w.heap.size (k * 17) (peerL (G k) (S k))).heap.size) := by rw [size_setCells]; exact hsz
      have hS0 : ∃ x : CW w.heap.size wr, wr.drew = x.val := ⟨⟨wr.drew, (Below.refl _ _).drew⟩, rfl⟩
      clear hPk hth hB hsz rk
      go_wp2
      refine wp_region_held (S := fun w' => ∃ x : CW w.heap.size wr, w' = x.val) (by kernel_rfl) ?_
      change wpAnyH Try.prog .any _ _ _ 15 (Array.replicate 15 false) _ wr.drew
      refine take_quiet (i := 0) rfl (by kernel_rfl) (by kernel_rfl) (by kernel_rfl) (fun _ _ _ _ h => h) (by rfl) (by rfl) hS0 ?_
      intro K hK
      simp only [List.getElem_toArray, List.getElem_cons_zero]
      go_big_quiet_op
      go_big_quiet_on
      refine take_quiet (i := 1) rfl (by kernel_rfl) (by kernel_rfl) (by kernel_rfl) (fun _ _ _ _ h => h) (by rfl) (by rfl) hS0 ?_
      intro K hK
      simp only [List.getElem_toArray, List.getElem_cons_zero, List.getElem_cons_succ]
      go_big_quiet_op
      go_big_quiet_on
      refine take_quiet (i := 2) rfl (by kernel_rfl) (by kernel_rfl) (by kernel_rfl) (fun _ _ _ _ h => h) (by rfl) (by rfl) hS0 ?_
      intro K hK
      simp only [List.getElem_toArray, List.getElem_cons_zero, List.getElem_cons_succ]
      go_big_quiet_op
      go_big_quiet_on
      refine take_quiet (i := 3) rfl (by kernel_rfl) (by kernel_rfl) (by kernel_rfl) (fun _ _ _ _ h => h) (by rfl) (by rfl) hS0 ?_
      intro K hK
      simp only [List.getElem_toArray, List.getElem_cons_zero, List.getElem_cons_succ]
      go_big_quiet_op
      go_big_quiet_on
      refine take_quiet (i := 4) rfl (by kernel_rfl) (by kernel_rfl) (by kernel_rfl) (fun _ _ _ _ h => h) (by rfl) (by rfl) hS0 ?_
      intro K hK
      simp only [List.getElem_toArray, List.getElem_cons_zero, List.getElem_cons_succ]
      go_big_quiet_op
      go_big_quiet_on
      refine take_quiet (i := 5) rfl (by kernel_rfl) (by kernel_rfl) (by kernel_rfl) (fun _ _ _ _ h => h) (by rfl) (by rfl) hS0 ?_
      intro K hK
      simp only [List.getElem_toArray, List.getElem_cons_zero, List.getElem_cons_succ]
      go_big_quiet_op
      go_big_quiet_on
      refine take_quiet (i := 6) rfl (by kernel_rfl) (by kernel_rfl) (by kernel_rfl) (fun _ _ _ _ h => h) (by rfl) (by rfl) hS0 ?_
      intro K hK
      simp only [List.getElem_toArray, List.getElem_cons_zero, List.getElem_cons_succ]
      refine quiet_ld 22 (.tmp 21) rfl rfl HLa.out ?_
      simp only [Act.put, List.setIfInBounds_toArray, List.set_cons_zero, List.set_cons_succ]
      go_big_quiet_on
      refine take_quiet (i := 7) rfl (by kernel_rfl) (by kernel_rfl) (by kernel_rfl) (fun _ _ _ _ h => h) (by rfl) (by rfl) hS0 ?_
      intro K hK
      simp only [List.getElem_toArray, List.getElem_cons_zero, List.getElem_cons_succ]
      go_big_quiet_op
      go_big_quiet_on
      refine take_quiet (i := 8) rfl (by kernel_rfl) (by kernel_rfl) (by kernel_rfl) (fun _ _ _ _ h => h) (by rfl) (by rfl) hS0 ?_
      intro K hK
      simp only [List.getElem_toArray, List.getElem_cons_zero, List.getElem_cons_succ]
      go_big_quiet_op
      go_big_quiet_on
      refine take_quiet (i := 9) rfl (by kernel_rfl) (by kernel_rfl) (by kernel_rfl) (fun _ _ _ _ h => h) (by rfl) (by rfl) hS0 ?_
      intro K hK
      simp only [List.getElem_toArray, List.getElem_cons_zero, List.getElem_cons_succ]
      go_big_quiet_op
      go_big_quiet_on
      refine take_quiet (i := 10) rfl (by kernel_rfl) (by kernel_rfl) (by kernel_rfl) (fun _ _ _ _ h => h) (by rfl) (by rfl) hS0 ?_
      intro K hK
      simp only [List.getElem_toArray, List.getElem_cons_zero, List.getElem_cons_succ]
      go_big_quiet_op
      go_big_quiet_on
      refine take_quiet (i := 11) rfl (by kernel_rfl) (by kernel_rfl) (by kernel_rfl) (fun _ _ _ _ h => h) (by rfl) (by rfl) hS0 ?_
      intro K hK
      simp only [List.getElem_toArray, List.getElem_cons_zero, List.getElem_cons_succ]
      go_big_quiet_op
      go_big_quiet_on
      refine take_quiet (i := 12) rfl (by kernel_rfl) (by kernel_rfl) (by kernel_rfl) (fun _ _ _ _ h => h) (by rfl) (by rfl) hS0 ?_
      intro K hK
      simp only [List.getElem_toArray, List.getElem_cons_zero, List.getElem_cons_succ]
      refine quiet_build2 34 0 1 (.tmp 22) (.tmp 27) rfl rfl rfl (build34 (G k) (S k)) ?_
      simp only [Act.put, List.setIfInBounds_toArray, List.set_cons_zero, List.set_cons_succ]
      go_big_quiet_on
      refine take_quiet (i := 13) rfl (by kernel_rfl) (by kernel_rfl) (by kernel_rfl) (fun _ _ _ _ h => h) (by rfl) (by rfl) hS0 ?_
      intro K hK
      simp only [List.getElem_toArray, List.getElem_cons_zero, List.getElem_cons_succ]
      go_big_quiet_op
      go_big_quiet_on
      refine one_store (i := 14) rfl (by kernel_rfl) (by rfl) 34 (.tmp 29) (.tmp 28) rfl rfl rfl HST.out ⟨⟨_, HBs.out⟩, rfl⟩ ?_
      simp only [List.getElem_toArray, List.getElem_cons_zero, List.getElem_cons_succ, Act.put]
      refine wpAnyH_done (by kernel_rfl) ?_ _
      clear hne q16 HLa HST HBs hS0
      go_wp2
      go_roundw
      case rel => exact ⟨k + 1, by omega, by go_num, HPk.out, HTh.out, HSZ.out, HB.out⟩
      case measure => simp [intOf]; omega
    · obtain rfl : k = n := by omega
      go_wp2
      go_ret
      exact ⟨rfl, hPk, hsz, hB⟩
end Go.Proofs.Qxb6604152a.Ids
