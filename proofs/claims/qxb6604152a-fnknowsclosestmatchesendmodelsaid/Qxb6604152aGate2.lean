/-
  The gates of FnKnowsClosestMatchesEndModel; copies of any slice of peers; a leaf set of any slice.
-/
import Derived.Test.Qxb6604152aMeet
namespace Go.Proofs.Qxb6604152a.Ids
open Go.ChangeShapes Go.WideShapes Go.ChangeAt Go.RowKit
open Go.Proofs.Qxb6604152a.Num
open Go.Proofs.Qxb6604152a.Rank

set_option maxHeartbeats 1600000 in
theorem bytes17 (t : Nat → Int) (s : ByteArray) (size : Int) (a : Option Addr) (n c : Nat) (G : Nat → Nat → Int) (S : Nat → ByteArray) (a2 : Option Addr) (n2 c2 : Nat) (G2 : Nat → Nat → Int) (S2 : Nat → ByteArray) (w : World) (hv : PView w a n G S) (hv2 : PView w a2 n2 G2 S2) :
    Calls Try.prog 17 #[.agg (peerOf t s), .int .i64 size, .slice a n c, .slice a2 n2 c2] w fun e w' => AnyB e ∧ Below w.heap.size w w' := by
  have h16 := peerOf_str t s
  have hB := (Below.refl w.heap.size w).alloc (Nat.le_refl _) (.cells (peerOf t s) 24)
  have HB := hid hB
  have HV := hid hv
  have HV2 := hid hv2
  clear hB hv hv2
  go_enter Try.func17, Try.ntmps17
  go_wp2
  all_goals try (go_ret; exact ⟨AnyB.mk _, HB.out⟩)
  go_loop [9, 10] (fun z i => ∃ k : Nat, ∃ y : Int, k ≤ n ∧ i = .int .i64 k ∧ z = .int .i64 y ∧ 0 ≤ y ∧ y ≤ 1048576) (fun _ i => n - (intOf i).toNat)
  case atStart => exact ⟨0, _, by omega, rfl, rfl, by omega, by omega⟩
  case round =>
    obtain ⟨k, y, hk, rfl, rfl, hy0, hy1⟩ := hrel
    by_cases hlt : k < n
    · obtain ⟨b, off, ha, hb, hP, -⟩ := HV.out (by omega)
      subst ha
      have q16 : w.cell? ⟨b, off + k * 17 + 16, none⟩ = some (.string (S k)) := hP k hlt 16 _ (peerL_str _ _)
      clear hP
      go_wp2
      all_goals first
        | (go_ret; exact ⟨AnyB.mk _, HB.out⟩)
        | (go_round
           case rel => exact ⟨k + 1, _, by omega, by go_num, rfl, by omega, by omega⟩
           case measure => simp [intOf]; omega)
    · go_wp2
      all_goals try (go_ret; exact ⟨AnyB.mk _, HB.out⟩)
      go_loop [9, 11] (fun z i => ∃ k : Nat, ∃ y : Int, k ≤ n2 ∧ i = .int .i64 k ∧ z = .int .i64 y ∧ 0 ≤ y ∧ y ≤ 1048576) (fun _ i => n2 - (intOf i).toNat)
      case atStart => exact ⟨0, _, by omega, rfl, rfl, by omega, by omega⟩
      case round =>
        obtain ⟨k2, y2, hk2, rfl, rfl, hy20, hy21⟩ := hrel
        by_cases hlt2 : k2 < n2
        · obtain ⟨b, off, ha, hb, hP, -⟩ := HV2.out (by omega)
          subst ha
          have q16 : w.cell? ⟨b, off + k2 * 17 + 16, none⟩ = some (.string (S2 k2)) := hP k2 hlt2 16 _ (peerL_str _ _)
          clear hP
          go_wp2
          all_goals first
            | (go_ret; exact ⟨AnyB.mk _, HB.out⟩)
            | (go_round
               case rel => exact ⟨k2 + 1, _, by omega, by go_num, rfl, by omega, by omega⟩
               case measure => simp [intOf]; omega)
        · go_wp2
          go_ret
          exact ⟨AnyB.mk _, HB.out⟩

def DomEnd (size : Int) (n : Nat) (G : Nat → Nat → Int) (e : Ending) : Prop := ∃ r : Bool, e = .returned (.bool r) ∧ (r = true → 0 < size ∧ size % 2 = 0 ∧ (n : Int) ≤ size ∧ ((n : Int) = size → Asc n G))
set_option maxHeartbeats 800000 in
theorem dom_any (size : Int) (a : Option Addr) (n c : Nat) (G : Nat → Nat → Int) (S : Nat → ByteArray) (w : World) (hn : n ≤ 4096) (hv : PView w a n G S) :
    Calls Try.prog 18 #[.int .i64 size, .slice a n c] w fun e w' => DomEnd size n G e ∧ Below w.heap.size w w' := by
  have HV := hid hv
  clear hv
  by_cases h1 : 0 < size
  · by_cases h2 : size % 2 = 0
    · by_cases h3 : (n : Int) = size
      · have H3 := hid h3
        subst h3
        go_enter Try.func18, Try.ntmps18
        go_wp2_with (go_at_call 21; refine (asc_any a n c G S _ hn HV.out).mono ?_; rintro e w' ⟨⟨r, rfl, hr⟩, hb⟩)
        go_ret
        exact ⟨⟨r, rfl, fun h => ⟨by omega, by omega, by omega, fun _ => hr h⟩⟩, hb⟩
      · have h3' : ((n : Int) == size) = false := by simp; omega
        by_cases h4 : size < (n : Int)
        · go_enter Try.func18, Try.ntmps18
          go_wp2
          go_ret
          exact ⟨⟨false, rfl, fun h => by cases h⟩, Below.refl _ _⟩
        · go_enter Try.func18, Try.ntmps18
          go_wp2
          go_ret
          exact ⟨⟨true, rfl, fun _ => ⟨h1, h2, by omega, fun e => absurd e h3⟩⟩, Below.refl _ _⟩
    · have h2' : (size % 2 != 0) = true := by simpa using h2
      go_enter Try.func18, Try.ntmps18
      go_wp2
      go_ret
      exact ⟨⟨false, rfl, fun h => by cases h⟩, Below.refl _ _⟩
  · go_enter Try.func18, Try.ntmps18
    go_wp2
    go_ret
    exact ⟨⟨false, rfl, fun h => by cases h⟩, Below.refl _ _⟩

/-- A slice of peers that was made here. -/
def PV2 (w : World) (a : Option Addr) (n c : Nat) (G : Nat → Nat → Int) (S : Nat → ByteArray) : Prop :=
  1 ≤ n → ∃ M, a = some ⟨M, 0, none⟩ ∧ c = n ∧ M < w.heap.size ∧ Peers w M 0 n G S ∧ ∀ k, k < n → Byt (G k)
theorem PV2.below {w w' : World} {a : Option Addr} {n c : Nat} {G : Nat → Nat → Int} {S : Nat → ByteArray} (h : PV2 w a n c G S) (hb : Below w.heap.size w w') : PV2 w' a n c G S := fun hn => by
  obtain ⟨b, e, ec, hlt, hP, hG⟩ := h hn
  exact ⟨b, e, ec, Nat.lt_of_lt_of_le hlt hb.size, hP.below hb hlt, hG⟩
theorem PV2.view {w : World} {a : Option Addr} {n c : Nat} {G : Nat → Nat → Int} {S : Nat → ByteArray} (h : PV2 w a n c G S) : PView w a n G S := fun hn => by
  obtain ⟨b, e, _, hlt, hP, hG⟩ := h hn
  exact ⟨b, 0, e, hlt, hP, hG⟩
def CopyEnd (n : Nat) (G : Nat → Nat → Int) (S : Nat → ByteArray) (e : Ending) (w' : World) : Prop := ∃ a' c', e = .returned (.slice a' n c') ∧ PV2 w' a' n c' G S

set_option maxHeartbeats 800000 in
theorem clone_gen (a : Option Addr) (n cap : Nat) (G : Nat → Nat → Int) (S : Nat → ByteArray) (w : World) (hn2 : n ≤ 4096) (hv : PView w a n G S) :
    Calls Try.prog 9 #[.slice a n cap] w fun e w' => CopyEnd n G S e w' ∧ Below w.heap.size w w' := by
  by_cases hn : 1 ≤ n
  · obtain ⟨b, off, rfl, hb, hP, hG⟩ := hv hn
    refine (clone_pos b off n cap G S w hn hn2 hb hP).mono ?_
    rintro e w' ⟨rfl, hP', hz, hB⟩
    exact ⟨⟨_, _, rfl, fun _ => ⟨_, rfl, rfl, hz, hP', hG⟩⟩, hB⟩
  · obtain rfl : n = 0 := by omega
    have q25 : ∀ (w : World) (a : Option Addr) (n c n' c' : Nat), (binOp .eql 25 (.slice a n c) (.slice none n' c')).run Try.prog w = .ok (.bool a.isNone) w := fun w a n c n' c' => Lib.run_eql_slice_nil w _ _ a n c n' c' Try.underlying25
    have hmk : ∀ w : World, (Instr.makeSlice 25 (.int .i64 0) (.int .i64 0)).run Try.prog w = .ok (.slice (some ⟨w.heap.size, 0, none⟩) 0 0) (w.alloc (.cells (blank 0) 24)) := fun w => mk25 0 (by omega) w
    have fin : ∀ a' c' w', CopyEnd 0 G S (.returned (.slice a' 0 c')) w' := fun a' c' w' => ⟨a', c', rfl, fun h => absurd h hn⟩
    clear hv
    cases a with
    | none =>
      go_enter Try.func9, Try.ntmps9
      go_wp2
      go_ret
      exact ⟨fin _ _ _, Below.refl _ _⟩
    | some x =>
      have HB := hid ((Below.refl w.heap.size w).alloc (Nat.le_refl _) (.cells (blank 0) 24))
      go_enter Try.func9, Try.ntmps9
      go_wp2
      go_loopw [4] (fun i wr => i = .int .i64 0 ∧ Below w.heap.size w wr) (fun _ _ => 0)
      case atStart => exact ⟨rfl, HB.out⟩
      case round =>
        obtain ⟨rfl, hB⟩ := hrel
        go_wp2
        go_ret
        exact ⟨fin _ _ _, hB⟩
set_option maxHeartbeats 800000 in
theorem peers_gen (a : Option Addr) (n cap : Nat) (G : Nat → Nat → Int) (S : Nat → ByteArray) (w : World) (hn2 : n ≤ 4096) (hv : PView w a n G S) :
    Calls Try.prog 11 #[.slice a n cap] w fun e w' => CopyEnd n G S e w' ∧ Below w.heap.size w w' := by
  by_cases hn : 1 ≤ n
  · obtain ⟨b, off, rfl, hb, hP, hG⟩ := hv hn
    refine (peers_pos b off n cap G S w hn hn2 hb hP).mono ?_
    rintro e w' ⟨rfl, hP', hz, hB⟩
    exact ⟨⟨_, _, rfl, fun _ => ⟨_, rfl, rfl, hz, hP', hG⟩⟩, hB⟩
  · obtain rfl : n = 0 := by omega
    have q25 : ∀ (w : World) (a : Option Addr) (n c n' c' : Nat), (binOp .eql 25 (.slice a n c) (.slice none n' c')).run Try.prog w = .ok (.bool a.isNone) w := fun w a n c n' c' => Lib.run_eql_slice_nil w _ _ a n c n' c' Try.underlying25
    have hmk : ∀ w : World, (Instr.makeSlice 35 (.int .i64 0) (.int .i64 0)).run Try.prog w = .ok (.slice (some ⟨w.heap.size, 0, none⟩) 0 0) (w.alloc (.cells (blank 0) 34)) := fun w => mk35 0 (by omega) w
    have fin : ∀ a' c' w', CopyEnd 0 G S (.returned (.slice a' 0 c')) w' := fun a' c' w' => ⟨a', c', rfl, fun h => absurd h hn⟩
    clear hv
    cases a with
    | none =>
      go_enter Try.func11, Try.ntmps11
      go_wp2
      go_ret
      exact ⟨fin _ _ _, Below.refl _ _⟩
    | some x =>
      have HB := hid ((Below.refl w.heap.size w).alloc (Nat.le_refl _) (.cells (blank 0) 34))
      go_enter Try.func11, Try.ntmps11
      go_wp2
      go_loopw [4] (fun i wr => i = .int .i64 0 ∧ Below w.heap.size w wr) (fun _ _ => 0)
      case atStart => exact ⟨rfl, HB.out⟩
      case round =>
        obtain ⟨rfl, hB⟩ := hrel
        go_wp2
        go_ret
        exact ⟨fin _ _ _, hB⟩

theorem build48g (t : Nat → Int) (s : ByteArray) (size : Int) (a : Option Addr) (n c : Nat) (w : World) : (Instr.build 48 #[(0, .agg (peerOf t s)), (1, .int .i64 size), (2, .slice a n c)]).run Try.prog w = .ok (.agg (leafOf t s size (.slice a n c))) w := by kernel_rfl
set_option maxHeartbeats 400000 in
theorem new_gen (t : Nat → Int) (s : ByteArray) (size : Int) (a : Option Addr) (n c : Nat) (w : World) :
    Calls Try.prog 10 #[.agg (peerOf t s), .int .i64 size, .slice a n c] w fun e w' => e = .returned (.pointer (some ⟨w.heap.size + 1, 0, none⟩)) ∧ Leaf w' (w.heap.size + 1) t size (.slice a n c) ∧ Below w.heap.size w w' := by
  have R1 := hid (ld34 (Blk.range (cs := peerL t s) (Blk.new w 34 (peerOf t s))))
  have hb := hid (build48g t s size a n c)
  go_enter Try.func10, Try.ntmps10
  go_wp2_with (refine wl_load rfl 34 (.tmp 3) rfl rfl R1.out ?_; simp only [Act.put, List.setIfInBounds_toArray, List.set_cons_zero, List.set_cons_succ]; refine wl_move rfl (.tmp 1) rfl rfl ?_; simp only [Act.put, List.setIfInBounds_toArray, List.set_cons_zero, List.set_cons_succ]; refine wl_move rfl (.tmp 2) rfl rfl ?_; simp only [Act.put, List.setIfInBounds_toArray, List.set_cons_zero, List.set_cons_succ]; refine wl_build3 rfl 48 0 1 2 (.tmp 7) (.tmp 8) (.tmp 9) rfl rfl rfl rfl (hb.out _) ?_; simp only [Act.put, List.setIfInBounds_toArray, List.set_cons_zero, List.set_cons_succ]; clear R1 hb)
  go_ret
  have hblk : Blk ((w.alloc (.cells (peerOf t s) 34)).alloc (.cells (leafOf t s size (.slice a n c)) 48)) (w.heap.size + 1) 48 (leafOf t s size (.slice a n c)) := by
    have := Blk.new (w.alloc (.cells (peerOf t s) 34)) 48 (leafOf t s size (.slice a n c))
    simpa using this
  refine ⟨rfl, ⟨range_peer_id (s := s) (fun j v hv => ?_), ?_, ?_⟩, ((Below.refl _ _).alloc (Nat.le_refl _) _).alloc (by simp) _⟩
  · rw [Nat.zero_add, hblk.cell]
    have hj : j < (peerL t s).length := (List.getElem?_eq_some_iff.1 hv).1
    unfold leafOf
    rw [List.getElem?_toArray, List.getElem?_append_left hj]; exact hv
  · rw [hblk.cell]; unfold leafOf
    rw [List.getElem?_toArray, List.getElem?_append_right (by rw [peerL_len]; omega), peerL_len]; rfl
  · rw [hblk.cell]; unfold leafOf
    rw [List.getElem?_toArray, List.getElem?_append_right (by rw [peerL_len]; omega), peerL_len]; rfl
end Go.Proofs.Qxb6604152a.Ids
