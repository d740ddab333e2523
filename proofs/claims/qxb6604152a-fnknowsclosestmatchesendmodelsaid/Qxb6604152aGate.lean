/-
  The gates of the laws: bounds on lengths, the domain.
-/
import Derived.Test.Qxb6604152aClone
namespace Go.Proofs.Qxb6604152a.Ids
open Go.ChangeShapes Go.WideShapes Go.ChangeAt Go.RowKit
open Go.Proofs.Qxb6604152a.Num
open Go.Proofs.Qxb6604152a.Rank

/-- What a walk is told of a slice of peers that came in. -/
def PView (w : World) (a : Option Addr) (n : Nat) (G : Nat → Nat → Int) (S : Nat → ByteArray) : Prop :=
  1 ≤ n → ∃ b off, a = some ⟨b, off, none⟩ ∧ b < w.heap.size ∧ Peers w b off n G S ∧ ∀ k, k < n → Byt (G k)
theorem peerOf_str (g : Nat → Int) (s : ByteArray) : (peerOf g s)[16]? = some (.string s) := by
  unfold peerOf; rw [List.getElem?_toArray]; exact peerL_str g s
def AnyB (e : Ending) : Prop := ∃ r : Bool, e = .returned (.bool r)
theorem AnyB.mk (r : Bool) : AnyB (.returned (.bool r)) := ⟨r, rfl⟩

set_option maxHeartbeats 800000 in
theorem bytes14 (t : Nat → Int) (s : ByteArray) (size : Int) (a : Option Addr) (n c : Nat) (G : Nat → Nat → Int) (S : Nat → ByteArray) (w : World) (hv : PView w a n G S) :
    Calls Try.prog 14 #[.agg (peerOf t s), .int .i64 size, .slice a n c] w fun e w' => AnyB e ∧ Below w.heap.size w w' := by
  have h16 := peerOf_str t s
  have hB := (Below.refl w.heap.size w).alloc (Nat.le_refl _) (.cells (peerOf t s) 24)
  have HB := hid hB
  have HV := hid hv
  clear hB hv
  go_enter Try.func14, Try.ntmps14
  go_wp2
  all_goals try (go_ret; exact ⟨AnyB.mk _, HB.out⟩)
  go_loop [7, 8] (fun z i => ∃ k : Nat, ∃ y : Int, k ≤ n ∧ i = .int .i64 k ∧ z = .int .i64 y ∧ 0 ≤ y ∧ y ≤ 1048576) (fun _ i => n - (intOf i).toNat)
  case atStart => exact ⟨0, _, by omega, rfl, rfl, by omega, by omega⟩
  case round =>
    obtain ⟨k, y, hk, rfl, rfl, hy0, hy1⟩ := hrel
    by_cases hlt : k < n
    · obtain ⟨b, off, ha, hb, hP, -⟩ := HV.out (by omega)
      subst ha
      have q16 : w.cell? ⟨b, off + k * 17 + 16, none⟩ = some (.string (S k)) := hP k hlt 16 _ (peerL_str _ _)
      clear hP
      go_wp2
      all_goals first
        | (go_ret; exact ⟨AnyB.mk _, HB.out⟩)
        | (go_round
           case rel => exact ⟨k + 1, _, by omega, by go_num, rfl, by omega, by omega⟩
           case measure => simp [intOf]; omega)
    · go_wp2
      go_ret
      exact ⟨AnyB.mk _, HB.out⟩
set_option maxHeartbeats 800000 in
theorem bytes6 (t : Nat → Int) (s : ByteArray) (size : Int) (a : Option Addr) (n c : Nat) (G : Nat → Nat → Int) (S : Nat → ByteArray) (w : World) (hv : PView w a n G S) :
    Calls Try.prog 6 #[.agg (peerOf t s), .int .i64 size, .slice a n c] w fun e w' => AnyB e ∧ Below w.heap.size w w' := by
  have h16 := peerOf_str t s
  have hB := (Below.refl w.heap.size w).alloc (Nat.le_refl _) (.cells (peerOf t s) 24)
  have HB := hid hB
  have HV := hid hv
  clear hB hv
  go_enter Try.func6, Try.ntmps6
  go_wp2
  all_goals try (go_ret; exact ⟨AnyB.mk _, HB.out⟩)
  go_loop [7, 8] (fun z i => ∃ k : Nat, ∃ y : Int, k ≤ n ∧ i = .int .i64 k ∧ z = .int .i64 y ∧ 0 ≤ y ∧ y ≤ 1048576) (fun _ i => n - (intOf i).toNat)
  case atStart => exact ⟨0, _, by omega, rfl, rfl, by omega, by omega⟩
  case round =>
    obtain ⟨k, y, hk, rfl, rfl, hy0, hy1⟩ := hrel
    by_cases hlt : k < n
    · obtain ⟨b, off, ha, hb, hP, -⟩ := HV.out (by omega)
      subst ha
      have q16 : w.cell? ⟨b, off + k * 17 + 16, none⟩ = some (.string (S k)) := hP k hlt 16 _ (peerL_str _ _)
      clear hP
      go_wp2
      all_goals first
        | (go_ret; exact ⟨AnyB.mk _, HB.out⟩)
        | (go_round
           case rel => exact ⟨k + 1, _, by omega, by go_num, rfl, by omega, by omega⟩
           case measure => simp [intOf]; omega)
    · go_wp2
      go_ret
      exact ⟨AnyB.mk _, HB.out⟩
set_option maxHeartbeats 1600000 in
theorem bytesOK (t : Nat → Int) (s : ByteArray) (a : Option Addr) (n c : Nat) (G : Nat → Nat → Int) (S : Nat → ByteArray) (a2 : Option Addr) (n2 c2 : Nat) (G2 : Nat → Nat → Int) (S2 : Nat → ByteArray) (w : World) (hn : n ≤ 1048576) (hn2 : n2 ≤ 1048576) (hv : PView w a n G S) (hv2 : PView w a2 n2 G2 S2) :
    Calls Try.prog 7 #[.agg (peerOf t s), .slice a n c, .slice a2 n2 c2] w fun e w' => AnyB e ∧ Below w.heap.size w w' := by
  have h16 := peerOf_str t s
  have hB := (Below.refl w.heap.size w).alloc (Nat.le_refl _) (.cells (peerOf t s) 24)
  have HB := hid hB
  have HV := hid hv
  have HV2 := hid hv2
  clear hB hv hv2
  go_enter Try.func7, Try.ntmps7
  go_wp2
  all_goals try (go_ret; exact ⟨AnyB.mk _, HB.out⟩)
  go_loop [7, 8] (fun z i => ∃ k : Nat, ∃ y : Int, k ≤ n ∧ i = .int .i64 k ∧ z = .int .i64 y ∧ 0 ≤ y ∧ y ≤ 1048576) (fun _ i => n - (intOf i).toNat)
  case atStart => exact ⟨0, _, by omega, rfl, rfl, by omega, by omega⟩
  case round =>
    obtain ⟨k, y, hk, rfl, rfl, hy0, hy1⟩ := hrel
    by_cases hlt : k < n
    · obtain ⟨b, off, ha, hb, hP, -⟩ := HV.out (by omega)
      subst ha
      have q16 : w.cell? ⟨b, off + k * 17 + 16, none⟩ = some (.string (S k)) := hP k hlt 16 _ (peerL_str _ _)
      clear hP
      go_wp2
      all_goals first
        | (go_ret; exact ⟨AnyB.mk _, HB.out⟩)
        | (go_round
           case rel => exact ⟨k + 1, _, by omega, by go_num, rfl, by omega, by omega⟩
           case measure => simp [intOf]; omega)
    · go_wp2
      go_loop [7, 9] (fun z i => ∃ k : Nat, ∃ y : Int, k ≤ n2 ∧ i = .int .i64 k ∧ z = .int .i64 y ∧ 0 ≤ y ∧ y ≤ 1048576) (fun _ i => n2 - (intOf i).toNat)
      case atStart => exact ⟨0, _, by omega, rfl, rfl, by omega, by omega⟩
      case round =>
        obtain ⟨k2, y2, hk2, rfl, rfl, hy20, hy21⟩ := hrel
        by_cases hlt2 : k2 < n2
        · obtain ⟨b, off, ha, hb, hP, -⟩ := HV2.out (by omega)
          subst ha
          have q16 : w.cell? ⟨b, off + k2 * 17 + 16, none⟩ = some (.string (S2 k2)) := hP k2 hlt2 16 _ (peerL_str _ _)
          clear hP
          go_wp2
          all_goals first
            | (go_ret; exact ⟨AnyB.mk _, HB.out⟩)
            | (go_round
               case rel => exact ⟨k2 + 1, _, by omega, by go_num, rfl, by omega, by omega⟩
               case measure => simp [intOf]; omega)
        · go_wp2
          go_ret
          exact ⟨AnyB.mk _, HB.out⟩

/-! ### the order of the members -/
def Asc (n : Nat) (G : Nat → Nat → Int) : Prop := ∀ i j, i < j → j < n → num (G i) < num (G j)
theorem asc_of {n : Nat} {G : Nat → Nat → Int} (h : ∀ i, i + 1 < n → num (G i) < num (G (i + 1))) : Asc n G := by
  intro i j hij
  induction j with
  | zero => omega
  | succ j ih =>
    intro hj
    have := h j hj
    by_cases e : i = j
    · subst e; exact this
    · have := ih (by omega) (by omega); omega
def AscEnd (n : Nat) (G : Nat → Nat → Int) (e : Ending) : Prop := ∃ r : Bool, e = .returned (.bool r) ∧ (r = true → Asc n G)
set_option maxHeartbeats 800000 in
theorem asc_any (a : Option Addr) (n c : Nat) (G : Nat → Nat → Int) (S : Nat → ByteArray) (w : World) (hn : n ≤ 4096) (hv : PView w a n G S) :
    Calls Try.prog 21 #[.slice a n c] w fun e w' => AscEnd n G e ∧ Below w.heap.size w w' := by
  have HV := hid hv
  clear hv
  go_enter Try.func21, Try.ntmps21
  go_wp2
  go_loopw [3] (fun i wr => ∃ k : Nat, 1 ≤ k ∧ k ≤ n + 1 ∧ i = .int .i64 k ∧ (∀ i, i + 1 < k → num (G i) < num (G (i + 1))) ∧ Below w.heap.size w wr) (fun i _ => n - (intOf i).toNat)
  case atStart => exact ⟨1, by omega, by omega, rfl, fun i hi => by omega, Below.refl _ _⟩
  case round =>
    obtain ⟨k, hk1, hk2, rfl, hlo, hB⟩ := hrel
    have HLO := hid hlo
    have HB := hid hB
    have hsz := hB.size
    clear hlo hB
    by_cases hlt : k < n
    · obtain ⟨b, off, ha, hb, hP, hG⟩ := HV.out (by omega)
      subst ha
      have hne := cw_some wr.heap.size wr
      have HL1 : Hid (∀ w', (∃ x : CW wr.heap.size wr, w' = x.val) → (Instr.loadAt 22 (.pointer (some ⟨b, off + (k - 1) * 17, none⟩))).run Try.prog w' = .ok (.agg (idOf (G (k - 1)))) w') := by
        rintro w' ⟨x, rfl⟩
        exact ld22 (range_peer_id (range_below (hP (k - 1) (by omega)) (HB.out.trans (x.2.mono hsz)) hb))
      have HL2 : Hid (∀ w', (∃ x : CW wr.heap.size wr, w' = x.val) → (Instr.loadAt 22 (.pointer (some ⟨b, off + k * 17, none⟩))).run Try.prog w' = .ok (.agg (idOf (G k))) w') := by
        rintro w' ⟨x, rfl⟩
        exact ld22 (range_peer_id (range_below (hP k hlt) (HB.out.trans (x.2.mono hsz)) hb))
      have HC : Hid (∀ x : CW wr.heap.size wr, Calls Try.prog 16 #[.agg (idOf (G (k - 1))), .agg (idOf (G k))] x.val fun e w'' => e = .returned (.bool (decide (num (G (k - 1)) < num (G k)))) ∧ ∃ y : CW wr.heap.size wr, w'' = y.val) :=
        fun x => cw_call x (less_any _ _ _ (hG _ (by omega)) (hG _ hlt))
      clear hP hG
      by_cases hc : num (G (k - 1)) < num (G k)
      · have HNX : Hid (∀ i, i + 1 < k + 1 → num (G i) < num (G (i + 1))) := by
          intro i hi
          by_cases e : i = k - 1
          · rw [e, show k - 1 + 1 = k from by omega]; exact hc
          · exact HLO.out i (by omega)
        go_wp2
        refine region_cw wr.heap.size (by kernel_rfl) (by kernel_rfl) ?_
        repeat (first | go_big_quiet_skip | (go_big_quiet_want; first | (refine quiet_ld 22 (.tmp 14) rfl rfl HL1.out ?_; simp only [Act.put, List.setIfInBounds_toArray, List.set_cons_zero, List.set_cons_succ]; go_big_quiet_on) | (refine quiet_ld 22 (.tmp 19) rfl rfl HL2.out ?_; simp only [Act.put, List.setIfInBounds_toArray, List.set_cons_zero, List.set_cons_succ]; go_big_quiet_on) | (go_big_quiet_op; first | go_big_quiet_on | go_big_quiet_call (exact HC.out _))))
        refine wpQuiet_nil ?_
        intro w2 hw2
        obtain ⟨⟨w2', hb2⟩, hw2e⟩ := hw2
        subst hw2e
        have HB2 := hid (HB.out.trans (hb2.mono hsz))
        clear hb2 hne HL1 HL2 HC
        go_wp2
        go_roundw
        case rel => exact ⟨k + 1, by omega, by omega, by go_num, HNX.out, HB2.out⟩
        case measure => simp [intOf]; omega
      · have hcd : decide (num (G (k - 1)) < num (G k)) = false := decide_eq_false hc
        clear hc
        go_wp2
        refine region_cw wr.heap.size (by kernel_rfl) (by kernel_rfl) ?_
        repeat (first | go_big_quiet_skip | (go_big_quiet_want; first | (refine quiet_ld 22 (.tmp 14) rfl rfl HL1.out ?_; simp only [Act.put, List.setIfInBounds_toArray, List.set_cons_zero, List.set_cons_succ]; go_big_quiet_on) | (refine quiet_ld 22 (.tmp 19) rfl rfl HL2.out ?_; simp only [Act.put, List.setIfInBounds_toArray, List.set_cons_zero, List.set_cons_succ]; go_big_quiet_on) | (go_big_quiet_op; first | go_big_quiet_on | go_big_quiet_call (exact HC.out _))))
        refine wpQuiet_nil ?_
        intro w2 hw2
        obtain ⟨⟨w2', hb2⟩, hw2e⟩ := hw2
        subst hw2e
        have HB2 := hid (HB.out.trans (hb2.mono hsz))
        clear hb2 hne HL1 HL2 HC
        go_wp2
        go_ret
        exact ⟨⟨false, rfl, fun h => by cases h⟩, HB2.out⟩
    · go_wp2
      go_ret
      exact ⟨⟨true, rfl, fun _ => asc_of (fun i hi => HLO.out i (by omega))⟩, HB.out⟩

def FullEnd (size : Int) (n : Nat) (G : Nat → Nat → Int) (e : Ending) : Prop := ∃ r : Bool, e = .returned (.bool r) ∧ (r = true → size = (n : Int) ∧ 2 ≤ n ∧ n % 2 = 0 ∧ Asc n G)
set_option maxHeartbeats 800000 in
theorem full_any (size : Int) (a : Option Addr) (n c : Nat) (G : Nat → Nat → Int) (S : Nat → ByteArray) (w : World) (hn : n ≤ 4096) (hv : PView w a n G S) :
    Calls Try.prog 8 #[.int .i64 size, .slice a n c] w fun e w' => FullEnd size n G e ∧ Below w.heap.size w w' := by
  have HV := hid hv
  clear hv
  by_cases h1 : 0 < size
  · by_cases h2 : size % 2 = 0
    · by_cases h3 : (n : Int) = size
      · have H3 := hid h3
        subst h3
        go_enter Try.func8, Try.ntmps8
        go_wp2_with (go_at_call 21; refine (asc_any a n c G S _ hn HV.out).mono ?_; rintro e w' ⟨⟨r, rfl, hr⟩, hb⟩)
        go_ret
        exact ⟨⟨r, rfl, fun h => ⟨rfl, by omega, by omega, hr h⟩⟩, hb⟩
      · have h3' : ((n : Int) == size) = false := by simp; omega
        go_enter Try.func8, Try.ntmps8
        go_wp2
        go_ret
        exact ⟨⟨false, rfl, fun h => by cases h⟩, Below.refl _ _⟩
    · go_enter Try.func8, Try.ntmps8
      go_wp2
      go_ret
      exact ⟨⟨false, rfl, fun h => by cases h⟩, Below.refl _ _⟩
  · go_enter Try.func8, Try.ntmps8
    go_wp2
    go_ret
    exact ⟨⟨false, rfl, fun h => by cases h⟩, Below.refl _ _⟩
end Go.Proofs.Qxb6604152a.Ids
