/-
  ZZInYearOrder: pack, order, unpack.
-/
import Derived.Test.Qxb6603807aOrder
namespace Go.Proofs.Qxb6603807a.Mem
open Go.ChangeShapes Go.WideShapes Go.ChangeAt Go.RowKit
open Go.Proofs.Qxb6603807a.Rank

theorem order_zero (a : Option Addr) (c : Nat) (w : World) :
    Calls Try.prog 19 #[.slice a 0 c] w fun e w' => e = .returned (.slice a 0 c) ∧ w' = w := by
  go_enter Try.func19, Try.ntmps19
  go_wp2
  go_ret
  exact ⟨rfl, rfl⟩

def pack (f0 f1 f2 f3 : Nat → Int) : Nat → Int := fun m => if m % 4 = 0 then f0 (m / 4) else if m % 4 = 1 then f1 (m / 4) else if m % 4 = 2 then f2 (m / 4) else f3 (m / 4)
theorem pack0 (f0 f1 f2 f3 : Nat → Int) (i : Nat) : pack f0 f1 f2 f3 (i * 4) = f0 i := by
  unfold pack
  rw [if_pos (by omega), show i * 4 / 4 = i from by omega]
theorem pack1 (f0 f1 f2 f3 : Nat → Int) (i : Nat) : pack f0 f1 f2 f3 (i * 4 + 1) = f1 i := by
  unfold pack
  rw [if_neg (by omega), if_pos (by omega), show (i * 4 + 1) / 4 = i from by omega]
theorem pack2 (f0 f1 f2 f3 : Nat → Int) (i : Nat) : pack f0 f1 f2 f3 (i * 4 + 2) = f2 i := by
  unfold pack
  rw [if_neg (by omega), if_neg (by omega), if_pos (by omega), show (i * 4 + 2) / 4 = i from by omega]
theorem pack3 (f0 f1 f2 f3 : Nat → Int) (i : Nat) : pack f0 f1 f2 f3 (i * 4 + 3) = f3 i := by
  unfold pack
  rw [if_neg (by omega), if_neg (by omega), if_neg (by omega), show (i * 4 + 3) / 4 = i from by omega]
theorem key_pack (f0 f1 f2 f3 : Nat → Int) : keyOf (pack f0 f1 f2 f3) = f0 := by
  funext i; exact pack0 f0 f1 f2 f3 i
theorem pack_step (f0 f1 f2 f3 : Nat → Int) (k v : Nat) :
    put4 (pre (k * 4) (pack f0 f1 f2 f3)) k (f0 k) (f1 k) (f2 k) (f3 k) v = pre ((k + 1) * 4) (pack f0 f1 f2 f3) v := by
  have h0 := pack0 f0 f1 f2 f3 k
  have h1 := pack1 f0 f1 f2 f3 k
  have h2 := pack2 f0 f1 f2 f3 k
  have h3 := pack3 f0 f1 f2 f3 k
  unfold put4 upd pre
  by_cases e3 : v = k * 4 + 3
  · rw [if_pos e3, if_pos (by omega), e3, h3]
  by_cases e2 : v = k * 4 + 2
  · rw [if_neg e3, if_pos e2, if_pos (by omega), e2, h2]
  by_cases e1 : v = k * 4 + 1
  · rw [if_neg e3, if_neg e2, if_pos e1, if_pos (by omega), e1, h1]
  by_cases e0 : v = k * 4
  · rw [if_neg e3, if_neg e2, if_neg e1, if_pos e0, if_pos (by omega), e0, h0]
  · rw [if_neg e3, if_neg e2, if_neg e1, if_neg e0]
    by_cases hv : v < k * 4
    · rw [if_pos hv, if_pos (by omega)]
    · rw [if_neg hv, if_neg (by omega)]

def Four (w : World) (n : Nat) (g0 g1 g2 g3 : Nat → Int) (B : Nat) (e : Ending) (w' : World) : Prop :=
  ∃ P0 P1 P2 P3, e = .returned (.tuple #[.slice (some ⟨P0, 0, none⟩) n n, .slice (some ⟨P1, 0, none⟩) n n, .slice (some ⟨P2, 0, none⟩) n n, .slice (some ⟨P3, 0, none⟩) n n])
    ∧ B ≤ P0 ∧ B ≤ P1 ∧ B ≤ P2 ∧ B ≤ P3 ∧ Row w' P0 3 n g0 ∧ Row w' P1 3 n g1 ∧ Row w' P2 2 n g2 ∧ Row w' P3 2 n g3 ∧ Below B w w'
def Sorted4 (n : Nat) (f0 f1 f2 f3 g0 g1 g2 g3 : Nat → Int) : Prop :=
  ∀ j, j < n → g0 (rank n f0 j) = f0 j ∧ g1 (rank n f0 j) = f1 j ∧ g2 (rank n f0 j) = f2 j ∧ g3 (rank n f0 j) = f3 j
theorem sorted4_of {n : Nat} {f0 f1 f2 f3 G : Nat → Int} (h : ∀ j, j < n → ∀ c, c < 4 → G (rank n (keyOf (pack f0 f1 f2 f3)) j * 4 + c) = pack f0 f1 f2 f3 (j * 4 + c)) :
    Sorted4 n f0 f1 f2 f3 (fun i => G (i * 4)) (fun i => G (i * 4 + 1)) (fun i => G (i * 4 + 2)) (fun i => G (i * 4 + 3)) := by
  intro j hj
  have h0 := h j hj 0 (by omega)
  have h1 := h j hj 1 (by omega)
  have h2 := h j hj 2 (by omega)
  have h3 := h j hj 3 (by omega)
  rw [key_pack] at h0 h1 h2 h3
  rw [pack1] at h1
  rw [pack2] at h2
  rw [pack3] at h3
  refine ⟨?_, h1, h2, h3⟩
  have := h0
  simp only [Nat.add_zero] at this
  rw [pack0] at this
  exact this

def ZZEnd (w : World) (n : Nat) (f0 f1 f2 f3 : Nat → Int) (e : Ending) (w' : World) : Prop :=
  ∃ g0 g1 g2 g3, Sorted4 n f0 f1 f2 f3 g0 g1 g2 g3 ∧ Four w n g0 g1 g2 g3 w.heap.size e w'

set_option maxHeartbeats 1600000 in
theorem zz_pos (b0 o0 c0 b1 o1 c1 b2 o2 c2 b3 o3 c3 n : Nat) (f0 f1 f2 f3 : Nat → Int) (w : World) (hn : 1 ≤ n) (hn2 : n ≤ 32768)
    (hb0 : b0 < w.heap.size) (hb1 : b1 < w.heap.size) (hb2 : b2 < w.heap.size) (hb3 : b3 < w.heap.size)
    (h0 : ∀ i, i < n → w.cell? ⟨b0, o0 + i, none⟩ = some (.int .i64 (f0 i))) (h1 : ∀ i, i < n → w.cell? ⟨b1, o1 + i, none⟩ = some (.int .i64 (f1 i)))
    (h2 : ∀ i, i < n → w.cell? ⟨b2, o2 + i, none⟩ = some (.int .i64 (f2 i))) (h3 : ∀ i, i < n → w.cell? ⟨b3, o3 + i, none⟩ = some (.int .i64 (f3 i)))
    (hkey : ∀ i, i < n → -9223372036854775808 ≤ f0 i ∧ f0 i ≤ 9223372036854775807) (hspan : Span n f0) :
    Calls Try.prog 12 #[.slice (some ⟨b0, o0, none⟩) n c0, .slice (some ⟨b1, o1, none⟩) n c1, .slice (some ⟨b2, o2, none⟩) n c2, .slice (some ⟨b3, o3, none⟩) n c3] w fun e w' => ZZEnd w n f0 f1 f2 f3 e w' := by
  have hm33 := mk33 n (by omega)
  have hm22 := mk22 n (by omega)
  have hm23 := mk23 n (by omega)
  have S0 := hid (Row.pre_new w 35 (n * 4) (pack f0 f1 f2 f3))
  have HK := hid hkey
  have HS := hid hspan
  clear hkey hspan
  go_enter Try.func12, Try.ntmps12
  go_wp2
  go_loopw [26] (fun i wr => ∃ k : Nat, k ≤ n ∧ i = .int .i64 k ∧ Row wr w.heap.size 35 (n * 4) (pre (k * 4) (pack f0 f1 f2 f3)) ∧ Below w.heap.size w wr) (fun i _ => n - (intOf i).toNat)
  case atStart => exact ⟨0, by omega, rfl, by simpa using S0.out, (Below.refl _ _).alloc (Nat.le_refl _) _⟩
  case round =>
    obtain ⟨k, hk, rfl, hR, hB⟩ := hrel
    by_cases hlt : k < n
    · have e0 := (hB.cell (p := ⟨b0, o0 + k, none⟩) hb0).trans (h0 k hlt)
      have e1 := (hB.cell (p := ⟨b1, o1 + k, none⟩) hb1).trans (h1 k hlt)
      have e2 := (hB.cell (p := ⟨b2, o2 + k, none⟩) hb2).trans (h2 k hlt)
      have e3 := (hB.cell (p := ⟨b3, o3 + k, none⟩) hb3).trans (h3 k hlt)
      have d0 := hR.cell (i := k * 4) (by omega)
      have d1 := hR.cell (i := k * 4 + 1) (by omega)
      have d2 := hR.cell (i := k * 4 + 2) (by omega)
      have d3 := hR.cell (i := k * 4 + 3) (by omega)
      have g0 := hR.free (k * 4)
      have g1 := hR.free (k * 4 + 1)
      have g2 := hR.free (k * 4 + 2)
      have g3 := hR.free (k * 4 + 3)
      have HB := hid hB
      clear hB
      go_wp2
      go_region
      go_wp2
      go_roundw
      case rel => exact ⟨k + 1, by omega, by go_num, ((hR.put4 k _ _ _ _).congr (fun v _ => pack_step f0 f1 f2 f3 k v)).drew, ((((HB.out.setCell (Nat.le_refl _) _).setCell (Nat.le_refl _) _).setCell (Nat.le_refl _) _).setCell (Nat.le_refl _) _).drew⟩
      case measure => simp [intOf]; omega
    · have hRf : Row wr w.heap.size 35 (n * 4) (pack f0 f1 f2 f3) := hR.pre_full (by omega)
      have HRF := hid hRf
      have HB := hid hB
      have hsz0 : w.heap.size ≤ wr.heap.size := hB.size
      clear hR hB hRf
      obtain ⟨wo, rfl⟩ : ∃ wo : World, wo = wr := ⟨_, rfl⟩
      go_wp2_with fail
      refine (order_pos w.heap.size n (pack f0 f1 f2 f3) wo hn hn2 HRF.out (by rw [key_pack]; exact HK.out) (by rw [key_pack]; exact HS.out)).mono ?_
      rintro e wq ⟨O, G, rfl, hO, hRo, hG, hB2⟩
      have HG := hid hG
      have hq := hB2.size
      have hO2 := hRo.lt
      have HBq := hid (HB.out.trans (hB2.mono hsz0))
      have HRO := hid ((((hRo.alloc (.cells (rowOf n fun _ => 0) 3)).alloc (.cells (rowOf n fun _ => 0) 3)).alloc (.cells (rowOf n fun _ => 0) 2)).alloc (.cells (rowOf n fun _ => 0) 2))
      have T0 := hid ((((Row.pre_new wq 3 n (fun i => G (i * 4))).alloc (.cells (rowOf n fun _ => 0) 3)).alloc (.cells (rowOf n fun _ => 0) 2)).alloc (.cells (rowOf n fun _ => 0) 2))
      have T1 := hid (((Row.pre_new (wq.alloc (.cells (rowOf n fun _ => 0) 3)) 3 n (fun i => G (i * 4 + 1))).alloc (.cells (rowOf n fun _ => 0) 2)).alloc (.cells (rowOf n fun _ => 0) 2))
      have T2 := hid ((Row.pre_new ((wq.alloc (.cells (rowOf n fun _ => 0) 3)).alloc (.cells (rowOf n fun _ => 0) 3)) 2 n (fun i => G (i * 4 + 2))).alloc (.cells (rowOf n fun _ => 0) 2))
      have T3 := hid (Row.pre_new (((wq.alloc (.cells (rowOf n fun _ => 0) 3)).alloc (.cells (rowOf n fun _ => 0) 3)).alloc (.cells (rowOf n fun _ => 0) 2)) 2 n (fun i => G (i * 4 + 3)))
      clear hRo hG hB2
      go_wp2
      go_loopw [66] (fun i wr => ∃ k : Nat, k ≤ n ∧ i = .int .i64 k ∧ Row wr O 35 (n * 4) G ∧ Row wr wq.heap.size 3 n (pre k (fun i => G (i * 4))) ∧ Row wr (wq.heap.size + 1) 3 n (pre k (fun i => G (i * 4 + 1))) ∧ Row wr (wq.heap.size + 1 + 1) 2 n (pre k (fun i => G (i * 4 + 2))) ∧ Row wr (wq.heap.size + 1 + 1 + 1) 2 n (pre k (fun i => G (i * 4 + 3))) ∧ Below w.heap.size w wr) (fun i _ => n - (intOf i).toNat)
      case atStart =>
        have z0 : w.heap.size ≤ wq.heap.size := by omega
        exact ⟨0, by omega, rfl, HRO.out, T0.out, by simpa using T1.out, by simpa using T2.out, by simpa using T3.out, (((HBq.out.alloc (by omega) _).alloc (by simp; omega) _).alloc (by simp; omega) _).alloc (by simp; omega) _⟩
      case round =>
        obtain ⟨m, hm, rfl, hR, r0, r1, r2, r3, hB⟩ := hrel
        by_cases hlt2 : m < n
        · have d0 := hR.cell (i := m * 4) (by omega)
          have d1 := hR.cell (i := m * 4 + 1) (by omega)
          have d2 := hR.cell (i := m * 4 + 2) (by omega)
          have d3 := hR.cell (i := m * 4 + 3) (by omega)
          have x0 := r0.cell hlt2
          have x1 := r1.cell hlt2
          have x2 := r2.cell hlt2
          have x3 := r3.cell hlt2
          have y0 := r0.free m
          have y1 := r1.free m
          have y2 := r2.free m
          have y3 := r3.free m
          have l0 := r0.lt
          have l1 := r1.lt
          have l2 := r2.lt
          have l3 := r3.lt
          have HB := hid hB
          have HSZ := hid hB.size
          clear hB
          go_wp2
          go_roundw
          case rel =>
            exact ⟨m + 1, by omega, by go_num,
              ((((hR.other _ _ (by dsimp only; omega)).other _ _ (by dsimp only; omega)).other _ _ (by dsimp only; omega)).other _ _ (by dsimp only; omega)).alloc _,
              (((r0.pre_step.other _ _ (by dsimp only; omega)).other _ _ (by dsimp only; omega)).other _ _ (by dsimp only; omega)).alloc _,
              ((((r1.other _ _ (by dsimp only; omega)).pre_step).other _ _ (by dsimp only; omega)).other _ _ (by dsimp only; omega)).alloc _,
              ((((r2.other _ _ (by dsimp only; omega)).other _ _ (by dsimp only; omega)).pre_step).other _ _ (by dsimp only; omega)).alloc _,
              ((((r3.other _ _ (by dsimp only; omega)).other _ _ (by dsimp only; omega)).other _ _ (by dsimp only; omega)).pre_step).alloc _,
              ((((HB.out.setCell (by dsimp only; omega) _).setCell (by dsimp only; omega) _).setCell (by dsimp only; omega) _).setCell (by dsimp only; omega) _).alloc (by simpa using HSZ.out) _⟩
          case measure => simp [intOf]; omega
        · go_wp2
          refine bodyPost_ret (v := .tuple #[.slice (some ⟨wq.heap.size, 0, none⟩) n n, .slice (some ⟨wq.heap.size + 1, 0, none⟩) n n, .slice (some ⟨wq.heap.size + 1 + 1, 0, none⟩) n n, .slice (some ⟨wq.heap.size + 1 + 1 + 1, 0, none⟩) n n]) (by simp [results, Try.results12, go_sem]) rfl ?_
          exact ⟨_, _, _, _, sorted4_of HG.out, _, _, _, _, rfl, by omega, by omega, by omega, by omega, r0.pre_full (by omega), r1.pre_full (by omega), r2.pre_full (by omega), r3.pre_full (by omega), hB⟩

set_option maxHeartbeats 400000 in
theorem zz_zero (a0 a1 a2 a3 : Option Addr) (c0 c1 c2 c3 : Nat) (w : World) :
    Calls Try.prog 12 #[.slice a0 0 c0, .slice a1 0 c1, .slice a2 0 c2, .slice a3 0 c3] w fun e w' => (∃ d0 d1 d2 d3 k0 k1 k2 k3, e = .returned (.tuple #[.slice d0 0 k0, .slice d1 0 k1, .slice d2 0 k2, .slice d3 0 k3])) ∧ Below w.heap.size w w' := by
  have hm33 := mk33z
  have hm22 := mk22z
  have hm23 := mk23z
  go_enter Try.func12, Try.ntmps12
  go_wp2
  refine wp_loop_rounds 1 ?_
  rw [rounds_succ]
  go_wp2_with (go_at_call 19; refine (order_zero _ _ _).mono ?_; rintro e w' ⟨rfl, rfl⟩)
  refine wp_loop_rounds 1 ?_
  rw [rounds_succ]
  go_wp2
  refine bodyPost_ret (v := .tuple #[.slice (some ⟨w.heap.size + 1, 0, none⟩) 0 0, .slice (some ⟨w.heap.size + 1 + 1, 0, none⟩) 0 0, .slice (some ⟨w.heap.size + 1 + 1 + 1, 0, none⟩) 0 0, .slice (some ⟨w.heap.size + 1 + 1 + 1 + 1, 0, none⟩) 0 0]) (by simp [results, Try.results12, go_sem]) rfl ?_
  exact ⟨⟨_, _, _, _, _, _, _, _, rfl⟩, ((((((Below.refl _ _).alloc (Nat.le_refl _) _).alloc (by simp) _).alloc (by simp; omega) _).alloc (by simp; omega) _).alloc (by simp; omega) _)⟩

end Go.Proofs.Qxb6603807a.Mem
