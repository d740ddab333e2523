/-
  inYearOrder: the counting sort.
-/
import Derived.Test.Qxb6603807aCopy
import Derived.RegionTactic
import Derived.Deep.QuietTactic
import Derived.BigQuiet
namespace Go.Proofs.Qxb6603807a.Mem
open Go.ChangeShapes Go.WideShapes Go.ChangeAt Go.RowKit
open Go.Proofs.Qxb6603807a.Rank

def OrdEnd (w : World) (n : Nat) (F : Nat → Int) (e : Ending) (w' : World) : Prop :=
  ∃ O G, e = .returned (.slice (some ⟨O, 0, none⟩) n n) ∧ w.heap.size ≤ O ∧ Row w' O 35 (n * 4) G ∧ (∀ j, j < n → ∀ c, c < 4 → G (rank n (keyOf F) j * 4 + c) = F (j * 4 + c)) ∧ Below w.heap.size w w'

theorem tail_slice (C n : Nat) (hn : 1 ≤ n) : ∃ ad : Option Addr, (∀ w : World, (Instr.sliceAt 33 (.slice (some ⟨C, 0, none⟩) n n) (some (.int .i64 1)) none none).run Try.prog w = .ok (.slice ad (n - 1) (n - 1)) w) ∧ (2 ≤ n → ad = some ⟨C, 4, none⟩) := by
  have hsz : ∀ w : World, (sizeOf (Try.prog.elem 33)).run Try.prog w = .ok 4 w := fun _ => by kernel_rfl
  have ht : Try.prog.underlying 33 = some (.slice (Try.prog.elem 33)) := by kernel_rfl
  refine ⟨if n = 1 then some ⟨C, 0, none⟩ else some ⟨C, 4, none⟩, fun w => ?_, ?_⟩
  · rw [run_sliceAt_slice w 33 _ _ _ _ ht, run_slice_l w 33 _ n n ht .i64 1 (by omega) (by omega), hsz]
    simp [sliced, Addr.add, Result.andThen]
  · intro h
    simp [show ¬ n = 1 from by omega]
set_option maxHeartbeats 1600000 in
theorem order_pos (C n : Nat) (F : Nat → Int) (w : World) (hn : 1 ≤ n) (hn2 : n ≤ 32768) (hR : Row w C 35 (n * 4) F)
    (hkey : ∀ i, i < n → -9223372036854775808 ≤ keyOf F i ∧ keyOf F i ≤ 9223372036854775807) (hspan : Span n (keyOf F)) :
    Calls Try.prog 19 #[.slice (some ⟨C, 0, none⟩) n n] w fun e w' => OrdEnd w n F e w' := by
  have c0 := hR.cell (i := 0) (by omega)
  have hn0 : ((n : Int) == 0) = false := by simp; omega
  have hCw := hR.lt
  obtain ⟨ad, hsl, had⟩ := tail_slice C n hn
  have HAD := hid had
  clear had
  go_enter Try.func19, Try.ntmps19
  go_wp2
  go_region
  go_wp2
  go_loopw [3, 4, 29] (fun s t i wr => ∃ k : Nat, ∃ x y : Int, k + 1 ≤ n ∧ i = .int .i64 k ∧ s = .int .i64 x ∧ t = .int .i64 y ∧ Min1 n F (k + 1) x y ∧ Row wr C 35 (n * 4) F ∧ Below w.heap.size w wr) (fun _ _ i _ => n - (intOf i).toNat)
  case atStart => exact ⟨0, F 0, F 0, by omega, rfl, rfl, rfl, min1_zero n F hn, hR.drew, (Below.refl _ _).drew⟩
  case round =>
    obtain ⟨k, x, y, hk, rfl, rfl, rfl, hM, hRr, hB⟩ := hrel
    by_cases hlt : k + 1 < n
    · have hv := HAD.out (by omega)
      subst hv
      have c1 : wr.cell? ⟨C, 4 + k * 4, none⟩ = some (.int .i64 (keyOf F (k + 1))) := by
        have := hRr.cell (i := (k + 1) * 4) (by omega)
        rw [show (k + 1) * 4 = 4 + k * 4 from by omega] at this
        rw [this, keyOf, show (k + 1) * 4 = 4 + k * 4 from by omega]
      have c2 := hRr.cell (i := 4 + k * 4 + 1) (by omega)
      have c3 := hRr.cell (i := 4 + k * 4 + 2) (by omega)
      have c4 := hRr.cell (i := 4 + k * 4 + 3) (by omega)
      have HB := hid hB
      have HM := hid (min1_step hlt hM)
      have HS := hid hB.size
      clear hB hM
      go_wp2
      go_region
      go_wp2
      go_roundw
      case rel => exact ⟨k + 1, _, _, by omega, by go_num, rfl, rfl, HM.out, (hRr.alloc _).drew, (HB.out.alloc HS.out _).drew⟩
      case measure => simp [intOf]; omega
    · have hxy : x ≤ y ∧ y - x ≤ 65536 := min1_span hM (by omega) hspan
      have hxb := min1_bd hM hkey
      obtain ⟨M, hMM⟩ : ∃ M : Nat, (M : Int) = y - x + 2 := ⟨(y - x + 2).toNat, by omega⟩
      have hmk : ∀ w : World, (Instr.makeSlice 22 (.int .i64 (y - x + 2)) (.int .i64 (y - x + 2))).run Try.prog w = .ok (.slice (some ⟨w.heap.size, 0, none⟩) M M) (w.alloc (.cells (rowOf M (fun _ => 0)) 3)) := fun w => by
        rw [← hMM]; exact mk22 M (by omega) w
      have hM1 : (M : Int) ≤ y - x + 2 := by omega
      have hM2 : y - x + 2 ≤ (M : Int) := by omega
      clear hMM
      have hwo := hB.size
      have ATS := hid ((Row.new wr 3 M _).congr (fun i _ => (cntEq_zero F x i).symm))
      have ATR := hid (hRr.alloc (.cells (rowOf M fun _ => 0) 3))
      have ATB := hid (hB.alloc hwo (.cells (rowOf M fun _ => 0) 3))
      have hall : ∀ j, j < n → x ≤ keyOf F j ∧ keyOf F j ≤ y := fun j hj => hM.1 j (by omega)
      have HCA := hid (Nat.ne_of_lt (show C < wr.heap.size from hRr.lt))
      clear hRr hB hM
      obtain ⟨wo, rfl⟩ : ∃ wo : World, wo = wr := ⟨_, rfl⟩
      go_wp2
      go_loopw [49] (fun i wr => ∃ k : Nat, k ≤ n ∧ i = .int .i64 k ∧ Row wr C 35 (n * 4) F ∧ Row wr wo.heap.size 3 M (cntEq F x k) ∧ Below w.heap.size w wr) (fun i _ => n - (intOf i).toNat)
      case atStart => exact ⟨0, by omega, rfl, ATR.out, ATS.out, ATB.out⟩
      case round =>
        clear hlt hk
        obtain ⟨k, hk, rfl, hRr, hRa, hB⟩ := hrel
        by_cases hlt : k < n
        · have hx := hall k hlt
          have hcl := cntEq_bd F x k (keyOf F k - x + 1).toNat
          have c1 : wr.cell? ⟨C, k * 4, none⟩ = some (.int .i64 (keyOf F k)) := hRr.cell (i := k * 4) (by omega)
          have c2 := hRr.cell (i := k * 4 + 1) (by omega)
          have c3 := hRr.cell (i := k * 4 + 2) (by omega)
          have c4 := hRr.cell (i := k * 4 + 3) (by omega)
          have ca := hRa.cell (i := (keyOf F k - x + 1).toNat) (by omega)
          have fa := hRa.free (keyOf F k - x + 1).toNat
          have hs1 := hRa.lt
          have HB := hid hB
          have HSZ := hid hB.size
          clear hB
          go_wp2
          go_roundw
          case rel => exact ⟨k + 1, by omega, by go_num, (hRr.other _ _ HCA.out).alloc _, ((hRa.set _ _).congr (fun v _ => cntEq_step F x k hx.1 v)).alloc _, (HB.out.setCell hwo _).alloc (by simpa using HSZ.out) _⟩
          case measure => simp [intOf]; omega
        · obtain rfl : k = n := by omega
          have ATS := hid (hRa.congr (fun v _ => mix_start F x k (fun j hj => (hall j hj).1) v))
          have ATR := hid hRr
          have ATB := hid hB
          clear hRr hRa hB
          go_wp2
          go_loopw [10] (fun i wr => ∃ m : Nat, 1 ≤ m ∧ m ≤ M ∧ i = .int .i64 m ∧ Row wr C 35 (k * 4) F ∧ Row wr wo.heap.size 3 M (mix F x k m) ∧ Below w.heap.size w wr) (fun i _ => M - (intOf i).toNat)
          case atStart => exact ⟨1, by omega, by omega, rfl, ATR.out, ATS.out, ATB.out⟩
          case round =>
            obtain ⟨m, hm1, hm2, rfl, hRr, hRa, hB⟩ := hrel
            by_cases hlt2 : m < M
            · have b1 := mix_bd F x k m m
              have b2 := mix_bd F x k m (m - 1)
              have ca := hRa.cell (i := m) (by omega)
              have cb := hRa.cell (i := m - 1) (by omega)
              have fa := hRa.free m
              have HB := hid hB
              have HSZ := hid hB.size
              clear hB
              go_wp2
              go_region
              go_wp2
              go_roundw
              case rel => exact ⟨m + 1, by omega, by omega, by go_num, (hRr.other _ _ HCA.out).drew, ((hRa.set _ _).congr (fun v _ => mix_step F x k m hm1 v)).drew, (HB.out.setCell hwo _).drew⟩
              case measure => simp [intOf]; omega
            · obtain rfl : m = M := by omega
              have hmk2 := mk33 k (by omega)
              have hs1 := hRa.lt
              have ATA := hid ((hRa.congr (fun v hv => plc_zero F x k m v hv)).alloc (.cells (rowOf (k * 4) fun _ => 0) 35))
              have ATR := hid (hRr.alloc (.cells (rowOf (k * 4) fun _ => 0) 35))
              have ATO := hid (Row.new wr 35 (k * 4) (fun _ => 0))
              have ATB := hid (hB.alloc hB.size (.cells (rowOf (k * 4) fun _ => 0) 35))
              have hwp := hB.size
              have HCO := hid (Nat.ne_of_lt (show C < wr.heap.size from hRr.lt))
              have HAO := hid (Nat.ne_of_lt hs1)
              clear hRr hRa hB
              obtain ⟨wp, rfl⟩ : ∃ wp : World, wp = wr := ⟨_, rfl⟩
              go_wp2
              go_loopw [86] (fun i wr => ∃ q : Nat, ∃ H : Nat → Int, q ≤ k ∧ i = .int .i64 q ∧ Placed k F q H ∧ Row wr C 35 (k * 4) F ∧ Row wr wo.heap.size 3 m (plc F x k q) ∧ Row wr wp.heap.size 35 (k * 4) H ∧ Below w.heap.size w wr) (fun i _ => k - (intOf i).toNat)
              case atStart => exact ⟨0, fun _ => 0, by omega, rfl, fun j hj => by omega, ATR.out, ATA.out, ATO.out, ATB.out⟩
              case round =>
                obtain ⟨q, H, hq, rfl, hP, hRr, hRa, hRo, hB⟩ := hrel
                by_cases hlt3 : q < k
                · have hx := hall q hlt3
                  have hpl := plc_at F x k q hlt3 hx.1
                  have hrk := rank_lt (keyOf F) hlt3
                  have c1 : wr.cell? ⟨C, q * 4, none⟩ = some (.int .i64 (keyOf F q)) := hRr.cell (i := q * 4) (by omega)
                  have c2 := hRr.cell (i := q * 4 + 1) (by omega)
                  have c3 := hRr.cell (i := q * 4 + 2) (by omega)
                  have c4 := hRr.cell (i := q * 4 + 3) (by omega)
                  have ca := hRa.cell (i := (keyOf F q - x).toNat) (by omega)
                  rw [hpl] at ca
                  have fa := hRa.free (keyOf F q - x).toNat
                  have d0 := hRo.cell (i := rank k (keyOf F) q * 4) (by omega)
                  have d1 := hRo.cell (i := rank k (keyOf F) q * 4 + 1) (by omega)
                  have d2 := hRo.cell (i := rank k (keyOf F) q * 4 + 2) (by omega)
                  have d3 := hRo.cell (i := rank k (keyOf F) q * 4 + 3) (by omega)
                  have f0 := hRo.free (rank k (keyOf F) q * 4)
                  have f1 := hRo.free (rank k (keyOf F) q * 4 + 1)
                  have f2 := hRo.free (rank k (keyOf F) q * 4 + 2)
                  have f3 := hRo.free (rank k (keyOf F) q * 4 + 3)
                  have ho := hRo.lt
                  have hs2 := hRa.lt
                  have HPL := hid hpl
                  have HB := hid hB
                  have HSZ := hid hB.size
                  clear hB hpl
                  go_wp2
                  go_region
                  go_wp2
                  go_roundw
                  case rel =>
                    exact ⟨q + 1, _, by omega, by go_num, placed_step hlt3 hP,
                      ((((((hRr.other _ _ HCO.out).other _ _ HCO.out).other _ _ HCO.out).other _ _ HCO.out).other _ _ HCA.out).alloc _).drew,
                      (((((((hRa.other _ _ HAO.out).other _ _ HAO.out).other _ _ HAO.out).other _ _ HAO.out).set _ _).congr (fun v _ => by rw [← HPL.out]; exact plc_step F x k q hx.1 v)).alloc _).drew,
                      (((hRo.put4 (rank k (keyOf F) q) (F (q * 4)) (F (q * 4 + 1)) (F (q * 4 + 2)) (F (q * 4 + 3))).other _ _ (Ne.symm HAO.out)).alloc _).drew,
                      ((((((HB.out.setCell hwp _).setCell hwp _).setCell hwp _).setCell hwp _).setCell hwo _).alloc (by simpa using HSZ.out) _).drew⟩
                  case measure => simp [intOf]; omega
                · go_wp2
                  go_ret
                  exact ⟨wp.heap.size, H, rfl, hwp, hRo, fun j hj c hc => hP j (by omega) c hc, hB⟩

end Go.Proofs.Qxb6603807a.Mem
