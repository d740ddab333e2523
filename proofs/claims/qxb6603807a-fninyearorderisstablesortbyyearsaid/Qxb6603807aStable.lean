/-
  b1StableOrderByYear: the bottom-up merge sort, walked.
-/
import Derived.Test.Qxb6603807aIdem
import Derived.Test.Qxb6603807aMergeMath
namespace Go.Proofs.Qxb6603807a.Mem
open Go.ChangeShapes Go.WideShapes Go.ChangeAt Go.RowKit
open Go.Proofs.Qxb6603807a.Rank
open Go.Proofs.Qxb6603807a.Merge

def RowN (w : World) (b n : Nat) (T : Nat → Nat) : Prop := Row w b 3 n (fun i => ((T i : Nat) : Int))
theorem RowN.cell {w : World} {b n : Nat} {T : Nat → Nat} (h : RowN w b n T) {i : Nat} (hi : i < n) : w.cell? ⟨b, i, none⟩ = some (.int .i64 ((T i : Nat) : Int)) := Row.cell h hi
theorem RowN.free {w : World} {b n : Nat} {T : Nat → Nat} (h : RowN w b n T) (i : Nat) : w.frozen? ⟨b, i, none⟩ = false := Row.free h i
theorem RowN.lt {w : World} {b n : Nat} {T : Nat → Nat} (h : RowN w b n T) : b < w.heap.size := Row.lt h
theorem RowN.set {w : World} {b n : Nat} {T : Nat → Nat} (h : RowN w b n T) (k v : Nat) : RowN (w.setCell ⟨b, k, none⟩ (.int .i64 ((v : Nat) : Int))) b n (updN T k v) :=
  (Row.set h k ((v : Nat) : Int)).congr (fun i _ => by unfold upd updN; split <;> rfl)
theorem RowN.other {w : World} {b n : Nat} {T : Nat → Nat} (h : RowN w b n T) (a : Addr) (v : Value) (hne : b ≠ a.block) : RowN (w.setCell a v) b n T := Row.other h a v hne
theorem RowN.alloc {w : World} {b n : Nat} {T : Nat → Nat} (h : RowN w b n T) (o : Obj) : RowN (w.alloc o) b n T := Row.alloc h o
theorem RowN.drew {w : World} {b n : Nat} {T : Nat → Nat} (h : RowN w b n T) : RowN w.drew b n T := h
theorem RowN.zero (w : World) (n : Nat) : RowN (w.alloc (.cells (rowOf n (fun _ => 0)) 3)) w.heap.size n (fun _ => 0) := Row.new w 3 n _

def LesserEnd (x n : Nat) (e : Ending) : Prop := ∃ m : Nat, m = min x n ∧ e = .returned (.int .i64 (m : Int))
theorem lesser_any (a : Int) (x n : Nat) (w : World) (h : a = (x : Int)) :
    Calls Try.prog 20 #[.int .i64 a, .int .i64 (n : Int)] w fun e w' => LesserEnd x n e ∧ w' = w := by
  subst h
  by_cases hx : x < n
  · go_enter Try.func20, Try.ntmps20
    go_wp2
    go_ret
    exact ⟨⟨x, by omega, rfl⟩, rfl⟩
  · go_enter Try.func20, Try.ntmps20
    go_wp2
    go_ret
    exact ⟨⟨n, by omega, rfl⟩, rfl⟩

def StEnd (w : World) (n : Nat) (f : Nat → Int) (e : Ending) (w' : World) : Prop :=
  ∃ I ix, e = .returned (.slice (some ⟨I, 0, none⟩) n n) ∧ w.heap.size ≤ I ∧ RunAt f ix 0 n ∧ RowN w' I n ix ∧ Below w.heap.size w w'

theorem ms_fin {f : Nat → Int} {e T0 T : Nat → Nat} {lo mid hi i j k : Nat} (h : MS f e T0 T lo mid hi i j k) (h1 : ¬ i < mid) (h2 : ¬ j < hi) : (∀ t, t < lo → T t = T0 t) ∧ RunAt f T lo hi := by
  have hb := ms_bd h
  obtain rfl : i = mid := by omega
  obtain rfl : j = hi := by omega
  exact (ms_end h).2
theorem lo_next {lo r wd : Nat} (h : lo = r * (2 * wd)) : lo + 2 * wd = (r + 1) * (2 * wd) := by
  rw [Nat.add_mul, Nat.one_mul, ← h]
theorem done_next {f : Nat → Int} {n wd lo r : Nat} {T U : Nat → Nat} (hlo : lo = r * (2 * wd)) (h : Done f n (2 * wd) lo T) (hu : ∀ t, t < lo → U t = T t) (hr : RunAt f U lo (min (lo + 2 * wd) n)) (hw : 1 ≤ wd) :
    Done f n (2 * wd) (lo + 2 * wd) U := by
  rw [lo_next hlo]
  subst hlo
  exact done_step h hu hr (by omega)

set_option maxHeartbeats 4000000 in
set_option maxRecDepth 10000 in
theorem stable_pos (Y n : Nat) (f : Nat → Int) (w : World) (hn : 1 ≤ n) (hn2 : n ≤ 32768) (hY : Row w Y 3 n f) :
    Calls Try.prog 13 #[.slice (some ⟨Y, 0, none⟩) n n] w fun e w' => StEnd w n f e w' := by
  have hmk := mk22 n (by omega)
  have hYlt := hY.lt
  have HY := hid hY
  have S0 := hid (RowN.zero w n)
  clear hY
  go_enter Try.func13, Try.ntmps13
  go_wp2
  go_loopw [5] (fun i wr => ∃ k : Nat, ∃ T : Nat → Nat, k ≤ n ∧ i = .int .i64 k ∧ (∀ t, t < k → T t = t) ∧ RowN wr w.heap.size n T ∧ Below w.heap.size w wr) (fun i _ => n - (intOf i).toNat)
  case atStart => exact ⟨0, _, by omega, rfl, fun t ht => by omega, S0.out, (Below.refl _ _).alloc (Nat.le_refl _) _⟩
  case round =>
    obtain ⟨k, T, hk, rfl, hT, hR, hB⟩ := hrel
    by_cases hlt : k < n
    · have c1 := hR.cell hlt
      have g1 := hR.free k
      have HT := hid hT
      have HB := hid hB
      clear hT hB
      go_wp2
      go_roundw
      case rel => exact ⟨k + 1, updN T k k, by omega, by go_num, fun t ht => by
                    by_cases e : t = k
                    · subst e; exact updN_at _ _ _
                    · rw [updN_ne _ _ _ _ e]; exact HT.out t (by omega), hR.set k k, HB.out.setCell (Nat.le_refl _) _⟩
      case measure => simp [intOf]; omega
    · obtain rfl : k = n := by omega
      have hsz := hB.size
      have hAA := hR.lt
      have R1 := hid (show RowN (wr.alloc (.cells (rowOf k (fun _ => 0)) 3)) w.heap.size k (fun i => i) from (hR.alloc _).congr (fun i hi => by show ((T i : Nat) : Int) = ((i : Nat) : Int); rw [hT i hi]))
      have R2 := hid (RowN.zero wr k)
      have HB := hid (hB.alloc hsz (.cells (rowOf k (fun _ => 0)) 3))
      clear hT hR hB
      obtain ⟨wo, rfl⟩ : ∃ wo : World, wo = wr := ⟨_, rfl⟩
      go_wp2
      go_loopw [4, 6, 7] (fun s t i wr => ∃ wd bp bq : Nat, ∃ e T : Nat → Nat, 1 ≤ wd ∧ wd ≤ 65536 ∧ i = .int .i64 wd ∧ s = .slice (some ⟨bp, 0, none⟩) k k ∧ t = .slice (some ⟨bq, 0, none⟩) k k ∧ bp ≠ bq ∧ w.heap.size ≤ bp ∧ w.heap.size ≤ bq ∧ Runs f k wd e ∧ RowN wr bp k e ∧ RowN wr bq k T ∧ Below w.heap.size w wr) (fun _ _ i _ => k - (intOf i).toNat)
      case atStart => exact ⟨1, w.heap.size, wo.heap.size, _, _, by omega, by omega, rfl, rfl, rfl, by omega, by omega, by omega, runs_one f k, R1.out, R2.out, HB.out⟩
      case round =>
        obtain ⟨wd, bp, bq, e, T, hw1, hw2, rfl, rfl, rfl, hpq, hbp, hbq, hruns, hRp, hRq, hB⟩ := hrel
        by_cases hwn : wd < k
        · have HR := hid hruns
          have HRp := hid hRp
          have HRq := hid hRq
          have HB := hid hB
          clear hruns hRp hRq hB
          obtain ⟨wx, rfl⟩ : ∃ wx : World, wx = wr := ⟨_, rfl⟩
          go_wp2
          go_loopw [8] (fun l wr => ∃ lo r : Nat, ∃ T : Nat → Nat, l = .int .i64 lo ∧ lo ≤ k + 2 * wd ∧ lo = r * (2 * wd) ∧ Done f k (2 * wd) lo T ∧ RowN wr bp k e ∧ RowN wr bq k T ∧ Below w.heap.size w wr) (fun l _ => k - (intOf l).toNat)
          case atStart => exact ⟨0, 0, T, rfl, by omega, by omega, done_zero f k _ T, HRp.out, HRq.out, HB.out⟩
          case round =>
            clear HRp HRq HB
            obtain ⟨lo, r, T, rfl, hlo1, hlo2, hdone, hRp, hRq, hB⟩ := hrel
            by_cases hlon : lo < k
            · have HLO := hid hlo2
              have HD := hid hdone
              have HL : Hid (RunAt f e lo (min (lo + wd) k)) := by
                have := left_run (q := r) HR.out (by rw [← hlo2]; exact hlon)
                rw [← hlo2] at this; exact this
              have HH : Hid (RunAt f e (min (lo + wd) k) (min (lo + 2 * wd) k)) := by
                have := right_run (q := r) HR.out
                rw [← hlo2] at this; exact this
              have HRp := hid hRp
              have HRq := hid hRq
              have HB := hid hB
              clear hlo2 hdone hRp hRq hB
              obtain ⟨wy, rfl⟩ : ∃ wy : World, wy = wr := ⟨_, rfl⟩
              go_wp2_with fail
              refine (lesser_any _ (lo + wd) k _ (by omega)).mono ?_
              rintro e1 w1 ⟨⟨mid, hmid, rfl⟩, rfl⟩
              have HMID := hid hmid
              have hm1 : lo ≤ mid ∧ mid ≤ k ∧ mid ≤ lo + wd := by omega
              clear hmid
              go_wp2_with fail
              refine (lesser_any _ (lo + 2 * wd) k _ (by omega)).mono ?_
              rintro e1 w1 ⟨⟨hi, hhi, rfl⟩, rfl⟩
              have hm2 : mid ≤ hi ∧ hi ≤ k := by have := HMID.out; omega
              have HL2 : Hid (RunAt f e lo mid) := by rw [HMID.out]; exact HL.out
              have HH2 : Hid (RunAt f e mid hi) := by rw [HMID.out, hhi]; exact HH.out
              have HHI := hid hhi
              clear hhi HL HH HMID
              go_wp2
              go_loopw [11, 12, 13] (fun a b c wr => ∃ i j q : Nat, ∃ U : Nat → Nat, a = .int .i64 i ∧ b = .int .i64 j ∧ c = .int .i64 q ∧ MS f e T U lo mid hi i j q ∧ RowN wr bp k e ∧ RowN wr bq k U ∧ Below w.heap.size w wr) (fun a b _ _ => mid + hi - ((intOf a).toNat + (intOf b).toNat))
              case atStart => exact ⟨lo, mid, lo, T, rfl, rfl, rfl, ms_zero f e T lo mid hi hm1.1 hm2.1, HRp.out, HRq.out, HB.out⟩
              case round =>
                clear HRp HRq HB
                obtain ⟨i, j, q, U, rfl, rfl, rfl, hMS, hRp, hRq, hB⟩ := hrel
                have hbd := ms_bd hMS
                have HMS := hid hMS
                clear hMS
                by_cases hi1 : i < mid
                · by_cases hj1 : j < hi
                  · have cp1 := hRp.cell (i := i) (by omega)
                    have cp2 := hRp.cell (i := j) (by omega)
                    have l1 := (HL2.out i (by omega) hi1).2.1
                    have l2 := (HH2.out j (by omega) hj1).2.1
                    have cy1 := (HY.out.below hB hYlt).cell (i := e i) (by omega)
                    have cy2 := (HY.out.below hB hYlt).cell (i := e j) (by omega)
                    have cq := hRq.cell (i := q) (by omega)
                    have fq := hRq.free q
                    have HB := hid hB
                    clear hB
                    by_cases hcmp : f (e j) < f (e i)
                    · have HM2 := hid (ms_j HMS.out HH2.out hj1 (fun _ => hcmp))
                      go_wp2
                      go_region
                      go_wp2
                      go_roundw
                      case rel => exact ⟨i, j + 1, q + 1, _, rfl, by go_num, by go_num, HM2.out, (hRp.other _ _ hpq).drew, (hRq.set q (e j)).drew, (HB.out.setCell hbq _).drew⟩
                      case measure => simp [intOf]; omega
                    · have HM2 := hid (ms_i HMS.out HL2.out HH2.out hi1 (fun _ => hcmp))
                      go_wp2
                      go_region
                      go_wp2
                      go_roundw
                      case rel => exact ⟨i + 1, j, q + 1, _, by go_num, rfl, by go_num, HM2.out, (hRp.other _ _ hpq).drew, (hRq.set q (e i)).drew, (HB.out.setCell hbq _).drew⟩
                      case measure => simp [intOf]; omega
                  · have hor : i < mid → hi ≤ j := fun _ => by omega
                    have HRp := hid hRp
                    have HRq := hid hRq
                    have HB := hid hB
                    clear hRp hRq hB
                    go_wp2
                    go_loopw [11, 13] (fun a c wr => ∃ i q : Nat, ∃ U : Nat → Nat, a = .int .i64 i ∧ c = .int .i64 q ∧ MS f e T U lo mid hi i j q ∧ (i < mid → hi ≤ j) ∧ RowN wr bp k e ∧ RowN wr bq k U ∧ Below w.heap.size w wr) (fun a _ _ => mid - (intOf a).toNat)
                    case atStart => exact ⟨i, q, U, rfl, rfl, HMS.out, hor, HRp.out, HRq.out, HB.out⟩
                    case round =>
                      clear HMS hor HRp HRq HB hbd
                      obtain ⟨i, q, U, rfl, rfl, hMS, hor, hRp, hRq, hB⟩ := hrel
                      have hbd := ms_bd hMS
                      have HMS := hid hMS
                      clear hMS
                      by_cases hi2 : i < mid
                      · have hj2 := hor hi2
                        have cp1 := hRp.cell (i := i) (by omega)
                        have cq := hRq.cell (i := q) (by omega)
                        have fq := hRq.free q
                        have HM2 := hid (ms_i HMS.out HL2.out HH2.out hi2 (fun h => by omega))
                        have HB := hid hB
                        clear hB hor
                        go_wp2
                        go_roundw
                        case rel => exact ⟨i + 1, q + 1, _, by go_num, by go_num, HM2.out, fun _ => hj2, hRp.other _ _ hpq, hRq.set q (e i), HB.out.setCell hbq _⟩
                        case measure => simp [intOf]; omega
                      · have HRp := hid hRp
                        have HRq := hid hRq
                        have HB := hid hB
                        clear hRp hRq hB hor
                        go_wp2
                        go_loopw [12, 13] (fun b c wr => ∃ j q : Nat, ∃ U : Nat → Nat, b = .int .i64 j ∧ c = .int .i64 q ∧ MS f e T U lo mid hi i j q ∧ RowN wr bp k e ∧ RowN wr bq k U ∧ Below w.heap.size w wr) (fun b _ _ => hi - (intOf b).toNat)
                        case atStart => exact ⟨j, q, U, rfl, rfl, HMS.out, HRp.out, HRq.out, HB.out⟩
                        case round =>
                          clear HMS HRp HRq HB hbd
                          obtain ⟨j, q, U, rfl, rfl, hMS, hRp, hRq, hB⟩ := hrel
                          have hbd := ms_bd hMS
                          have HMS := hid hMS
                          clear hMS
                          by_cases hj2 : j < hi
                          · have cp1 := hRp.cell (i := j) (by omega)
                            have cq := hRq.cell (i := q) (by omega)
                            have fq := hRq.free q
                            have HM2 := hid (ms_j HMS.out HH2.out hj2 (fun h => by omega))
                            have HB := hid hB
                            clear hB
                            go_wp2
                            go_roundw
                            case rel => exact ⟨j + 1, q + 1, _, by go_num, by go_num, HM2.out, hRp.other _ _ hpq, hRq.set q (e j), HB.out.setCell hbq _⟩
                            case measure => simp [intOf]; omega
                          · have HRp := hid hRp
                            have HRq := hid hRq
                            have HB := hid hB
                            have HE := hid (ms_fin HMS.out hi2 hj2)
                            have HDN := hid (done_next HLO.out HD.out HE.out.1 (by rw [← HHI.out]; exact HE.out.2) (by omega))
                            have HLN := hid (lo_next HLO.out)
                            clear hRp hRq hB
                            go_wp2
                            go_roundw
                            case rel => exact ⟨lo + 2 * wd, r + 1, U, by go_num, by omega, HLN.out, HDN.out, HRp.out, HRq.out, HB.out⟩
                            case measure => simp [intOf]; omega
                · have hor : i < mid → hi ≤ j := fun _ => by omega
                  have HRp := hid hRp
                  have HRq := hid hRq
                  have HB := hid hB
                  clear hRp hRq hB
                  go_wp2
                  go_loopw [11, 13] (fun a c wr => ∃ i q : Nat, ∃ U : Nat → Nat, a = .int .i64 i ∧ c = .int .i64 q ∧ MS f e T U lo mid hi i j q ∧ (i < mid → hi ≤ j) ∧ RowN wr bp k e ∧ RowN wr bq k U ∧ Below w.heap.size w wr) (fun a _ _ => mid - (intOf a).toNat)
                  case atStart => exact ⟨i, q, U, rfl, rfl, HMS.out, hor, HRp.out, HRq.out, HB.out⟩
                  case round =>
                    clear HMS hor HRp HRq HB hbd
                    obtain ⟨i, q, U, rfl, rfl, hMS, hor, hRp, hRq, hB⟩ := hrel
                    have hbd := ms_bd hMS
                    have HMS := hid hMS
                    clear hMS
                    by_cases hi2 : i < mid
                    · have hj2 := hor hi2
                      have cp1 := hRp.cell (i := i) (by omega)
                      have cq := hRq.cell (i := q) (by omega)
                      have fq := hRq.free q
                      have HM2 := hid (ms_i HMS.out HL2.out HH2.out hi2 (fun h => by omega))
                      have HB := hid hB
                      clear hB hor
                      go_wp2
                      go_roundw
                      case rel => exact ⟨i + 1, q + 1, _, by go_num, by go_num, HM2.out, fun _ => hj2, hRp.other _ _ hpq, hRq.set q (e i), HB.out.setCell hbq _⟩
                      case measure => simp [intOf]; omega
                    · have HRp := hid hRp
                      have HRq := hid hRq
                      have HB := hid hB
                      clear hRp hRq hB hor
                      go_wp2
                      go_loopw [12, 13] (fun b c wr => ∃ j q : Nat, ∃ U : Nat → Nat, b = .int .i64 j ∧ c = .int .i64 q ∧ MS f e T U lo mid hi i j q ∧ RowN wr bp k e ∧ RowN wr bq k U ∧ Below w.heap.size w wr) (fun b _ _ => hi - (intOf b).toNat)
                      case atStart => exact ⟨j, q, U, rfl, rfl, HMS.out, HRp.out, HRq.out, HB.out⟩
                      case round =>
                        clear HMS HRp HRq HB hbd
                        obtain ⟨j, q, U, rfl, rfl, hMS, hRp, hRq, hB⟩ := hrel
                        have hbd := ms_bd hMS
                        have HMS := hid hMS
                        clear hMS
                        by_cases hj2 : j < hi
                        · have cp1 := hRp.cell (i := j) (by omega)
                          have cq := hRq.cell (i := q) (by omega)
                          have fq := hRq.free q
                          have HM2 := hid (ms_j HMS.out HH2.out hj2 (fun h => by omega))
                          have HB := hid hB
                          clear hB
                          go_wp2
                          go_roundw
                          case rel => exact ⟨j + 1, q + 1, _, by go_num, by go_num, HM2.out, hRp.other _ _ hpq, hRq.set q (e j), HB.out.setCell hbq _⟩
                          case measure => simp [intOf]; omega
                        · have HRp := hid hRp
                          have HRq := hid hRq
                          have HB := hid hB
                          have HE := hid (ms_fin HMS.out hi2 hj2)
                          have HDN := hid (done_next HLO.out HD.out HE.out.1 (by rw [← HHI.out]; exact HE.out.2) (by omega))
                          have HLN := hid (lo_next HLO.out)
                          clear hRp hRq hB
                          go_wp2
                          go_roundw
                          case rel => exact ⟨lo + 2 * wd, r + 1, U, by go_num, by omega, HLN.out, HDN.out, HRp.out, HRq.out, HB.out⟩
                          case measure => simp [intOf]; omega
            · have HB := hid hB
              have HRp := hid hRp
              have HRq := hid hRq
              have HR2 : Hid (Runs f k (wd * 2) T) := by
                rw [Nat.mul_comm wd 2]
                exact runs_done hdone (by omega)
              clear hB hRp hRq hdone hlo2
              go_wp2
              go_roundw
              case rel => exact ⟨wd * 2, bq, bp, T, e, by omega, by omega, by go_num, rfl, rfl, Ne.symm hpq, hbq, hbp, HR2.out, HRq.out, HRp.out, HB.out⟩
              case measure => simp [intOf]; omega
        · go_wp2
          go_ret
          exact ⟨bp, e, rfl, hbp, runs_end hruns (by omega) hn, hRp, hB⟩

set_option maxHeartbeats 400000 in
theorem stable_zero (a : Option Addr) (c : Nat) (w : World) :
    Calls Try.prog 13 #[.slice a 0 c] w fun e w' => (∃ a' c', e = .returned (.slice a' 0 c')) ∧ Below w.heap.size w w' := by
  have hmk := mk22z
  go_enter Try.func13, Try.ntmps13
  go_wp2
  refine wp_loop_rounds 1 ?_
  rw [rounds_succ]
  go_wp2
  refine wp_loop_rounds 1 ?_
  rw [rounds_succ]
  go_wp2
  go_ret
  exact ⟨⟨_, _, rfl⟩, ((Below.refl _ _).alloc (Nat.le_refl _) _).alloc (by simp) _⟩

end Go.Proofs.Qxb6603807a.Mem
