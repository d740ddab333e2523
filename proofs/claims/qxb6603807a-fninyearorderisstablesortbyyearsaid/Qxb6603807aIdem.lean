/-
  FnInYearOrderIdempotent: the walk.
-/
import Derived.Test.Qxb6603807aZZ
namespace Go.Proofs.Qxb6603807a.Mem
open Go.ChangeShapes Go.WideShapes Go.ChangeAt Go.RowKit
open Go.Proofs.Qxb6603807a.Rank

/-- What the walk is told of a slice of integers that came in. -/
def View (w : World) (a : Option Addr) (len : Nat) (f : Nat → Int) : Prop :=
  1 ≤ len → ∃ b off, a = some ⟨b, off, none⟩ ∧ b < w.heap.size ∧ (∀ i, i < len → w.cell? ⟨b, off + i, none⟩ = some (.int .i64 (f i))) ∧ (∀ i, i < len → -9223372036854775808 ≤ f i ∧ f i ≤ 9223372036854775807)

theorem Row.at0 {w : World} {b T n : Nat} {f : Nat → Int} (h : Row w b T n f) : ∀ i, i < n → w.cell? ⟨b, 0 + i, none⟩ = some (.int .i64 (f i)) := fun i hi => by
  rw [Nat.zero_add]; exact h.cell hi

theorem bthen {a b c : World} (h : Below a.heap.size a b) (k : Below b.heap.size b c) : Below a.heap.size a c := h.trans (k.mono h.size)

theorem bd_sorted {n : Nat} {f0 f1 f2 f3 g0 g1 g2 g3 : Nat → Int} (h : Sorted4 n f0 f1 f2 f3 g0 g1 g2 g3) (hb : ∀ i, i < n → -9223372036854775808 ≤ f0 i ∧ f0 i ≤ 9223372036854775807) :
    ∀ i, i < n → -9223372036854775808 ≤ g0 i ∧ g0 i ≤ 9223372036854775807 := by
  intro i hi
  obtain ⟨j, hj, rfl⟩ := rank_sur f0 hi
  rw [(h j hj).1]; exact hb j hj
theorem span_sorted {n : Nat} {f0 f1 f2 f3 g0 g1 g2 g3 : Nat → Int} (h : Sorted4 n f0 f1 f2 f3 g0 g1 g2 g3) (hs : Span n f0) : Span n g0 := by
  intro i j hi hj
  obtain ⟨a, ha, rfl⟩ := rank_sur f0 hi
  obtain ⟨b, hb, rfl⟩ := rank_sur f0 hj
  rw [(h a ha).1, (h b hb).1]; exact hs a b ha hb
theorem idem_sorted {n : Nat} {f0 f1 f2 f3 g0 g1 g2 g3 k0 k1 k2 k3 : Nat → Int} (h : Sorted4 n f0 f1 f2 f3 g0 g1 g2 g3) (k : Sorted4 n g0 g1 g2 g3 k0 k1 k2 k3) :
    ∀ i, i < n → k0 i = g0 i ∧ k1 i = g1 i ∧ k2 i = g2 i ∧ k3 i = g3 i := by
  intro i hi
  have hs := sorted_of_rank f0 g0 (fun j hj => (h j hj).1)
  have hr := rank_sorted g0 hs i hi
  have := k i hi
  rw [hr] at this
  exact this

set_option maxHeartbeats 1600000 in
set_option maxRecDepth 10000 in
theorem idem_walk (a0 a1 a2 a3 : Option Addr) (l0 c0 l1 c1 l2 c2 l3 c3 : Nat) (f0 f1 f2 f3 : Nat → Int) (w : World)
    (v0 : View w a0 l0 f0) (v1 : View w a1 l1 f1) (v2 : View w a2 l2 f2) (v3 : View w a3 l3 f3) :
    Calls Try.prog 4 #[.slice a0 l0 c0, .slice a1 l1 c1, .slice a2 l2 c2, .slice a3 l3 c3] w fun e w' => e = .returned (.bool true) ∧ Below w.heap.size w w' := by
  go_enter Try.func4, Try.ntmps4
  go_wp2_with fail
  refine (bytes14 a0 a1 a2 a3 l0 c0 l1 c1 l2 c2 l3 c3 w).mono ?_
  rintro e w' ⟨⟨r, rfl⟩, rfl⟩
  cases r
  · go_wp2
    go_ret
    exact ⟨rfl, Below.refl _ _⟩
  by_cases g0 : 32768 < l0
  · go_wp2
    go_ret
    exact ⟨rfl, Below.refl _ _⟩
  by_cases g1 : 32768 < l1
  · go_wp2
    go_ret
    exact ⟨rfl, Below.refl _ _⟩
  by_cases g2 : 32768 < l2
  · go_wp2
    go_ret
    exact ⟨rfl, Below.refl _ _⟩
  by_cases g3 : 32768 < l3
  · go_wp2
    go_ret
    exact ⟨rfl, Below.refl _ _⟩
  by_cases e1 : l1 = l0
  rotate_left
  · have n1 : ((l1 : Int) != (l0 : Int)) = true := by simp; omega
    go_wp2
    go_ret
    exact ⟨rfl, Below.refl _ _⟩
  subst e1
  by_cases e2 : l2 = l1
  rotate_left
  · have n1 : ((l2 : Int) != (l1 : Int)) = true := by simp; omega
    go_wp2
    go_ret
    exact ⟨rfl, Below.refl _ _⟩
  subst e2
  by_cases e3 : l3 = l2
  rotate_left
  · have n1 : ((l3 : Int) != (l2 : Int)) = true := by simp; omega
    go_wp2
    go_ret
    exact ⟨rfl, Below.refl _ _⟩
  subst e3
  by_cases hz : l3 = 0
  · subst hz
    clear v0 v1 v2 v3
    go_wp2_with fail
    refine (span_zero a0 c0 w').mono ?_
    rintro e w1 ⟨rfl, rfl⟩
    go_wp2_with fail
    refine (copy22_zero a0 c0 w1).mono ?_
    rintro e w2 ⟨⟨p0, q0, rfl⟩, b2⟩
    go_wp2_with fail
    refine (copy22_zero a1 c1 w2).mono ?_
    rintro e w3 ⟨⟨p1, q1, rfl⟩, b3⟩
    go_wp2_with fail
    refine (copy23_zero a2 c2 w3).mono ?_
    rintro e w4 ⟨⟨p2, q2, rfl⟩, b4⟩
    go_wp2_with fail
    refine (copy23_zero a3 c3 w4).mono ?_
    rintro e w5 ⟨⟨p3, q3, rfl⟩, b5⟩
    go_wp2_with fail
    refine (zz_zero p0 p1 p2 p3 q0 q1 q2 q3 w5).mono ?_
    rintro e w6 ⟨⟨d0, d1, d2, d3, k0, k1, k2, k3, rfl⟩, b6⟩
    go_wp2_with fail
    refine (zz_zero d0 d1 d2 d3 k0 k1 k2 k3 w6).mono ?_
    rintro e w7 ⟨⟨y0, y1, y2, y3, z0, z1, z2, z3, rfl⟩, b7⟩
    have HB := hid (bthen b2 (bthen b3 (bthen b4 (bthen b5 (bthen b6 b7)))))
    clear b2 b3 b4 b5 b6 b7
    go_wp2
    refine wp_loop_rounds 1 ?_
    rw [rounds_succ]
    go_wp2
    go_ret
    exact ⟨rfl, HB.out⟩
  · obtain ⟨x0, o0, rfl, hx0, hc0, hbd⟩ := v0 (by omega)
    obtain ⟨x1, o1, rfl, hx1, hc1, -⟩ := v1 (by omega)
    obtain ⟨x2, o2, rfl, hx2, hc2, -⟩ := v2 (by omega)
    obtain ⟨x3, o3, rfl, hx3, hc3, -⟩ := v3 (by omega)
    clear v0 v1 v2 v3
    go_wp2_with fail
    refine (span_pos x0 o0 l3 c0 f0 w' (by omega) (by omega) hc0 hbd).mono ?_
    rintro e w1 ⟨⟨r, rfl, hsp⟩, rfl⟩
    cases r
    · go_wp2
      go_ret
      exact ⟨rfl, Below.refl _ _⟩
    have HSP := hid (hsp rfl)
    clear hsp
    go_wp2_with fail
    refine (copy22_pos x0 o0 l3 c0 f0 w1 (by omega) (by omega) hx0 hc0).mono ?_
    rintro e w2 ⟨rfl, r0, b2, -⟩
    go_wp2_with fail
    refine (copy22_pos x1 o1 l3 c1 f1 w2 (by omega) (by omega) (by have := b2.size; omega) (fun i hi => (b2.cell (p := ⟨x1, o1 + i, none⟩) hx1).trans (hc1 i hi))).mono ?_
    rintro e w3 ⟨rfl, r1, b3, -⟩
    have b13 := bthen b2 b3
    go_wp2_with fail
    refine (copy23_pos x2 o2 l3 c2 f2 w3 (by omega) (by omega) (by have := b13.size; omega) (fun i hi => (b13.cell (p := ⟨x2, o2 + i, none⟩) hx2).trans (hc2 i hi))).mono ?_
    rintro e w4 ⟨rfl, r2, b4, -⟩
    have b14 := bthen b13 b4
    go_wp2_with fail
    refine (copy23_pos x3 o3 l3 c3 f3 w4 (by omega) (by omega) (by have := b14.size; omega) (fun i hi => (b14.cell (p := ⟨x3, o3 + i, none⟩) hx3).trans (hc3 i hi))).mono ?_
    rintro e w5 ⟨rfl, r3, b5, -⟩
    have b15 := bthen b14 b5
    have s0 : Row w5 w1.heap.size 3 l3 f0 := r0.below (bthen b3 (bthen b4 b5)) r0.lt
    have s1 : Row w5 w2.heap.size 3 l3 f1 := r1.below (bthen b4 b5) r1.lt
    have s2 : Row w5 w3.heap.size 2 l3 f2 := r2.below b5 r2.lt
    clear r0 r1 r2 b2 b3 b13 b4 b14 b5 hc0 hc1 hc2 hc3
    go_wp2_with fail
    refine (zz_pos w1.heap.size 0 l3 w2.heap.size 0 l3 w3.heap.size 0 l3 w4.heap.size 0 l3 l3 f0 f1 f2 f3 w5 (by omega) (by omega) s0.lt s1.lt s2.lt r3.lt s0.at0 s1.at0 s2.at0 r3.at0 hbd HSP.out).mono ?_
    rintro e w6 ⟨g0, g1, g2, g3, hso, P0, P1, P2, P3, rfl, -, -, -, -, t0, t1, t2, t3, b6⟩
    clear s0 s1 s2 r3
    go_wp2_with fail
    refine (zz_pos P0 0 l3 P1 0 l3 P2 0 l3 P3 0 l3 l3 g0 g1 g2 g3 w6 (by omega) (by omega) t0.lt t1.lt t2.lt t3.lt t0.at0 t1.at0 t2.at0 t3.at0 (bd_sorted hso hbd) (span_sorted hso HSP.out)).mono ?_
    rintro e w7 ⟨k0, k1, k2, k3, hso2, Q0, Q1, Q2, Q3, rfl, -, -, -, -, u0, u1, u2, u3, b7⟩
    have he := idem_sorted hso hso2
    have HS0 := hid (t0.below b7 t0.lt)
    have HS1 := hid (t1.below b7 t1.lt)
    have HS2 := hid (t2.below b7 t2.lt)
    have HS3 := hid (t3.below b7 t3.lt)
    have HU0 := hid (u0.congr (fun i hi => (he i hi).1))
    have HU1 := hid (u1.congr (fun i hi => (he i hi).2.1))
    have HU2 := hid (u2.congr (fun i hi => (he i hi).2.2.1))
    have HU3 := hid (u3.congr (fun i hi => (he i hi).2.2.2))
    have HB := hid (bthen b15 (bthen b6 b7))
    clear t0 t1 t2 t3 u0 u1 u2 u3 b15 b6 b7 he hso hso2 hbd
    go_wp2
    go_loopw [18] (fun i wr => ∃ k : Nat, k ≤ l3 ∧ i = .int .i64 k ∧ Row wr P0 3 l3 g0 ∧ Row wr P1 3 l3 g1 ∧ Row wr P2 2 l3 g2 ∧ Row wr P3 2 l3 g3 ∧ Row wr Q0 3 l3 g0 ∧ Row wr Q1 3 l3 g1 ∧ Row wr Q2 2 l3 g2 ∧ Row wr Q3 2 l3 g3 ∧ Below w1.heap.size w1 wr) (fun i _ => l3 - (intOf i).toNat)
    case atStart => exact ⟨0, by omega, rfl, HS0.out, HS1.out, HS2.out, HS3.out, HU0.out, HU1.out, HU2.out, HU3.out, HB.out⟩
    case round =>
      obtain ⟨k, hk, rfl, q0, q1, q2, q3, q4, q5, q6, q7, hB⟩ := hrel
      by_cases hlt : k < l3
      · have d0 := q0.cell hlt
        have d1 := q1.cell hlt
        have d2 := q2.cell hlt
        have d3 := q3.cell hlt
        have d4 := q4.cell hlt
        have d5 := q5.cell hlt
        have d6 := q6.cell hlt
        have d7 := q7.cell hlt
        have HB := hid hB
        clear hB
        go_wp2
        go_quiet (fail)
        go_wp2
        go_roundw
        case rel => exact ⟨k + 1, by omega, by go_num, q0, q1, q2, q3, q4, q5, q6, q7, ⟨HB.out.os, HB.out.tape, HB.out.output, HB.out.size, HB.out.block⟩⟩
        case measure => simp [intOf]; omega
      · go_wp2
        go_ret
        exact ⟨rfl, hB⟩

end Go.Proofs.Qxb6603807a.Mem
