/-
  FnInYearOrderIsStableSortByYear: the walk.
-/
import Derived.Test.Qxb6603807aStable
namespace Go.Proofs.Qxb6603807a.Mem
open Go.ChangeShapes Go.WideShapes Go.ChangeAt Go.RowKit
open Go.Proofs.Qxb6603807a.Rank
open Go.Proofs.Qxb6603807a.Merge

theorem stable_sorted {n : Nat} {f0 f1 f2 f3 g0 g1 g2 g3 : Nat → Int} {ix : Nat → Nat} (h : Sorted4 n f0 f1 f2 f3 g0 g1 g2 g3) (hix : RunAt f0 ix 0 n) :
    ∀ i, i < n → g0 i = f0 (ix i) ∧ g1 i = f1 (ix i) ∧ g2 i = f2 (ix i) ∧ g3 i = f3 (ix i) := by
  intro i hi
  have hr : rank n f0 (ix i) = i := enum_rank (n := n) (lt := lx f0) (e := ix) (fun k hk => (hix k (Nat.zero_le _) hk).2.1) (fun a _ => lx_irr f0 a) (fun a b c _ _ _ => lx_tr f0 a b c)
    (fun k l hkl hl => (hix k (Nat.zero_le _) (by omega)).2.2 l hkl hl) i hi
  have := h (ix i) (hix i (Nat.zero_le _) hi).2.1
  rw [hr] at this
  exact this

set_option maxHeartbeats 1600000 in
set_option maxRecDepth 10000 in
theorem stab_walk (a0 a1 a2 a3 : Option Addr) (l0 c0 l1 c1 l2 c2 l3 c3 : Nat) (f0 f1 f2 f3 : Nat → Int) (w : World)
    (v0 : View w a0 l0 f0) (v1 : View w a1 l1 f1) (v2 : View w a2 l2 f2) (v3 : View w a3 l3 f3) :
    Calls Try.prog 3 #[.slice a0 l0 c0, .slice a1 l1 c1, .slice a2 l2 c2, .slice a3 l3 c3] w fun e w' => e = .returned (.bool true) ∧ Below w.heap.size w w' := by
  go_enter Try.func3, Try.ntmps3
  go_wp2_with fail
  refine (bytes8 a0 a1 a2 a3 l0 c0 l1 c1 l2 c2 l3 c3 w).mono ?_
  rintro e w' ⟨⟨r, rfl⟩, rfl⟩
  cases r
  · go_wp2
    go_ret
    exact ⟨rfl, Below.refl _ _⟩
  by_cases g0 : 32768 < l0
  · go_wp2
    go_ret
    exact ⟨rfl, Below.refl _ _⟩
  by_cases g1 : 32768 < l1
  · go_wp2
    go_ret
    exact ⟨rfl, Below.refl _ _⟩
  by_cases g2 : 32768 < l2
  · go_wp2
    go_ret
    exact ⟨rfl, Below.refl _ _⟩
  by_cases g3 : 32768 < l3
  · go_wp2
    go_ret
    exact ⟨rfl, Below.refl _ _⟩
  by_cases e1 : l1 = l0
  rotate_left
  · have n1 : ((l1 : Int) != (l0 : Int)) = true := by simp; omega
    go_wp2
    go_ret
    exact ⟨rfl, Below.refl _ _⟩
  subst e1
  by_cases e2 : l2 = l1
  rotate_left
  · have n1 : ((l2 : Int) != (l1 : Int)) = true := by simp; omega
    go_wp2
    go_ret
    exact ⟨rfl, Below.refl _ _⟩
  subst e2
  by_cases e3 : l3 = l2
  rotate_left
  · have n1 : ((l3 : Int) != (l2 : Int)) = true := by simp; omega
    go_wp2
    go_ret
    exact ⟨rfl, Below.refl _ _⟩
  subst e3
  by_cases hz : l3 = 0
  · subst hz
    clear v0 v1 v2 v3
    go_wp2_with fail
    refine (span_zero a0 c0 w').mono ?_
    rintro e w1 ⟨rfl, rfl⟩
    go_wp2_with fail
    refine (copy22_zero a0 c0 w1).mono ?_
    rintro e w2 ⟨⟨p0, q0, rfl⟩, b2⟩
    go_wp2_with fail
    refine (copy22_zero a1 c1 w2).mono ?_
    rintro e w3 ⟨⟨p1, q1, rfl⟩, b3⟩
    go_wp2_with fail
    refine (copy23_zero a2 c2 w3).mono ?_
    rintro e w4 ⟨⟨p2, q2, rfl⟩, b4⟩
    go_wp2_with fail
    refine (copy23_zero a3 c3 w4).mono ?_
    rintro e w5 ⟨⟨p3, q3, rfl⟩, b5⟩
    go_wp2_with fail
    refine (zz_zero p0 p1 p2 p3 q0 q1 q2 q3 w5).mono ?_
    rintro e w6 ⟨⟨d0, d1, d2, d3, k0, k1, k2, k3, rfl⟩, b6⟩
    go_wp2_with fail
    refine (stable_zero p0 q0 w6).mono ?_
    rintro e w7 ⟨⟨y0, z0, rfl⟩, b7⟩
    have HB := hid (bthen b2 (bthen b3 (bthen b4 (bthen b5 (bthen b6 b7)))))
    clear b2 b3 b4 b5 b6 b7
    go_wp2
    refine wp_loop_rounds 1 ?_
    rw [rounds_succ]
    go_wp2
    go_ret
    exact ⟨rfl, HB.out⟩
  · obtain ⟨x0, o0, rfl, hx0, hc0, hbd⟩ := v0 (by omega)
    obtain ⟨x1, o1, rfl, hx1, hc1, -⟩ := v1 (by omega)
    obtain ⟨x2, o2, rfl, hx2, hc2, -⟩ := v2 (by omega)
    obtain ⟨x3, o3, rfl, hx3, hc3, -⟩ := v3 (by omega)
    clear v0 v1 v2 v3
    go_wp2_with fail
    refine (span_pos x0 o0 l3 c0 f0 w' (by omega) (by omega) hc0 hbd).mono ?_
    rintro e w1 ⟨⟨r, rfl, hsp⟩, rfl⟩
    cases r
    · go_wp2
      go_ret
      exact ⟨rfl, Below.refl _ _⟩
    have HSP := hid (hsp rfl)
    clear hsp
    go_wp2_with fail
    refine (copy22_pos x0 o0 l3 c0 f0 w1 (by omega) (by omega) hx0 hc0).mono ?_
    rintro e w2 ⟨rfl, r0, b2, -⟩
    go_wp2_with fail
    refine (copy22_pos x1 o1 l3 c1 f1 w2 (by omega) (by omega) (by have := b2.size; omega) (fun i hi => (b2.cell (p := ⟨x1, o1 + i, none⟩) hx1).trans (hc1 i hi))).mono ?_
    rintro e w3 ⟨rfl, r1, b3, -⟩
    have b13 := bthen b2 b3
    go_wp2_with fail
    refine (copy23_pos x2 o2 l3 c2 f2 w3 (by omega) (by omega) (by have := b13.size; omega) (fun i hi => (b13.cell (p := ⟨x2, o2 + i, none⟩) hx2).trans (hc2 i hi))).mono ?_
    rintro e w4 ⟨rfl, r2, b4, -⟩
    have b14 := bthen b13 b4
    go_wp2_with fail
    refine (copy23_pos x3 o3 l3 c3 f3 w4 (by omega) (by omega) (by have := b14.size; omega) (fun i hi => (b14.cell (p := ⟨x3, o3 + i, none⟩) hx3).trans (hc3 i hi))).mono ?_
    rintro e w5 ⟨rfl, r3, b5, -⟩
    have b15 := bthen b14 b5
    have s0 : Row w5 w1.heap.size 3 l3 f0 := r0.below (bthen b3 (bthen b4 b5)) r0.lt
    have s1 : Row w5 w2.heap.size 3 l3 f1 := r1.below (bthen b4 b5) r1.lt
    have s2 : Row w5 w3.heap.size 2 l3 f2 := r2.below b5 r2.lt
    clear r0 r1 r2 b2 b3 b13 b4 b14 b5 hc0 hc1 hc2 hc3
    go_wp2_with fail
    refine (zz_pos w1.heap.size 0 l3 w2.heap.size 0 l3 w3.heap.size 0 l3 w4.heap.size 0 l3 l3 f0 f1 f2 f3 w5 (by omega) (by omega) s0.lt s1.lt s2.lt r3.lt s0.at0 s1.at0 s2.at0 r3.at0 hbd HSP.out).mono ?_
    rintro e w6 ⟨g0, g1, g2, g3, hso, P0, P1, P2, P3, rfl, -, -, -, -, t0, t1, t2, t3, b6⟩
    go_wp2_with fail
    refine (stable_pos w1.heap.size l3 f0 w6 (by omega) (by omega) (s0.below b6 s0.lt)).mono ?_
    rintro e w7 ⟨I, ix, rfl, -, hix, u0, b7⟩
    have hix2 := hid (fun k hk => (hix k (Nat.zero_le _) hk).2.1)
    have he := stable_sorted hso hix
    have HI := hid u0
    have HS0 := hid ((t0.congr (fun i hi => (he i hi).1)).below b7 t0.lt)
    have HS1 := hid ((t1.congr (fun i hi => (he i hi).2.1)).below b7 t1.lt)
    have HS2 := hid ((t2.congr (fun i hi => (he i hi).2.2.1)).below b7 t2.lt)
    have HS3 := hid ((t3.congr (fun i hi => (he i hi).2.2.2)).below b7 t3.lt)
    have HU0 := hid (s0.below (bthen b6 b7) s0.lt)
    have HU1 := hid (s1.below (bthen b6 b7) s1.lt)
    have HU2 := hid (s2.below (bthen b6 b7) s2.lt)
    have HU3 := hid (r3.below (bthen b6 b7) r3.lt)
    have HB := hid (bthen b15 (bthen b6 b7))
    clear t0 t1 t2 t3 s0 s1 s2 r3 b15 b6 b7 he hso hbd hix u0
    go_wp2
    go_loopw [15] (fun i wr => ∃ k : Nat, k ≤ l3 ∧ i = .int .i64 k ∧ RowN wr I l3 ix ∧ Row wr P0 3 l3 (fun k => f0 (ix k)) ∧ Row wr P1 3 l3 (fun k => f1 (ix k)) ∧ Row wr P2 2 l3 (fun k => f2 (ix k)) ∧ Row wr P3 2 l3 (fun k => f3 (ix k)) ∧ Row wr w1.heap.size 3 l3 f0 ∧ Row wr w2.heap.size 3 l3 f1 ∧ Row wr w3.heap.size 2 l3 f2 ∧ Row wr w4.heap.size 2 l3 f3 ∧ Below w1.heap.size w1 wr) (fun i _ => l3 - (intOf i).toNat)
    case atStart => exact ⟨0, by omega, rfl, HI.out, HS0.out, HS1.out, HS2.out, HS3.out, HU0.out, HU1.out, HU2.out, HU3.out, HB.out⟩
    case round =>
      clear HI HS0 HS1 HS2 HS3 HU0 HU1 HU2 HU3 HB
      obtain ⟨k, hk, rfl, qi, q0, q1, q2, q3, q4, q5, q6, q7, hB⟩ := hrel
      by_cases hlt : k < l3
      · have hxk := hix2.out k hlt
        have di := qi.cell hlt
        have d0 := q0.cell hlt
        have d1 := q1.cell hlt
        have d2 := q2.cell hlt
        have d3 := q3.cell hlt
        have d4 := q4.cell (i := ix k) hxk
        have d5 := q5.cell (i := ix k) hxk
        have d6 := q6.cell (i := ix k) hxk
        have d7 := q7.cell (i := ix k) hxk
        have HB := hid hB
        clear hB
        go_wp2
        go_quiet (fail)
        go_wp2
        go_roundw
        case rel => exact ⟨k + 1, by omega, by go_num, qi, q0, q1, q2, q3, q4, q5, q6, q7, ⟨HB.out.os, HB.out.tape, HB.out.output, HB.out.size, HB.out.block⟩⟩
        case measure => simp [intOf]; omega
      · go_wp2
        go_ret
        exact ⟨rfl, hB⟩

end Go.Proofs.Qxb6603807a.Mem
