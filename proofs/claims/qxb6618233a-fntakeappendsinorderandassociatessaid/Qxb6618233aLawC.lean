import Derived.Test.Qxb6618233aWalkW
import Derived.Deep.DeepCutAuto
namespace Go.Proofs.Qxb6618233a
open Go.RowKit

/-- A slice that came in and was copied if it was not nil: three of them, one law. -/
theorem copied {w wr : World} {a : Option Addr} {n : Nat} {d : Nat → Int} (h : Seq w.heap.size w a n (U d)) (hb : Below w.heap.size w wr) : Seq wr.heap.size wr a n (U d) := (h.below hb (Nat.le_refl _)).mono hb.size

theorem copiedC {w wr : World} {a : Option Addr} {n : Nat} {d : Nat → Int} (h : Seq w.heap.size w a n (U d)) (hb : Below w.heap.size w wr) : Seq wr.heap.size wr a n (U d) := copied h hb

set_option maxRecDepth 100000 in
set_option maxHeartbeats 6400000 in
theorem take_walk (a0 : Option Addr) (n0 cap0 : Nat) (d0 : Nat → Int) (a1 : Option Addr) (n1 cap1 : Nat) (d1 : Nat → Int) (a2 : Option Addr) (n2 cap2 : Nat) (d2 : Nat → Int) (w : World)
    (s0 : Seq w.heap.size w a0 n0 (U d0)) (l0 : a0 = none → n0 = 0 ∧ cap0 = 0) (m0 : n0 ≤ 9223372036854775807) (s1 : Seq w.heap.size w a1 n1 (U d1)) (l1 : a1 = none → n1 = 0 ∧ cap1 = 0) (m1 : n1 ≤ 9223372036854775807) (s2 : Seq w.heap.size w a2 n2 (U d2)) (l2 : a2 = none → n2 = 0 ∧ cap2 = 0) (m2 : n2 ≤ 9223372036854775807) :
    Calls Try.prog 5 #[.slice a0 n0 cap0, .slice a1 n1 cap1, .slice a2 n2 cap2] w fun e w' => e = .returned (.bool true) ∧ Below w.heap.size w w' := by
  have hq := fun (w : World) (a : Option Addr) (n c : Nat) => run_neq_slice_nil_any (P := Try.prog) w 27 34 a n c 0 0 Try.underlying27
  obtain ⟨i0, hi, hz0, hz1, hz2⟩ := info_parts Try.info34
  go_enter Try.func5, Try.ntmps5
  go_wp2_with fail
  refine (bytes10 a0 a1 a2 n0 cap0 n1 cap1 n2 cap2 w m0 m1 m2).mono ?_
  rintro e w' ⟨⟨b, rfl⟩, hw⟩
  subst hw
  cases b with
  | false =>
    go_wp2_with fail
    go_ret
    exact ⟨rfl, Below.refl _ _⟩
  | true =>
    by_cases c0 : 32768 < n0
    · go_wp2_with fail
      go_ret
      exact ⟨rfl, Below.refl _ _⟩
    by_cases c1 : 32768 < n1
    · go_wp2_with fail
      go_ret
      exact ⟨rfl, Below.refl _ _⟩
    by_cases c2 : 32768 < n2
    · go_wp2_with fail
      go_ret
      exact ⟨rfl, Below.refl _ _⟩
    go_upto_if 32 with fail
    go_cut [0] (fun x wr => ∃ b k, x = .slice b n0 k ∧ Seq wr.heap.size wr b n0 (U d0) ∧ Below w.heap.size w wr)
    case first =>
      cases a0 with
      | none =>
        obtain ⟨rfl, rfl⟩ := l0 rfl
        clear l0
        go_wp2_with fail
        go_meet
        exact ⟨none, 0, rfl, s0, Below.refl _ _⟩
      | some x1 =>
        clear l0
        go_wp2_with (at_make; refine wpList_make_full _ rfl _ _ 27 rfl w.heap.size 34 i0 (.int .u64 0) 1 Try.underlying27 hi hz0 hz1 _ _ _ _ n0 rfl rfl rfl rfl ?e1 ?e2 ?e3 ?_)
        case e1 => rw [hz2]; omega
        case e2 => unfold maxLen; omega
        case e3 => exact Nat.le_refl _
        intro w3 hown hgrow
        have hb3 : Below w.heap.size w w3 := (Below.refl _ _).grown hgrow (Nat.le_refl _) (fun k h => by cases h)
        have hr3 : Row w3 w.heap.size 34 n0 (U d0) 0 := row_of_owns _ hown
        have s0 := s0.below hb3 (Nat.le_refl _)
        clear hown hgrow
        go_wp2_with (refine wpList_copy_full rfl _ _ 27 rfl 34 Try.underlying27 Try.size34 w.heap.size n0 cap0 _ rfl rfl (U d0) (U d0) 0 w.heap.size hr3 s0 (u_one d0) ?_)
        intro w4 hr4 hb4
        go_wp2_with fail
        go_meet
        exact ⟨_, _, rfl, hr4.seq hr4.lt, hb3.trans hb4⟩
    case rest =>
    clear s0 l0 m0
    obtain ⟨b0, k0, rfl, s0, hb0⟩ := hcut
    obtain ⟨wa, rfl⟩ : ∃ wa, wa = wc := ⟨_, rfl⟩
    have s1 := copied s1 hb0
    have s2 := copied s2 hb0
    go_upto_if 41 with fail
    go_cut [1] (fun x wr => ∃ b k, x = .slice b n1 k ∧ Seq wr.heap.size wr b n1 (U d1) ∧ Below wa.heap.size wa wr)
    case first =>
      cases a1 with
      | none =>
        obtain ⟨rfl, rfl⟩ := l1 rfl
        clear l1
        go_wp2_with fail
        go_meet
        exact ⟨none, 0, rfl, s1, Below.refl _ _⟩
      | some x1 =>
        clear l1
        go_wp2_with (at_make; refine wpList_make_full _ rfl _ _ 27 rfl wa.heap.size 34 i0 (.int .u64 0) 1 Try.underlying27 hi hz0 hz1 _ _ _ _ n1 rfl rfl rfl rfl ?f1 ?f2 ?f3 ?_)
        case f1 => rw [hz2]; omega
        case f2 => unfold maxLen; omega
        case f3 => exact Nat.le_refl _
        intro w3 hown hgrow
        have hb3 : Below wa.heap.size wa w3 := (Below.refl _ _).grown hgrow (Nat.le_refl _) (fun k h => by cases h)
        have hr3 : Row w3 wa.heap.size 34 n1 (U d1) 0 := row_of_owns _ hown
        have s1 := s1.below hb3 (Nat.le_refl _)
        clear hown hgrow
        go_wp2_with (refine wpList_copy_full rfl _ _ 27 rfl 34 Try.underlying27 Try.size34 wa.heap.size n1 cap1 _ rfl rfl (U d1) (U d1) 0 wa.heap.size hr3 s1 (u_one d1) ?_)
        intro w4 hr4 hb4
        go_wp2_with fail
        go_meet
        exact ⟨_, _, rfl, hr4.seq hr4.lt, hb3.trans hb4⟩
    case rest =>
    clear s1 l1 m1
    obtain ⟨b1, k1, rfl, s1, hb1⟩ := hcut
    obtain ⟨wb, rfl⟩ : ∃ wb, wb = wc := ⟨_, rfl⟩
    have s0 := copied s0 hb1
    have s2 := copied s2 hb1
    have hb1 := hb0.trans (hb1.mono hb0.size)
    go_upto_if 50 with fail
    go_cut [2] (fun x wr => ∃ b k, x = .slice b n2 k ∧ Seq wr.heap.size wr b n2 (U d2) ∧ Below wb.heap.size wb wr)
    case first =>
      cases a2 with
      | none =>
        obtain ⟨rfl, rfl⟩ := l2 rfl
        clear l2
        go_wp2_with fail
        go_meet
        exact ⟨none, 0, rfl, s2, Below.refl _ _⟩
      | some x1 =>
        clear l2
        go_wp2_with (at_make; refine wpList_make_full _ rfl _ _ 27 rfl wb.heap.size 34 i0 (.int .u64 0) 1 Try.underlying27 hi hz0 hz1 _ _ _ _ n2 rfl rfl rfl rfl ?g1 ?g2 ?g3 ?_)
        case g1 => rw [hz2]; omega
        case g2 => unfold maxLen; omega
        case g3 => exact Nat.le_refl _
        intro w3 hown hgrow
        have hb3 : Below wb.heap.size wb w3 := (Below.refl _ _).grown hgrow (Nat.le_refl _) (fun k h => by cases h)
        have hr3 : Row w3 wb.heap.size 34 n2 (U d2) 0 := row_of_owns _ hown
        have s2 := s2.below hb3 (Nat.le_refl _)
        clear hown hgrow
        go_wp2_with (refine wpList_copy_full rfl _ _ 27 rfl 34 Try.underlying27 Try.size34 wb.heap.size n2 cap2 _ rfl rfl (U d2) (U d2) 0 wb.heap.size hr3 s2 (u_one d2) ?_)
        intro w4 hr4 hb4
        go_wp2_with fail
        go_meet
        exact ⟨_, _, rfl, hr4.seq hr4.lt, hb3.trans hb4⟩
    case rest =>
    clear s2 l2 m2
    obtain ⟨b2, k2, rfl, s2, hb2⟩ := hcut
    have s0 := copied s0 hb2
    have s1 := copied s1 hb2
    have hb2 := hb1.trans (hb2.mono hb1.size)
    clear hb0 hb1 hq hi hz0 hz1 hz2
    go_wp2_with fail
    refine (joined_any b0 b1 b2 n0 k0 n1 k1 n2 k2 d0 d1 d2 wc s0 s1 s2 (by omega) (by omega) (by omega)).mono ?_
    rintro e w3 ⟨aw, rfl, sw, hb3⟩
    have s0 := copied s0 hb3
    have s1 := copied s1 hb3
    have s2 := copied s2 hb3
    have hb3 := hb2.trans (hb3.mono hb2.size)
    clear hb2
    go_wp2_with fail
    refine (new_LB b0 n0 k0 d0 w3 (s0) (by omega)).mono ?_
    rintro e w4 ⟨rfl, L1, z1, y1⟩
    have c4 : Below w3.heap.size w3 w4 := y1
    go_wp2_with fail
    refine (new_LB b1 n1 k1 d1 w4 (copiedC s1 c4) (by omega)).mono ?_
    rintro e w5 ⟨rfl, L2, z2, y2⟩
    have L1 := L1.below y2 z1 (fun j hj => hj.2)
    have c5 : Below w3.heap.size w3 w5 := c4.trans (y2.mono c4.size)
    go_wp2_with fail
    refine (new_LB b2 n2 k2 d2 w5 (copiedC s2 c5) (by omega)).mono ?_
    rintro e w6 ⟨rfl, L3, z3, y3⟩
    have L1 := L1.below y3 (by omega) (fun j hj => by have := hj.2; omega)
    have L2 := L2.below y3 z2 (fun j hj => hj.2)
    have c6 : Below w3.heap.size w3 w6 := c5.trans (y3.mono c5.size)
    clear y1 y2 y3 c4 c5
    go_wp2_with fail
    refine (take_LB w3.heap.size w4.heap.size n0 n1 d0 d1 _ _ w6 L1 L2 (by omega) (by omega) (by omega) (fun j h1 h2 => by have := h1.2; have := h2.1; omega)).mono ?_
    rintro e w7 ⟨rfl, M1, M2, x7⟩
    have c7 : Below w3.heap.size w3 w7 := c6.trans (x7.below (fun j hj => ⟨by omega, by omega, fun h => by have := h.1; omega⟩))
    have L3 := L3.kept x7 ⟨by omega, by omega, fun h => by have := h.2; omega⟩ (fun j hj => ⟨by have := hj.1; omega, by have := hj.1; omega, fun h => by have := h.2; have := hj.1; omega⟩)
    have z7 : w6.heap.size ≤ w7.heap.size := by rw [x7.size]; exact Nat.le_refl _
    clear L1 L2 x7 c6
    go_wp2_with fail
    refine (take_LB w3.heap.size w5.heap.size (n0 + n1) n2 (catF d0 d1 n0) d2 _ _ w7 M1 L3 (by omega) (by omega) (by omega) (fun j h1 h2 => by have := h2.1; rcases h1 with h | h <;> (have := h.2; omega))).mono ?_
    rintro e w8 ⟨rfl, N1, N3, x8⟩
    have c8 : Below w3.heap.size w3 w8 := c7.trans (x8.below (fun j hj => ⟨by omega, by omega, fun h => by rcases h with h | h <;> (have := h.1; omega)⟩))
    have N2 := M2.kept x8 ⟨by omega, by omega, fun h => by rcases h with h | h <;> (have := h.1; have := h.2; omega)⟩ (fun j hj => hj.elim)
    have z8 : w7.heap.size ≤ w8.heap.size := by rw [x8.size]; exact Nat.le_refl _
    clear M1 M2 L3 x8 c7
    go_wp2_with fail
    refine (new_LB b0 n0 k0 d0 w8 (copiedC s0 c8) (by omega)).mono ?_
    rintro e w9 ⟨rfl, L4, z4, y4⟩
    have N1 := N1.below y4 (by omega) (fun j hj => by rcases hj with (h | h) | h <;> (have := h.2; omega))
    have N2 := N2.below y4 (by omega) (fun j hj => hj.elim)
    have N3 := N3.below y4 (by omega) (fun j hj => hj.elim)
    have c9 : Below w3.heap.size w3 w9 := c8.trans (y4.mono c8.size)
    go_wp2_with fail
    refine (new_LB b1 n1 k1 d1 w9 (copiedC s1 c9) (by omega)).mono ?_
    rintro e w10 ⟨rfl, L5, z5, y5⟩
    have N1 := N1.below y5 (by omega) (fun j hj => by rcases hj with (h | h) | h <;> (have := h.2; omega))
    have N2 := N2.below y5 (by omega) (fun j hj => hj.elim)
    have N3 := N3.below y5 (by omega) (fun j hj => hj.elim)
    have L4 := L4.below y5 z4 (fun j hj => hj.2)
    have c10 : Below w3.heap.size w3 w10 := c9.trans (y5.mono c9.size)
    go_wp2_with fail
    refine (new_LB b2 n2 k2 d2 w10 (copiedC s2 c10) (by omega)).mono ?_
    rintro e w11 ⟨rfl, L6, z6, y6⟩
    have N1 := N1.below y6 (by omega) (fun j hj => by rcases hj with (h | h) | h <;> (have := h.2; omega))
    have N2 := N2.below y6 (by omega) (fun j hj => hj.elim)
    have N3 := N3.below y6 (by omega) (fun j hj => hj.elim)
    have L4 := L4.below y6 (by omega) (fun j hj => by have := hj.2; omega)
    have L5 := L5.below y6 z5 (fun j hj => hj.2)
    have c11 : Below w3.heap.size w3 w11 := c10.trans (y6.mono c10.size)
    clear y4 y5 y6 c8 c9 c10 s0 s1 s2
    go_wp2_with fail
    refine (take_LB w9.heap.size w10.heap.size n1 n2 d1 d2 _ _ w11 L5 L6 (by omega) (by omega) (by omega) (fun j h1 h2 => by have := h1.2; have := h2.1; omega)).mono ?_
    rintro e w12 ⟨rfl, M5, M6, x12⟩
    have c12 : Below w3.heap.size w3 w12 := c11.trans (x12.below (fun j hj => ⟨by omega, by omega, fun h => by have := h.1; omega⟩))
    have N1 := N1.kept x12 ⟨by omega, by omega, fun h => by have := h.1; omega⟩ (fun j hj => ⟨by rcases hj with (h | h) | h <;> (have := h.2; omega), by rcases hj with (h | h) | h <;> (have := h.2; omega), fun g => by have := g.1; rcases hj with (h | h) | h <;> (have := h.2; omega)⟩)
    have N2 := N2.kept x12 ⟨by omega, by omega, fun h => by have := h.1; omega⟩ (fun j hj => hj.elim)
    have N3 := N3.kept x12 ⟨by omega, by omega, fun h => by have := h.1; omega⟩ (fun j hj => hj.elim)
    have L4 := L4.kept x12 ⟨by omega, by omega, fun h => by have := h.1; omega⟩ (fun j hj => ⟨by have := hj.2; omega, by have := hj.2; omega, fun h => by have := h.1; have := hj.2; omega⟩)
    have z12 : w11.heap.size ≤ w12.heap.size := by rw [x12.size]; exact Nat.le_refl _
    clear L5 L6 x12 c11
    go_wp2_with fail
    refine (take_LB w8.heap.size w9.heap.size n0 (n1 + n2) d0 (catF d1 d2 n1) _ _ w12 L4 M5 (by omega) (by omega) (by omega) (fun j h1 h2 => by have := h1.2; rcases h2 with h | h <;> (have := h.1; omega))).mono ?_
    rintro e w13 ⟨rfl, N4, N5, x13⟩
    have c13 : Below w3.heap.size w3 w13 := c12.trans (x13.below (fun j hj => ⟨by omega, by omega, fun h => by have := h.1; omega⟩))
    have N1 := N1.kept x13 ⟨by omega, by omega, fun h => by have := h.1; omega⟩ (fun j hj => ⟨by rcases hj with (h | h) | h <;> (have := h.2; omega), by rcases hj with (h | h) | h <;> (have := h.2; omega), fun g => by have := g.1; rcases hj with (h | h) | h <;> (have := h.2; omega)⟩)
    have N2 := N2.kept x13 ⟨by omega, by omega, fun h => by have := h.1; omega⟩ (fun j hj => hj.elim)
    have N3 := N3.kept x13 ⟨by omega, by omega, fun h => by have := h.1; omega⟩ (fun j hj => hj.elim)
    have N6 := M6.kept x13 ⟨by omega, by omega, fun h => by have := h.2; omega⟩ (fun j hj => hj.elim)
    have z13 : w12.heap.size ≤ w13.heap.size := by rw [x13.size]; exact Nat.le_refl _
    clear M5 M6 L4 x13 c12
    have N1 := N1.congr (fun i _ => cat3_left d0 d1 d2 n0 n1 i)
    have N4 := (N4.congr (fun i _ => cat3_right d0 d1 d2 n0 n1 i))
    rw [← Nat.add_assoc] at N4
    go_wp2_with fail
    refine (reads_LB w3.heap.size (n0 + n1 + n2) (n0 + n1 + n2) aw (cat3 d0 d1 d2 n0 n1) _ w13 N1 (by omega) (fun j hj => by rcases hj with (h | h) | h <;> (have := h.2; omega)) (by omega) (copiedC sw c13)).mono ?_
    rintro e w14 ⟨rfl, y14⟩
    have N4 := N4.below y14 (by omega) (fun j hj => by rcases hj with h | h | h <;> (have := h.2; omega))
    have N2 := N2.below y14 (by omega) (fun j hj => hj.elim)
    have N3 := N3.below y14 (by omega) (fun j hj => hj.elim)
    have N5 := N5.below y14 (by omega) (fun j hj => hj.elim)
    have N6 := N6.below y14 (by omega) (fun j hj => hj.elim)
    have c14 : Below w3.heap.size w3 w14 := c13.trans (y14.mono c13.size)
    have z14 := y14.size
    clear y14 N1 c13
    go_wp2_with fail
    refine (reads_LB w8.heap.size (n0 + n1 + n2) (n0 + n1 + n2) aw (cat3 d0 d1 d2 n0 n1) _ w14 N4 (by omega) (fun j hj => by rcases hj with h | h | h <;> (have := h.2; omega)) (by omega) (copiedC sw c14)).mono ?_
    rintro e w15 ⟨rfl, y15⟩
    have N2 := N2.below y15 (by omega) (fun j hj => hj.elim)
    have N3 := N3.below y15 (by omega) (fun j hj => hj.elim)
    have N5 := N5.below y15 (by omega) (fun j hj => hj.elim)
    have N6 := N6.below y15 (by omega) (fun j hj => hj.elim)
    have c15 : Below w3.heap.size w3 w15 := c14.trans (y15.mono c14.size)
    have z15 := y15.size
    clear y15 N4 c14
    go_wp2_with fail
    refine (reads_LB w4.heap.size 0 0 none _ _ w15 N2 (by omega) (fun j hj => hj.elim) (by omega) (fun h => by omega)).mono ?_
    rintro e w16 ⟨rfl, y16⟩
    have N3 := N3.below y16 (by omega) (fun j hj => hj.elim)
    have N5 := N5.below y16 (by omega) (fun j hj => hj.elim)
    have N6 := N6.below y16 (by omega) (fun j hj => hj.elim)
    have c16 : Below w3.heap.size w3 w16 := c15.trans (y16.mono c15.size)
    have z16 := y16.size
    clear y16 N2 c15
    go_wp2_with fail
    refine (reads_LB w5.heap.size 0 0 none _ _ w16 N3 (by omega) (fun j hj => hj.elim) (by omega) (fun h => by omega)).mono ?_
    rintro e w17 ⟨rfl, y17⟩
    have N5 := N5.below y17 (by omega) (fun j hj => hj.elim)
    have N6 := N6.below y17 (by omega) (fun j hj => hj.elim)
    have c17 : Below w3.heap.size w3 w17 := c16.trans (y17.mono c16.size)
    have z17 := y17.size
    clear y17 N3 c16
    go_wp2_with fail
    refine (reads_LB w9.heap.size 0 0 none _ _ w17 N5 (by omega) (fun j hj => hj.elim) (by omega) (fun h => by omega)).mono ?_
    rintro e w18 ⟨rfl, y18⟩
    have N6 := N6.below y18 (by omega) (fun j hj => hj.elim)
    have c18 : Below w3.heap.size w3 w18 := c17.trans (y18.mono c17.size)
    have z18 := y18.size
    clear y18 N5 c17
    go_wp2_with fail
    refine (reads_LB w10.heap.size 0 0 none _ _ w18 N6 (by omega) (fun j hj => hj.elim) (by omega) (fun h => by omega)).mono ?_
    rintro e w19 ⟨rfl, y19⟩
    have c19 : Below w3.heap.size w3 w19 := c18.trans (y19.mono c18.size)
    have z19 := y19.size
    clear y19 N6 c18
    go_wp2_with fail
    go_ret
    exact ⟨rfl, hb3.trans (c19.mono hb3.size)⟩
end Go.Proofs.Qxb6618233a
