import Derived.Test.Qxb6618333aWalkB
import Derived.Deep.DeepCutAuto
import Derived.Deep.RegionHeld3
import Derived.Deep.DrawnRows
namespace Go.Proofs.Qxb6618333a
open Go.RowKit
attribute [local go_sem ↓] Go.wp_at_zero Go.wp_at_succ

theorem Jn.below {w w' : World} {J g n C : Nat} {d0 d1 : Nat → Int} (h : Jn w J g n d0 d1) (hb : Below C w w') (hJ : J < C) (hg : g < C) : Jn w' J g n d0 d1 :=
  ⟨(hb.cell (p := ⟨J, 7, none⟩) hJ).trans h.pieces, h.row.below hb hg⟩

theorem copied {w wr : World} {a : Option Addr} {n : Nat} {d : Nat → Int} (h : Seq w.heap.size w a n (In d)) (hb : Below w.heap.size w wr) : Seq wr.heap.size wr a n (In d) := (h.below hb (Nat.le_refl _)).mono hb.size

theorem Row.other {w : World} {g : Nat} {e : TypeId} {n : Nat} {f : Nat → Value} {k : Nat} (h : Row w g e n f k) {b i : Nat} (hb : g ≠ b) (u : Value) : Row (w.setCell ⟨b, i, none⟩ u) g e n f k :=
  h.same (Below.heap_setCell w ⟨b, i, none⟩ u g hb)

theorem wrap_ok (x : Int) (h : -9223372036854775808 ≤ x ∧ x ≤ 9223372036854775807) : IntKind.i64.wrap x = x := by
  rw [IntKind.wrap_i64]
  omega

/-- What the law comes to: the two answers of Source, at any later world. -/
theorem source_at {J g n k C : Nat} {d0 d1 : Nat → Int} {x r : Int} {wz : World} (h : Jn wz J g n d0 d1) (hJ : J < C) (hg : g < C) (hC : C ≤ wz.heap.size) (hn : 0 < n) (hnn : n ≤ 1048576) (hk : Plain.Sel d0 n x k)
    (hb0 : ∀ i, i < n → -2305843009213693952 ≤ d0 i ∧ d0 i ≤ 2305843009213693952) (hb1 : ∀ i, i < n → -2305843009213693952 ≤ d1 i ∧ d1 i ≤ 2305843009213693952) (hx : -2305843009213693952 ≤ x ∧ x ≤ 2305843009213693952) (hr : d1 k + x - d0 k = r)
    (wx : World) (hb : Below C wz wx) : Calls Try.prog 9 #[.pointer (some ⟨J, 0, none⟩), .int .i64 x] wx fun e w' => e = .returned (.int .i64 r) ∧ Below C wz w' := by
  have hs := hb.size
  refine (source_is J g n k d0 d1 x r wx (h.below hb hJ hg) (by omega) hn hnn hk hb0 hb1 hx hr).mono fun e w' hh => ⟨hh.1, hb.trans (hh.2.mono (by omega))⟩

set_option maxRecDepth 100000 in
set_option maxHeartbeats 6400000 in
theorem law_walk (a0 : Option Addr) (n0 cap0 : Nat) (d0 : Nat → Int) (a1 : Option Addr) (n1 cap1 : Nat) (d1 : Nat → Int) (xi xc xd xe : Int) (w : World)
    (s0 : Seq w.heap.size w a0 n0 (In d0)) (l0 : a0 = none → n0 = 0 ∧ cap0 = 0) (m0 : n0 ≤ 9223372036854775807) (s1 : Seq w.heap.size w a1 n1 (In d1)) (l1 : a1 = none → n1 = 0 ∧ cap1 = 0) (m1 : n1 ≤ 9223372036854775807)
    (_bi : -9223372036854775808 ≤ xi ∧ xi ≤ 9223372036854775807) (_bc : -9223372036854775808 ≤ xc ∧ xc ≤ 9223372036854775807) (_bd : -9223372036854775808 ≤ xd ∧ xd ≤ 9223372036854775807) (_be : -9223372036854775808 ≤ xe ∧ xe ≤ 9223372036854775807) :
    Calls Try.prog 4 #[.slice a0 n0 cap0, .slice a1 n1 cap1, .int .i64 xi, .int .i64 xc, .int .i64 xd, .int .i64 xe] w fun e w' => e = .returned (.bool true) ∧ Below w.heap.size w w' := by
  have hq := fun (w : World) (a : Option Addr) (n c : Nat) => run_neq_slice_nil_any (P := Try.prog) w 22 3 a n c 0 0 Try.underlying22
  obtain ⟨i0, hi, hz0, hz1, hz2⟩ := info_parts Try.info3
  go_enter Try.func4, Try.ntmps4
  go_wp2_with fail
  refine (bytes10 a0 a1 n0 cap0 n1 cap1 xi xc xd xe w m0 m1).mono ?_
  rintro e w' ⟨⟨b, rfl⟩, hw⟩
  subst hw
  cases b with
  | false =>
    go_wp2_with fail
    go_ret
    exact ⟨rfl, Below.refl _ _⟩
  | true =>
    by_cases c0 : 65536 < n0
    · go_wp2_with fail
      go_ret
      exact ⟨rfl, Below.refl _ _⟩
    by_cases c1 : 65536 < n1
    · go_wp2_with fail
      go_ret
      exact ⟨rfl, Below.refl _ _⟩
    go_upto_if 42 with fail
    go_cut [0] (fun x wr => ∃ b k, x = .slice b n0 k ∧ Seq wr.heap.size wr b n0 (In d0) ∧ Below w.heap.size w wr)
    case first =>
      cases a0 with
      | none =>
        obtain ⟨rfl, rfl⟩ := l0 rfl
        clear l0
        go_wp2_with fail
        go_meet
        exact ⟨none, 0, rfl, s0, Below.refl _ _⟩
      | some x1 =>
        clear l0
        go_wp2_with (at_make; refine wpList_make_full _ rfl _ _ 22 rfl w.heap.size 3 i0 (.int .i64 0) 1 Try.underlying22 hi hz0 hz1 _ _ _ _ n0 rfl rfl rfl rfl ?e1 ?e2 ?e3 ?_)
        case e1 => rw [hz2]; omega
        case e2 => unfold maxLen; omega
        case e3 => exact Nat.le_refl _
        intro w3 hown hgrow
        have hb3 : Below w.heap.size w w3 := (Below.refl _ _).grown hgrow (Nat.le_refl _) (fun k h => by cases h)
        have hr3 : Row w3 w.heap.size 3 n0 (In d0) 0 := row_of_owns _ hown
        have s0 := s0.below hb3 (Nat.le_refl _)
        clear hown hgrow
        go_wp2_with (refine wpList_copy_full rfl _ _ 22 rfl 3 Try.underlying22 Try.size3 w.heap.size n0 cap0 _ rfl rfl (In d0) (In d0) 0 w.heap.size hr3 s0 (in_one d0) ?_)
        intro w4 hr4 hb4
        go_wp2_with fail
        go_meet
        exact ⟨_, _, rfl, hr4.seq hr4.lt, hb3.trans hb4⟩
    case rest =>
    clear s0 l0 m0
    obtain ⟨b0, k0, rfl, s0, hb0⟩ := hcut
    obtain ⟨wa, rfl⟩ : ∃ wa, wa = wc := ⟨_, rfl⟩
    have s1 := copied s1 hb0
    go_upto_if 51 with fail
    go_cut [1] (fun x wr => ∃ b k, x = .slice b n1 k ∧ Seq wr.heap.size wr b n1 (In d1) ∧ Below wa.heap.size wa wr)
    case first =>
      cases a1 with
      | none =>
        obtain ⟨rfl, rfl⟩ := l1 rfl
        clear l1
        go_wp2_with fail
        go_meet
        exact ⟨none, 0, rfl, s1, Below.refl _ _⟩
      | some x1 =>
        clear l1
        go_wp2_with (at_make; refine wpList_make_full _ rfl _ _ 22 rfl wa.heap.size 3 i0 (.int .i64 0) 1 Try.underlying22 hi hz0 hz1 _ _ _ _ n1 rfl rfl rfl rfl ?f1 ?f2 ?f3 ?_)
        case f1 => rw [hz2]; omega
        case f2 => unfold maxLen; omega
        case f3 => exact Nat.le_refl _
        intro w3 hown hgrow
        have hb3 : Below wa.heap.size wa w3 := (Below.refl _ _).grown hgrow (Nat.le_refl _) (fun k h => by cases h)
        have hr3 : Row w3 wa.heap.size 3 n1 (In d1) 0 := row_of_owns _ hown
        have s1 := s1.below hb3 (Nat.le_refl _)
        clear hown hgrow
        go_wp2_with (refine wpList_copy_full rfl _ _ 22 rfl 3 Try.underlying22 Try.size3 wa.heap.size n1 cap1 _ rfl rfl (In d1) (In d1) 0 wa.heap.size hr3 s1 (in_one d1) ?_)
        intro w4 hr4 hb4
        go_wp2_with fail
        go_meet
        exact ⟨_, _, rfl, hr4.seq hr4.lt, hb3.trans hb4⟩
    case rest =>
    clear s1 l1 m1 hq
    obtain ⟨b1, k1, rfl, s1, hb1⟩ := hcut
    obtain ⟨wb, rfl⟩ : ∃ wb, wb = wc := ⟨_, rfl⟩
    have s0 := copied s0 hb1
    have hb1 := hb0.trans (hb1.mono hb0.size)
    clear hb0
    by_cases hn0 : n0 = 0
    · have e0 : ((n0 : Int) == 0) = true := by simp [hn0]
      clear hn0
      go_wp2_with fail
      go_ret
      exact ⟨rfl, hb1⟩
    have e0 : ((n0 : Int) == 0) = false := by simp [hn0]
    have hnp : 0 < n0 := by omega
    clear hn0
    by_cases hne : n1 = n0
    rotate_left
    · have e1 : ((n1 : Int) != (n0 : Int)) = true := by simp; omega
      clear hne
      go_wp2_with fail
      go_ret
      exact ⟨rfl, hb1⟩
    subst hne
    have e1 : ((n1 : Int) != (n1 : Int)) = false := by simp
    go_wp2_with fail
    refine (inRange_any b0 n1 k0 0 1152921504606846975 d0 wb s0 (by omega)).mono ?_
    rintro e w' ⟨⟨r, rfl, hr0⟩, hw⟩
    subst hw
    cases r with
    | false =>
      go_wp2_with fail
      go_ret
      exact ⟨rfl, hb1⟩
    | true =>
    have R0 := hide (hr0 rfl)
    clear hr0
    go_wp2_with fail
    refine (inRange_any b1 n1 k1 0 1152921504606846975 d1 wb s1 (by omega)).mono ?_
    rintro e w' ⟨⟨r, rfl, hr1⟩, hw⟩
    subst hw
    cases r with
    | false =>
      go_wp2_with fail
      go_ret
      exact ⟨rfl, hb1⟩
    | true =>
    have R1 := hide (hr1 rfl)
    clear hr1
    by_cases t1 : xi < 0
    · go_wp2_with fail
      go_ret
      exact ⟨rfl, hb1⟩
    by_cases t2 : 1152921504606846975 < xi
    · go_wp2_with fail
      go_ret
      exact ⟨rfl, hb1⟩
    by_cases t3 : xe < 0
    · go_wp2_with fail
      go_ret
      exact ⟨rfl, hb1⟩
    by_cases t4 : 1152921504606846975 < xe
    · go_wp2_with fail
      go_ret
      exact ⟨rfl, hb1⟩
    by_cases t5 : xc < -1152921504606846975
    · go_wp2_with fail
      go_ret
      exact ⟨rfl, hb1⟩
    by_cases t6 : 1152921504606846975 < xc
    · go_wp2_with fail
      go_ret
      exact ⟨rfl, hb1⟩
    by_cases t7 : xd < -1152921504606846975
    · go_wp2_with fail
      go_ret
      exact ⟨rfl, hb1⟩
    by_cases t8 : 1152921504606846975 < xd
    · go_wp2_with fail
      go_ret
      exact ⟨rfl, hb1⟩
    clear _bi _bc _bd _be
    go_wp2_with fail
    refine (joined_any b0 b1 n1 k0 k1 d0 d1 wb s0 s1 (by omega)).mono ?_
    rintro e w4 ⟨J, rfl, j1, hJ1, hJ2, hb4⟩
    have s0 := copied s0 hb4
    have s1 := copied s1 hb4
    have hb4 := hb1.trans (hb4.mono hb1.size)
    clear hb1
    go_wp2_with (at_make; refine wpList_make_full _ rfl _ _ 22 rfl w4.heap.size 3 i0 (.int .i64 0) 1 Try.underlying22 hi hz0 hz1 _ _ _ _ n1 rfl rfl rfl rfl ?g1 ?g2 ?g3 ?_)
    case g1 => rw [hz2]; omega
    case g2 => unfold maxLen; omega
    case g3 => exact Nat.le_refl _
    intro w5 hown hgrow
    have hb5 : Below w4.heap.size w4 w5 := (Below.refl _ _).grown hgrow (Nat.le_refl _) (fun k h => by cases h)
    have hr5 : Row w5 w4.heap.size 3 n1 (In (fun i => d0 i + xc)) 0 := row_of_owns _ hown
    have h45 := hr5.lt
    clear hown hgrow
    go_wp2_with (at_make; refine wpList_make_full _ rfl _ _ 22 rfl w5.heap.size 3 i0 (.int .i64 0) 1 Try.underlying22 hi hz0 hz1 _ _ _ _ n1 rfl rfl rfl rfl ?h1 ?h2 ?h3 ?_)
    case h1 => rw [hz2]; omega
    case h2 => unfold maxLen; omega
    case h3 => exact Nat.le_refl _
    intro w6 hown hgrow
    have hb6 : Below w5.heap.size w5 w6 := (Below.refl _ _).grown hgrow (Nat.le_refl _) (fun k h => by cases h)
    have hr6 : Row w6 w5.heap.size 3 n1 (In (fun i => d1 i + xd)) 0 := row_of_owns _ hown
    have hr5 := hr5.below hb6 h45
    have hb6 := hb5.trans (hb6.mono hb5.size)
    clear hown hgrow hb5 hi hz0 hz1 hz2
    go_wp2_with fail
    go_loopg [19] n1 (fun k i wr => ∃ p : Nat, p + k = n1 ∧ i = .int .i64 p ∧ Row wr w4.heap.size 3 n1 (In (fun i => d0 i + xc)) p ∧ Row wr w5.heap.size 3 n1 (In (fun i => d1 i + xd)) p ∧ Below w4.heap.size w4 wr)
    case atStart => exact ⟨0, by omega, rfl, hr5, hr6, hb6⟩
    case round =>
      clear hr5 hr6 hb6
      obtain ⟨p, hpk, rfl, hr5, hr6, hb6⟩ := hrel
      obtain ⟨ab, ao, rfl, hab, hac⟩ := id s0 (by omega)
      obtain ⟨sb, so, rfl, hsb, hsc⟩ := id s1 (by omega)
      by_cases hlt : p < n1
      · have ha : wr.cell? ⟨ab, ao + p, none⟩ = some (.int .i64 (d0 p)) := (hb6.cell (p := ⟨ab, ao + p, none⟩) hab).trans (hac p hlt)
        have hs : wr.cell? ⟨sb, so + p, none⟩ = some (.int .i64 (d1 p)) := (hb6.cell (p := ⟨sb, so + p, none⟩) hsb).trans (hsc p hlt)
        obtain ⟨q1, q2⟩ := R0.out p hlt
        obtain ⟨q3, q4⟩ := R1.out p hlt
        obtain ⟨u1, x1⟩ := hr5.old p hlt
        obtain ⟨u2, x2⟩ := hr6.old p hlt
        have f1 := hr5.free p
        have f2 := hr6.free p
        have HA := hide ((hr5.set hlt).other (b := w5.heap.size) (i := p) (by omega) (.int .i64 (d1 p + xd)))
        have HS := hide ((hr6.other (b := w4.heap.size) (i := p) (by omega) (.int .i64 (d0 p + xc))).set hlt)
        have HB : Hid (Below w4.heap.size w4 ((wr.setCell ⟨w4.heap.size, p, none⟩ (.int .i64 (d0 p + xc))).setCell ⟨w5.heap.size, p, none⟩ (.int .i64 (d1 p + xd)))) := (hb6.setCell (p := ⟨w4.heap.size, p, none⟩) (Nat.le_refl _) _).setCell (p := ⟨w5.heap.size, p, none⟩) (Nat.le_of_lt h45) _
        clear hac hsc hr5 hr6 hb6 s0 s1 j1
        go_wp2_with fail
        go_roundg (gk - 1)
        case measure => omega
        case rel => exact ⟨p + 1, by omega, by go_num, HA.out, HS.out, HB.out⟩
      · obtain rfl : n1 = p := by omega
        have t0 := hr5.seq hr5.lt
        have t1 := hr6.seq hr6.lt
        obtain ⟨wo, rfl⟩ : ∃ wo, wo = wr := ⟨_, rfl⟩
        have j1 := j1.below hb6 hJ2 (by omega)
        have h46 := hb6.size
        clear hr5 hr6 hlt hpk
        go_wp2_with fail
        refine (joined_any _ _ n1 n1 n1 (fun i => d0 i + xc) (fun i => d1 i + xd) wo t0 t1 (by omega)).mono ?_
        rintro e w7 ⟨J', rfl, j2, hJ3, hJ4, hb7⟩
        have j1 := j1.below hb7 (by omega) (by omega)
        have h67 := hb7.size
        have hb7' : Below w4.heap.size w4 w7 := hb6.trans (hb7.mono hb6.size)
        have hbw := hb4.trans (hb7'.mono hb4.size)
        have hca : ∀ i, i < n1 → w7.cell? ⟨ab, ao + i, none⟩ = some (.int .i64 (d0 i)) := fun i hi => (hb7'.cell (p := ⟨ab, ao + i, none⟩) hab).trans (hac i hi)
        have hcs : ∀ i, i < n1 → w7.cell? ⟨sb, so + i, none⟩ = some (.int .i64 (d1 i)) := fun i hi => (hb7'.cell (p := ⟨sb, so + i, none⟩) hsb).trans (hsc i hi)
        have HCA := hide hca
        have HCS := hide hcs
        have ha0 : w7.cell? ⟨ab, ao, none⟩ = some (.int .i64 (d0 0)) := hca 0 hnp
        have hn1i : (0 : Int) < (n1 : Int) := by omega
        clear hac hsc hca hcs t0 t1 s0 s1 hb4 hb6 hb7
        go_wp2_with fail
        go_loopg [21, 22] (n1 - 1) (fun k t i wr => ∃ p : Nat, ∃ T : Int, p + k = n1 ∧ 1 ≤ p ∧ i = .int .i64 p ∧ t = .int .i64 T ∧ (∀ i, i < p → d0 i ≤ T) ∧ 0 ≤ T ∧ T ≤ 1152921504606846975 ∧ w7 = wr)
        case atStart =>
          have := R0.out 0 hnp
          exact ⟨1, d0 0, by omega, by omega, rfl, rfl, fun i hi => by rw [show i = 0 by omega]; exact Int.le_refl _, by omega, by omega, rfl⟩
        case round =>
          obtain ⟨p, T, hpk, hp1, rfl, rfl, hT, hT0, hT1, hw⟩ := hrel
          subst hw
          clear ha0
          have HT := hide hT
          clear hT
          by_cases hlt : p < n1
          · have hap := HCA.out p hlt
            obtain ⟨q1, q2⟩ := R0.out p hlt
            by_cases hgt : T < d0 p
            · go_wp2_with fail
              go_roundg (gk - 1)
              case measure => omega
              case rel =>
                refine ⟨p + 1, d0 p, by omega, by omega, by go_num, rfl, fun i hi => ?_, by omega, by omega, rfl⟩
                by_cases e : i = p
                · rw [e]; exact Int.le_refl _
                · have := HT.out i (by omega); omega
            · go_wp2_with fail
              go_roundg (gk - 1)
              case measure => omega
              case rel =>
                refine ⟨p + 1, T, by omega, by omega, by go_num, rfl, fun i hi => ?_, by omega, by omega, rfl⟩
                by_cases e : i = p
                · rw [e]; omega
                · exact HT.out i (by omega)
          · obtain rfl : n1 = p := by omega
            obtain ⟨m, rfl⟩ : ∃ m, n1 = m + 1 := ⟨n1 - 1, by omega⟩
            obtain ⟨k, hk⟩ := Plain.sel_ex d0 xi m
            have hkn := hk.hi
            have A0 := R0.out
            have A1 := R1.out
            obtain ⟨r1, r2⟩ := A0 k hkn
            obtain ⟨r3, r4⟩ := A1 k hkn
            obtain ⟨v1, v2⟩ := A0 m (by omega)
            obtain ⟨v3, v4⟩ := A1 m (by omega)
            obtain ⟨R, hR⟩ : ∃ R, d1 k + xi - d0 k = R := ⟨_, rfl⟩
            have hRb : -2305843009213693952 ≤ R ∧ R ≤ 2305843009213693952 := by omega
            have hR2 : (d1 k + xd) + (xi + xc) - (d0 k + xc) = R + xd := by omega
            have k2 := Plain.sel_shift (at1 := fun i => d0 i + xc) (c := xc) (fun i _ => rfl) hk
            have k3 : Plain.Sel d0 (m + 1) (T + xe) m := Plain.sel_last (n := m + 1) hnp (fun i hi => by have := HT.out i hi; omega)
            have B0 : ∀ i, i < m + 1 → -2305843009213693952 ≤ d0 i ∧ d0 i ≤ 2305843009213693952 := fun i hi => by have := A0 i hi; omega
            have B1 : ∀ i, i < m + 1 → -2305843009213693952 ≤ d1 i ∧ d1 i ≤ 2305843009213693952 := fun i hi => by have := A1 i hi; omega
            have HS1 := hide (source_at (C := w7.heap.size) j2 hJ4 (by omega) (Nat.le_refl _) hnp (by omega) k2 (fun i hi => by have := A0 i hi; show _ ≤ d0 i + xc ∧ d0 i + xc ≤ _; omega) (fun i hi => by have := A1 i hi; show _ ≤ d1 i + xd ∧ d1 i + xd ≤ _; omega) (by omega) hR2)
            have HS2 := hide (source_at (C := w7.heap.size) j1 (by omega) (by omega) (Nat.le_refl _) hnp (by omega) hk B0 B1 (by omega) hR)
            have HS3 := hide (source_at (C := w7.heap.size) j1 (by omega) (by omega) (Nat.le_refl _) hnp (by omega) k3 B0 B1 (by omega) rfl)
            have HX : Hid (∀ wx, Below w7.heap.size w7 wx → wx.cell? ⟨ab, ao + m, none⟩ = some (.int .i64 (d0 m)) ∧ wx.cell? ⟨sb, so + m, none⟩ = some (.int .i64 (d1 m))) := fun wx hb =>
              ⟨(hb.cell (p := ⟨ab, ao + m, none⟩) (by show ab < _; omega)).trans (HCA.out _ (by omega)), (hb.cell (p := ⟨sb, so + m, none⟩) (by show sb < _; omega)).trans (HCS.out _ (by omega))⟩
            obtain ⟨hx0, hx1⟩ := HX.out w7 (Below.refl _ _)
            have HW := hide hbw
            have e8 : (R + xd == R + xd) = true := by simp
            have e9 : (d1 m + (T + xe) - d0 m == d1 m + (T + xe) - d0 m) = true := by simp
            have g1 : (0 : Int) ≤ (m : Int) := by omega
            have g2 : (m : Int) < (m : Int) + 1 := by omega
            have g3 : (m : Int) < ((m + 1 : Nat) : Int) := by omega
            have z1 : IntKind.i64.wrap (xi + xc) = xi + xc := wrap_ok _ (by omega)
            have z2 : IntKind.i64.wrap (R + xd) = R + xd := wrap_ok _ (by omega)
            have z3 : IntKind.i64.wrap (d1 m + (T + xe)) = d1 m + (T + xe) := wrap_ok _ (by omega)
            have z4 : IntKind.i64.wrap (d1 m + (T + xe) - d0 m) = d1 m + (T + xe) - d0 m := wrap_ok _ (by omega)
            clear hR hR2 k2 k3 hk B0 B1 A0 A1 j1 j2 HT R0 R1 HCA HCS hbw hb7' hlt hpk hp1
            go_wp2_with fail
            go_region_held3 (fun w' => w'.cell? ⟨ab, ao + m, none⟩ = some (.int .i64 (d0 m)) ∧ w'.cell? ⟨sb, so + m, none⟩ = some (.int .i64 (d1 m)))
              (first | go_keep | exact HX.out _ hb')
              ((first | (go_at_call_of 9 (Value.int IntKind.i64 (xi + xc)); refine (HS1.out _ ?_).mono ?_; (first | exact (Below.refl _ _).drew | assumption); rintro e w' ⟨rfl, hb'⟩) | (go_at_call_of 9 (Value.int IntKind.i64 xi); refine (HS2.out _ ?_).mono ?_; (first | exact (Below.refl _ _).drew | assumption); rintro e w' ⟨rfl, hb'⟩) | (go_at_call_of 9 (Value.int IntKind.i64 (T + xe)); refine (HS3.out _ ?_).mono ?_; (first | exact (Below.refl _ _).drew | assumption); rintro e w' ⟨rfl, hb'⟩)))
            all_goals
              go_wp2_with fail
              go_ret
              exact ⟨rfl, HW.out.trans ((by assumption : Below w7.heap.size w7 _).mono HW.out.size)⟩
end Go.Proofs.Qxb6618333a
