/-
  THE WALK OF FUNCTION 3, THE LAW.
-/
import Derived.Test.Qxb6618430aWalkH
import Derived.Deep.CutRange
import Derived.Deep.CutBlock
namespace Go.Proofs.Qxb6618430a
open Go.RowKit
attribute [local go_sem ↓] Go.wp_at_zero Go.wp_at_succ

theorem copied {w wr : World} {a : Option Addr} {n : Nat} {f : Nat → Value} (h : Seq w.heap.size w a n f) (hb : Below w.heap.size w wr) : Seq wr.heap.size wr a n f := (h.below hb (Nat.le_refl _)).mono hb.size

def both (a b : Prop) [Decidable a] [Decidable b] : Bool := decide (a ∧ b)
theorem both_yes {a b : Prop} [Decidable a] [Decidable b] (h1 : a) (h2 : b) : both a b = true := by simp [both, h1, h2]
theorem both_no {a b : Prop} [Decidable a] [Decidable b] (h : ¬ (a ∧ b)) : both a b = false := by simp [both] at *; exact h
theorem both_of {a b : Prop} [Decidable a] [Decidable b] (h : both a b = true) : a ∧ b := by simpa [both] using h

/-- A group that holds an element is kept. -/
theorem Plain.top_lt {gr : Nat → Int} {ne n p j : Nat} (hp : p < ne) (hj : gr p = (j : Int)) (hn : j < n) : j < Plain.top gr ne n := by
  rw [Plain.top]
  split
  · rename_i h
    by_cases e : j = n - 1
    · subst e
      have h1 := Plain.cnt_mono gr (n - 1) (p + 1) ne (by omega)
      rw [Plain.cnt_yes hj] at h1
      omega
    · omega
  · exact hn

set_option maxRecDepth 100000 in
set_option maxHeartbeats 12800000 in
theorem law_walk (a0 : Option Addr) (n0 cap0 : Nat) (vs : Nat → ByteArray) (a1 : Option Addr) (n1 cap1 : Nat) (el : Nat → Int) (a2 : Option Addr) (n2 cap2 : Nat) (dv : Nat → ByteArray) (s3 : ByteArray) (a4 : Option Addr) (n4 cap4 : Nat) (gr : Nat → Int) (xn : Int) (w : World)
    (s0 : Seq w.heap.size w a0 n0 (St vs)) (l0 : a0 = none → n0 = 0 ∧ cap0 = 0) (m0 : n0 ≤ 9223372036854775807) (s1 : Seq w.heap.size w a1 n1 (In el)) (l1 : a1 = none → n1 = 0 ∧ cap1 = 0) (m1 : n1 ≤ 9223372036854775807)
    (s2 : Seq w.heap.size w a2 n2 (St dv)) (l2 : a2 = none → n2 = 0 ∧ cap2 = 0) (m2 : n2 ≤ 9223372036854775807) (s4 : Seq w.heap.size w a4 n4 (In gr)) (l4 : a4 = none → n4 = 0 ∧ cap4 = 0) (m4 : n4 ≤ 9223372036854775807) :
    Calls Try.prog 3 #[.slice a0 n0 cap0, .slice a1 n1 cap1, .slice a2 n2 cap2, .string s3, .slice a4 n4 cap4, .int .i64 xn] w fun e w' => e = .returned (.bool true) ∧ Below w.heap.size w w' := by
  have hq := fun (w : World) (a : Option Addr) (n c : Nat) => run_neq_slice_nil_any (P := Try.prog) w 22 9 a n c 0 0 Try.underlying22
  have hq' := fun (w : World) (a : Option Addr) (n c : Nat) => run_neq_slice_nil_any (P := Try.prog) w 23 3 a n c 0 0 Try.underlying23
  obtain ⟨i3, hi3, hz3, hs3, hy3⟩ := info_parts Try.info3
  obtain ⟨i9, hi9, hz9, hs9, hy9⟩ := info_parts Try.info9
  obtain ⟨i4, hi4, hz4, hs4, hy4⟩ := info_parts Try.info4
  go_enter Try.func3, Try.ntmps3
  go_wp2_with fail
  refine (bytes4 a0 a1 a2 a4 n0 cap0 n1 cap1 n2 cap2 n4 cap4 s3 xn vs dv w s0 s2 m0 m2).mono ?_
  rintro e w' ⟨⟨b, rfl⟩, hw⟩
  subst hw
  cases b with
  | false => as_aux_lemma =>
    go_wp2_with fail
    go_ret
    exact ⟨rfl, Below.refl _ _⟩
  | true =>
    by_cases c0 : 65536 < n0
    · as_aux_lemma =>
      go_wp2_with fail
      go_ret
      exact ⟨rfl, Below.refl _ _⟩
    by_cases c1 : 65536 < n1
    · as_aux_lemma =>
      go_wp2_with fail
      go_ret
      exact ⟨rfl, Below.refl _ _⟩
    by_cases c2 : 65536 < n2
    · as_aux_lemma =>
      go_wp2_with fail
      go_ret
      exact ⟨rfl, Below.refl _ _⟩
    by_cases c4 : 65536 < n4
    · as_aux_lemma =>
      go_wp2_with fail
      go_ret
      exact ⟨rfl, Below.refl _ _⟩
    by_cases c3 : 1048576 < s3.size
    · as_aux_lemma =>
      go_wp2_with fail
      go_ret
      exact ⟨rfl, Below.refl _ _⟩
    go_upto_if 70 with fail
    go_cut [0, 13] from 71 to 77 (fun x _ wr => ∃ b k, x = .slice b n0 k ∧ n0 ≤ k ∧ Seq wr.heap.size wr b n0 (St vs) ∧ Below w.heap.size w wr)
    case first => as_aux_lemma =>
      cases a0 with
      | none =>
        obtain ⟨rfl, rfl⟩ := l0 rfl
        clear l0
        go_wp2_with fail
        go_meet
        exact ⟨none, 0, rfl, Nat.le_refl _, s0, Below.refl _ _⟩
      | some x1 =>
        clear l0
        go_wp2_with (at_make; refine wpList_make_full _ rfl _ _ 22 rfl w.heap.size 9 i9 (.string ByteArray.empty) 1 Try.underlying22 hi9 hz9 hs9 _ _ _ _ n0 rfl rfl rfl rfl ?e1 ?e2 ?e3 ?_)
        case e1 => rw [hy9]; omega
        case e2 => unfold maxLen; omega
        case e3 => exact Nat.le_refl _
        intro w3 hown hgrow
        have hb3 : Below w.heap.size w w3 := (Below.refl _ _).grown hgrow (Nat.le_refl _) (fun k h => by cases h)
        have hr3 : Row w3 w.heap.size 9 n0 (St vs) 0 := row_of_owns _ hown
        have s0 := s0.below hb3 (Nat.le_refl _)
        clear hown hgrow
        go_wp2_with (refine wpList_copy_full rfl _ _ 22 rfl 9 Try.underlying22 Try.size9 w.heap.size n0 cap0 _ rfl rfl (St vs) (St vs) 0 w.heap.size hr3 s0 (st_one vs) ?_)
        intro w4 hr4 hb4
        go_wp2_with fail
        go_meet
        exact ⟨_, _, rfl, Nat.le_refl _, hr4.seq hr4.lt, hb3.trans hb4⟩
    case rest =>
    clear s0 l0 m0
    obtain ⟨b0, k0, rfl, hk0, s0, hb0⟩ := hcut
    obtain ⟨wa, rfl⟩ : ∃ wa, wa = wc := ⟨_, rfl⟩
    have s1 := copied s1 hb0
    have s2 := copied s2 hb0
    have s4 := copied s4 hb0
    go_upto_if 79 with fail
    go_cut [1, 14] from 80 to 86 (fun x _ wr => ∃ b k, x = .slice b n1 k ∧ n1 ≤ k ∧ Seq wr.heap.size wr b n1 (In el) ∧ Below wa.heap.size wa wr)
    case first => as_aux_lemma =>
      cases a1 with
      | none =>
        obtain ⟨rfl, rfl⟩ := l1 rfl
        clear l1
        go_wp2_with fail
        go_meet
        exact ⟨none, 0, rfl, Nat.le_refl _, s1, Below.refl _ _⟩
      | some x1 =>
        clear l1
        go_wp2_with (at_make; refine wpList_make_full _ rfl _ _ 23 rfl wa.heap.size 3 i3 (.int .i64 0) 1 Try.underlying23 hi3 hz3 hs3 _ _ _ _ n1 rfl rfl rfl rfl ?e1 ?e2 ?e3 ?_)
        case e1 => rw [hy3]; omega
        case e2 => unfold maxLen; omega
        case e3 => exact Nat.le_refl _
        intro w3 hown hgrow
        have hb3 : Below wa.heap.size wa w3 := (Below.refl _ _).grown hgrow (Nat.le_refl _) (fun k h => by cases h)
        have hr3 : Row w3 wa.heap.size 3 n1 (In el) 0 := row_of_owns _ hown
        have s1 := s1.below hb3 (Nat.le_refl _)
        clear hown hgrow
        go_wp2_with (refine wpList_copy_full rfl _ _ 23 rfl 3 Try.underlying23 Try.size3 wa.heap.size n1 cap1 _ rfl rfl (In el) (In el) 0 wa.heap.size hr3 s1 (in_one el) ?_)
        intro w4 hr4 hb4
        go_wp2_with fail
        go_meet
        exact ⟨_, _, rfl, Nat.le_refl _, hr4.seq hr4.lt, hb3.trans hb4⟩
    case rest =>
    clear s1 l1 m1
    obtain ⟨b1, k1, rfl, hk1, s1, hb1⟩ := hcut
    obtain ⟨wb, rfl⟩ : ∃ wb, wb = wc := ⟨_, rfl⟩
    have s0 := copied s0 hb1
    have s2 := copied s2 hb1
    have s4 := copied s4 hb1
    have hb1 := hb0.trans (hb1.mono hb0.size)
    clear hb0
    go_upto_if 88 with fail
    go_cut [2, 15] from 89 to 95 (fun x _ wr => ∃ b k, x = .slice b n2 k ∧ n2 ≤ k ∧ Seq wr.heap.size wr b n2 (St dv) ∧ Below wb.heap.size wb wr)
    case first => as_aux_lemma =>
      cases a2 with
      | none =>
        obtain ⟨rfl, rfl⟩ := l2 rfl
        clear l2
        go_wp2_with fail
        go_meet
        exact ⟨none, 0, rfl, Nat.le_refl _, s2, Below.refl _ _⟩
      | some x1 =>
        clear l2
        go_wp2_with (at_make; refine wpList_make_full _ rfl _ _ 22 rfl wb.heap.size 9 i9 (.string ByteArray.empty) 1 Try.underlying22 hi9 hz9 hs9 _ _ _ _ n2 rfl rfl rfl rfl ?e1 ?e2 ?e3 ?_)
        case e1 => rw [hy9]; omega
        case e2 => unfold maxLen; omega
        case e3 => exact Nat.le_refl _
        intro w3 hown hgrow
        have hb3 : Below wb.heap.size wb w3 := (Below.refl _ _).grown hgrow (Nat.le_refl _) (fun k h => by cases h)
        have hr3 : Row w3 wb.heap.size 9 n2 (St dv) 0 := row_of_owns _ hown
        have s2 := s2.below hb3 (Nat.le_refl _)
        clear hown hgrow
        go_wp2_with (refine wpList_copy_full rfl _ _ 22 rfl 9 Try.underlying22 Try.size9 wb.heap.size n2 cap2 _ rfl rfl (St dv) (St dv) 0 wb.heap.size hr3 s2 (st_one dv) ?_)
        intro w4 hr4 hb4
        go_wp2_with fail
        go_meet
        exact ⟨_, _, rfl, Nat.le_refl _, hr4.seq hr4.lt, hb3.trans hb4⟩
    case rest =>
    clear s2 l2 m2
    obtain ⟨b2, k2, rfl, hk2, s2, hb2⟩ := hcut
    obtain ⟨wd, rfl⟩ : ∃ wd, wd = wc := ⟨_, rfl⟩
    have s0 := copied s0 hb2
    have s1 := copied s1 hb2
    have s4 := copied s4 hb2
    have hb2 := hb1.trans (hb2.mono hb1.size)
    clear hb1
    go_upto_if 97 with fail
    go_cut [4, 16] from 98 to 104 (fun x _ wr => ∃ b k, x = .slice b n4 k ∧ n4 ≤ k ∧ Seq wr.heap.size wr b n4 (In gr) ∧ Below wd.heap.size wd wr)
    case first => as_aux_lemma =>
      cases a4 with
      | none =>
        obtain ⟨rfl, rfl⟩ := l4 rfl
        clear l4
        go_wp2_with fail
        go_meet
        exact ⟨none, 0, rfl, Nat.le_refl _, s4, Below.refl _ _⟩
      | some x1 =>
        clear l4
        go_wp2_with (at_make; refine wpList_make_full _ rfl _ _ 23 rfl wd.heap.size 3 i3 (.int .i64 0) 1 Try.underlying23 hi3 hz3 hs3 _ _ _ _ n4 rfl rfl rfl rfl ?e1 ?e2 ?e3 ?_)
        case e1 => rw [hy3]; omega
        case e2 => unfold maxLen; omega
        case e3 => exact Nat.le_refl _
        intro w3 hown hgrow
        have hb3 : Below wd.heap.size wd w3 := (Below.refl _ _).grown hgrow (Nat.le_refl _) (fun k h => by cases h)
        have hr3 : Row w3 wd.heap.size 3 n4 (In gr) 0 := row_of_owns _ hown
        have s4 := s4.below hb3 (Nat.le_refl _)
        clear hown hgrow
        go_wp2_with (refine wpList_copy_full rfl _ _ 23 rfl 3 Try.underlying23 Try.size3 wd.heap.size n4 cap4 _ rfl rfl (In gr) (In gr) 0 wd.heap.size hr3 s4 (in_one gr) ?_)
        intro w4 hr4 hb4
        go_wp2_with fail
        go_meet
        exact ⟨_, _, rfl, Nat.le_refl _, hr4.seq hr4.lt, hb3.trans hb4⟩
    case rest =>
    clear s4 l4 m4
    obtain ⟨b4, k4, rfl, hk4, s4, hb3⟩ := hcut
    obtain ⟨we, rfl⟩ : ∃ we, we = wc := ⟨_, rfl⟩
    have s0 := copied s0 hb3
    have s1 := copied s1 hb3
    have s2 := copied s2 hb3
    have hb3 := hb2.trans (hb3.mono hb2.size)
    clear hb2
    clear hq hq'
    have HB := hide hb3
    clear hb3 hi9 hz9 hs9 hy9
    have S0 := hide s0
    have S1 := hide s1
    have S2 := hide s2
    have S4 := hide s4
    clear s0 s1 s2 s4
    go_wp2_with fail
    go_loopg [17, 18] n0 (fun kk t i wr => ∃ p : Nat, ∃ T : Int, p + kk = n0 ∧ i = .int .i64 p ∧ t = .int .i64 T ∧ we = wr)
    case atStart => exact ⟨0, _, by omega, rfl, rfl, rfl⟩
    case round =>
      obtain ⟨p, T, hpk, rfl, rfl, hw⟩ := hrel
      subst hw
      go_upto_region 23 with fail
      go_cut [122] from 115 to 132 (fun x wr => we = wr ∧ x = .bool (both (p < n0) (T ≤ 1048576)))
      case first => as_aux_lemma =>
        by_cases h1 : p < n0
        · by_cases h2 : T ≤ 1048576
          · have H := hide (both_yes h1 h2)
            go_wp2_with fail
            go_meet
            exact ⟨rfl, by rw [H.out]⟩
          · have H := hide (both_no (fun h => h2 h.2) : both (p < n0) (T ≤ 1048576) = false)
            go_wp2_with fail
            go_meet
            exact ⟨rfl, by rw [H.out]⟩
        · have H := hide (both_no (fun h => h1 h.1) : both (p < n0) (T ≤ 1048576) = false)
          go_wp2_with fail
          go_meet
          exact ⟨rfl, by rw [H.out]⟩
      case rest =>
      obtain ⟨hw, rfl⟩ := hcut
      subst hw
      cases hb : both (p < n0) (T ≤ 1048576) with
      | true => as_aux_lemma =>
        obtain ⟨h1, h2⟩ := both_of hb
        obtain ⟨b, off, rfl, hbs, hc⟩ := S0.out (by omega)
        have hcp : we.cell? ⟨b, off + p, none⟩ = some (.string (vs p)) := hc p h1
        clear hc hb
        go_wp2_with fail
        go_roundg (gk - 1)
        case measure => omega
        case rel => exact ⟨p + 1, _, by omega, by go_num, rfl, rfl⟩
      | false =>
      clear hb hpk
      go_wp2_with fail
      go_loopg [17, 19] n2 (fun kk t i wr => ∃ p : Nat, ∃ T : Int, p + kk = n2 ∧ i = .int .i64 p ∧ t = .int .i64 T ∧ we = wr)
      case atStart => exact ⟨0, _, by omega, rfl, rfl, rfl⟩
      case round =>
        obtain ⟨p, T, hpk, rfl, rfl, hw⟩ := hrel
        subst hw
        go_upto_region 27 with fail
        go_cut [140] from 133 to 150 (fun x wr => we = wr ∧ x = .bool (both (p < n2) (T ≤ 1048576)))
        case first => as_aux_lemma =>
          by_cases h1 : p < n2
          · by_cases h2 : T ≤ 1048576
            · have H := hide (both_yes h1 h2)
              go_wp2_with fail
              go_meet
              exact ⟨rfl, by rw [H.out]⟩
            · have H := hide (both_no (fun h => h2 h.2) : both (p < n2) (T ≤ 1048576) = false)
              go_wp2_with fail
              go_meet
              exact ⟨rfl, by rw [H.out]⟩
          · have H := hide (both_no (fun h => h1 h.1) : both (p < n2) (T ≤ 1048576) = false)
            go_wp2_with fail
            go_meet
            exact ⟨rfl, by rw [H.out]⟩
        case rest =>
        obtain ⟨hw, rfl⟩ := hcut
        subst hw
        cases hb : both (p < n2) (T ≤ 1048576) with
        | true => as_aux_lemma =>
          obtain ⟨h1, h2⟩ := both_of hb
          obtain ⟨b, off, rfl, hbs, hc⟩ := S2.out (by omega)
          have hcp : we.cell? ⟨b, off + p, none⟩ = some (.string (dv p)) := hc p h1
          clear hc hb
          go_wp2_with fail
          go_roundg (gk - 1)
          case measure => omega
          case rel => exact ⟨p + 1, _, by omega, by go_num, rfl, rfl⟩
        | false =>
        clear hb hpk
        by_cases t1 : 1048576 < T
        · as_aux_lemma =>
          go_wp2_with fail
          go_ret
          exact ⟨rfl, HB.out⟩
        by_cases t2 : xn < 0
        · as_aux_lemma =>
          go_wp2_with fail
          go_ret
          exact ⟨rfl, HB.out⟩
        by_cases t3 : 65536 < xn
        · as_aux_lemma =>
          go_wp2_with fail
          go_ret
          exact ⟨rfl, HB.out⟩
        by_cases t4 : n4 < n1
        · as_aux_lemma =>
          go_wp2_with fail
          go_ret
          exact ⟨rfl, HB.out⟩
        obtain ⟨n, rfl⟩ := Int.eq_ofNat_of_zero_le (by omega : 0 ≤ xn)
        go_wp2_with fail
        go_loopg [20] n1 (fun kk i wr => ∃ p : Nat, p + kk = n1 ∧ i = .int .i64 p ∧ (∀ k, k < p → 0 ≤ el k ∧ el k < (n0 : Int)) ∧ (∀ k, k + 1 < p → el k < el (k + 1)) ∧ (∀ k, k < p → 0 ≤ gr k ∧ gr k < (n : Int)) ∧ we = wr)
        case atStart => exact ⟨0, by omega, rfl, fun k h => by omega, fun k h => by omega, fun k h => by omega, rfl⟩
        case round =>
          obtain ⟨p, hpk, rfl, h1, h2, h3, hw⟩ := hrel
          subst hw
          have H1 := hide h1
          have H2 := hide h2
          have H3 := hide h3
          clear h1 h2 h3
          by_cases hlt : p < n1
          · obtain ⟨eb, eo, rfl, heb, hec⟩ := S1.out (by omega)
            obtain ⟨gb, go, rfl, hgb, hgc⟩ := S4.out (by omega)
            have he : we.cell? ⟨eb, eo + p, none⟩ = some (.int .i64 (el p)) := hec p hlt
            have hg : we.cell? ⟨gb, go + p, none⟩ = some (.int .i64 (gr p)) := hgc p (by omega)
            have HEC := hide hec
            clear hec hgc
            by_cases q1 : el p < 0
            · as_aux_lemma =>
              go_wp2_with fail
              go_ret
              exact ⟨rfl, HB.out⟩
            by_cases q2 : (n0 : Int) ≤ el p
            · as_aux_lemma =>
              go_wp2_with fail
              go_ret
              exact ⟨rfl, HB.out⟩
            cases p with
            | zero => as_aux_lemma =>
              replace he : we.cell? ⟨eb, eo, none⟩ = some (.int .i64 (el 0)) := he
              replace hg : we.cell? ⟨gb, go, none⟩ = some (.int .i64 (gr 0)) := hg
              by_cases q4 : gr 0 < 0
              · go_wp2_with fail
                go_ret
                exact ⟨rfl, HB.out⟩
              by_cases q5 : (n : Int) ≤ gr 0
              · go_wp2_with fail
                go_ret
                exact ⟨rfl, HB.out⟩
              go_wp2_with fail
              go_roundg (gk - 1)
              case measure => omega
              case rel => exact ⟨1, by omega, by go_num, fun k h => by obtain rfl : k = 0 := by omega
                                                                       omega, fun k h => by omega, fun k h => by obtain rfl : k = 0 := by omega
                                                                                                                 omega, rfl⟩
            | succ m => as_aux_lemma =>
              have hm : we.cell? ⟨eb, eo + m, none⟩ = some (.int .i64 (el m)) := HEC.out m (by omega)
              by_cases q3 : el (m + 1) ≤ el m
              · go_wp2_with fail
                go_ret
                exact ⟨rfl, HB.out⟩
              by_cases q4 : gr (m + 1) < 0
              · go_wp2_with fail
                go_ret
                exact ⟨rfl, HB.out⟩
              by_cases q5 : (n : Int) ≤ gr (m + 1)
              · go_wp2_with fail
                go_ret
                exact ⟨rfl, HB.out⟩
              go_wp2_with fail
              go_roundg (gk - 1)
              case measure => omega
              case rel =>
                refine ⟨m + 2, by omega, by go_num, fun k h => ?_, fun k h => ?_, fun k h => ?_, rfl⟩
                · by_cases e : k = m + 1
                  · subst e; omega
                  · exact H1.out k (by omega)
                · by_cases e : k = m
                  · subst e; omega
                  · exact H2.out k (by omega)
                · by_cases e : k = m + 1
                  · subst e; omega
                  · exact H3.out k (by omega)
          · obtain rfl : n1 = p := by omega
            go_wp2_with fail
            refine (zz_any b0 b1 b2 b4 n0 k0 n1 k1 n2 k2 n4 k4 n s3 vs el gr we (by omega) (by omega) (by omega) (by omega) hk1 S0.out S1.out S4.out H1.out H2.out H3.out).mono ?_
            rintro e w1 ⟨⟨m, v, ws, o, rfl, hA⟩, hB1⟩
            obtain ⟨gm, gv, gw, Mv, ao, co, rfl, rfl, rfl, rfl, rM, mS, rV, rW, sO⟩ := hA.at_
            have S0 := hide (copied S0.out hB1)
            have S1 := hide (copied S1.out hB1)
            have S4 := hide (copied S4.out hB1)
            have HB1 := hide (HB.out.trans (hB1.mono HB.out.size))
            have RM := hide rM
            have MS := hide mS
            have RV := hide rV
            have RW := hide rW
            have SO := hide sO
            clear hA hB1 rM mS rV rW sO S2 HB
            go_upto_if 220 with fail
            go_cut [26, 27, 28] from 219 to 239 (fun x _ _ wr => w1 = wr ∧ x = .int .i64 (Plain.top gr n1 n))
            case first => as_aux_lemma =>
              by_cases hz : n = 0
              · have hz' : ¬ (0 : Int) < (n : Int) := by omega
                have HT := hide (Plain.top_no (gr := gr) (ne := n1) (n := n) (fun h => by omega))
                clear hz
                go_wp2_with fail
                go_meet
                exact ⟨rfl, by rw [HT.out]⟩
              · obtain ⟨m, hmn⟩ : ∃ m, n = m + 1 := ⟨n - 1, by omega⟩
                have hz' : (0 : Int) < (n : Int) := by omega
                have hsub : (n : Int) - 1 = (m : Int) := by omega
                have HMN := hide hmn
                clear hz hmn
                go_wp2_with fail
                go_loopg [27, 28] n1 (fun kk x i wr => ∃ p : Nat, p + kk = n1 ∧ i = .int .i64 p ∧ x = .int .i64 (Plain.cnt gr m p : Int) ∧ w1 = wr)
                case atStart => exact ⟨0, by omega, rfl, rfl, rfl⟩
                case round =>
                  obtain ⟨p, hpk, rfl, rfl, hw⟩ := hrel
                  subst hw
                  obtain ⟨C, hC⟩ : ∃ C, Plain.cnt gr m p = C := ⟨_, rfl⟩
                  have hCp := Plain.cnt_le gr m p
                  rw [hC] at hCp
                  rw [hC]
                  have HC := hide hC
                  clear hC
                  by_cases hlt : p < n1
                  · obtain ⟨gb, go, rfl, hgb, hgc⟩ := S4.out (by omega)
                    have hg : w1.cell? ⟨gb, go + p, none⟩ = some (.int .i64 (gr p)) := hgc p (by omega)
                    clear hgc
                    by_cases hm : gr p = (m : Int)
                    · rw [hm] at hg
                      have e1 : ((m : Int) == (m : Int)) = true := by simp
                      have HM := hide (Plain.cnt_yes hm)
                      clear hm
                      go_wp2_with fail
                      go_roundg (gk - 1)
                      case measure => omega
                      case rel => exact ⟨p + 1, by omega, by go_num, by rw [HM.out, HC.out]; simp, rfl⟩
                    · have e1 : (gr p == (m : Int)) = false := by simpa using hm
                      have HM := hide (Plain.cnt_no hm)
                      clear hm
                      go_wp2_with fail
                      go_roundg (gk - 1)
                      case measure => omega
                      case rel => exact ⟨p + 1, by omega, by go_num, by rw [HM.out, HC.out], rfl⟩
                  · have hp : p = n1 := by omega
                    by_cases h0 : C = 0
                    · have e0 : ((C : Int) == 0) = true := by simp [h0]
                      have HT : Hid (Plain.top gr n1 n = m) := hide (by rw [HMN.out]; exact Plain.top_yes (by rw [← hp, HC.out, h0]))
                      clear h0 hp
                      go_wp2_with fail
                      go_meet
                      exact ⟨rfl, by rw [HT.out]⟩
                    · have e0 : ((C : Int) == 0) = false := by simp [h0]
                      have HT : Hid (Plain.top gr n1 n = n) := hide (Plain.top_no (fun h => h0 (by have := h.2; rw [HMN.out] at this; simp at this; rw [← HC.out, hp]; exact this)))
                      clear h0 hp
                      go_wp2_with fail
                      go_meet
                      exact ⟨rfl, by rw [HT.out]⟩
            case rest =>
            obtain ⟨hw, rfl⟩ := hcut
            subst hw
            obtain ⟨N, hN⟩ : ∃ N, Plain.top gr n1 n = N := ⟨_, rfl⟩
            have hNn := Plain.top_le gr n1 n
            rw [hN] at hNn
            rw [hN]
            have HN := hide hN
            clear hN
            have eN : ((N : Int) != (N : Int)) = false := by simp
            go_wp2_with (at_make; refine wpList_make_full _ rfl _ _ 23 rfl w1.heap.size 3 i3 (.int .i64 0) 1 Try.underlying23 hi3 hz3 hs3 _ _ _ _ N rfl rfl rfl rfl ?g1 ?g2 ?g3 ?_)
            case g1 => rw [hy3]; omega
            case g2 => unfold maxLen; omega
            case g3 => exact Nat.le_refl _
            intro w5 hown hgrow
            have hb5 : Below w1.heap.size w1 w5 := (Below.refl _ _).grown hgrow (Nat.le_refl _) (fun k h => by cases h)
            have hr5 : Row w5 w1.heap.size 3 N (fun _ => .int .i64 0) N := row_of_made rfl (by rw [Nat.mul_one]; exact hown)
            clear hown hgrow
            go_wp2_with fail
            go_loopg [30] n1 (fun kk i wr => ∃ p : Nat, p + kk = n1 ∧ i = .int .i64 p ∧ Row wr w1.heap.size 3 N (In (fun j => (Plain.cnt gr j p : Int))) N ∧ Below w1.heap.size w1 wr)
            case atStart => exact ⟨0, by omega, rfl, hr5, hb5⟩
            case round =>
              clear hr5 hb5
              obtain ⟨p, hpk, rfl, hr5, hb5⟩ := hrel
              by_cases hlt : p < n1
              · obtain ⟨eb, eo, rfl, heb, hec⟩ := S1.out (by omega)
                obtain ⟨gb, go, rfl, hgb, hgc⟩ := S4.out (by omega)
                obtain ⟨q1, q2⟩ := H1.out p hlt
                obtain ⟨q3, q4⟩ := H3.out p hlt
                obtain ⟨vb, vo, rfl, hvb, hvc⟩ := S0.out (by omega)
                obtain ⟨j, hj⟩ := Int.eq_ofNat_of_zero_le q3
                obtain ⟨x, hx⟩ := Int.eq_ofNat_of_zero_le q1
                have hjN : j < N := by rw [← HN.out]; exact Plain.top_lt hlt hj (by omega)
                have he : wr.cell? ⟨eb, eo + p, none⟩ = some (.int .i64 x) := (hb5.cell (p := ⟨eb, eo + p, none⟩) heb).trans ((hec p hlt).trans (by rw [In, hx]))
                have hg : wr.cell? ⟨gb, go + p, none⟩ = some (.int .i64 j) := (hb5.cell (p := ⟨gb, go + p, none⟩) hgb).trans ((hgc p (by omega)).trans (by rw [In, hj]))
                have hv : wr.cell? ⟨vb, vo + x, none⟩ = some (.string (vs x)) := (hb5.cell (p := ⟨vb, vo + x, none⟩) hvb).trans (hvc x (by omega))
                obtain ⟨C, hC⟩ : ∃ C, Plain.cnt gr j p = C := ⟨_, rfl⟩
                obtain ⟨D, hD⟩ : ∃ D, Plain.cnt gr j n1 = D := ⟨_, rfl⟩
                obtain ⟨hCD, hat⟩ := Plain.mem_at gr el hj n1 hlt
                rw [hC, hD] at hCD
                rw [hC] at hat
                have hCp := Plain.cnt_le gr j p
                rw [hC] at hCp
                obtain ⟨a, c, hMv, hsm⟩ := MS.out j (by omega)
                rw [hD] at hMv hsm
                obtain ⟨mb, mo, rfl, hmb, hmc⟩ := hsm (by omega)
                have hm1 : wr.cell? ⟨gm, j, none⟩ = some (.slice (some ⟨mb, mo, none⟩) D c) := (hb5.cell (p := ⟨gm, j, none⟩) RM.out.lt).trans ((RM.out.cell j (by omega)).trans (by rw [hMv]))
                have hm2 : wr.cell? ⟨mb, mo + C, none⟩ = some (.int .i64 x) := (hb5.cell (p := ⟨mb, mo + C, none⟩) hmb).trans ((hmc C hCD).trans (by rw [In, hat, hx]))
                have hs : wr.cell? ⟨w1.heap.size, j, none⟩ = some (.int .i64 C) := (hr5.cell j hjN).trans (by rw [In, hC])
                have hsf := hr5.free j
                have hvl : wr.cell? ⟨gv, j, none⟩ = some (.string (Plain.val ByteArray.empty gr el vs j n1)) := (hb5.cell (p := ⟨gv, j, none⟩) RV.out.lt).trans (RV.out.cell j (by omega))
                have hval : C = 0 → Plain.val ByteArray.empty gr el vs j n1 = vs x := fun h => by rw [Plain.val_first _ gr el vs hj (hC.trans h) n1 hlt, hx]; rfl
                have HR := hide ((hr5.upd j (.int .i64 ((C : Int) + 1))).congr (f' := In (fun i => (Plain.cnt gr i (p + 1) : Int))) (fun i hi => by
                  by_cases e : i = j
                  · subst e; rw [upd_same, In, Plain.cnt_yes hj, hC]; simp
                  · rw [upd_other _ _ e, In, In, Plain.cnt_no (fun e' => e (by have := hj.symm.trans e'; omega))]))
                have HBr := hide hb5
                have hxx : ((x : Int) != (x : Int)) = false := by simp
                have hxn : x < n0 := by omega
                have HV := hide hval
                clear hec hgc hvc hmc hsm hMv hat hC hD hj hx hr5 hb5 q1 q2 q3 q4 hval
                by_cases h0 : C = 0
                · as_aux_lemma =>
                  have e0 : ((C : Int) == 0) = true := by simp [h0]
                  rw [HV.out h0] at hvl
                  have hss : ((vs x).toList == (vs x).toList) = true := by simp
                  clear h0
                  go_wp2
                  go_quiet (fail)
                  go_wp2
                  go_quiet (fail)
                  go_wp2
                  go_roundg (gk - 1)
                  case measure => omega
                  case rel => exact ⟨p + 1, by omega, by go_num, HR.out, (below_drewN' HBr.out _).setCell (p := ⟨w1.heap.size, j, none⟩) (Nat.le_refl _) _⟩
                · as_aux_lemma =>
                  have e0 : ((C : Int) == 0) = false := by simp [h0]
                  go_wp2
                  go_quiet (fail)
                  go_wp2
                  go_quiet (fail)
                  go_wp2
                  go_roundg (gk - 1)
                  case measure => omega
                  case rel => exact ⟨p + 1, by omega, by go_num, HR.out, (below_drewN' HBr.out _).setCell (p := ⟨w1.heap.size, j, none⟩) (Nat.le_refl _) _⟩
              · obtain rfl : n1 = p := by omega
                go_wp2_with fail
                go_loopg [33] N (fun kk i wr => ∃ p : Nat, p + kk = N ∧ i = .int .i64 p ∧ Row wr w1.heap.size 3 N (In (fun j => (Plain.cnt gr j n1 : Int))) N ∧ Below w1.heap.size w1 wr)
                case atStart => exact ⟨0, by omega, rfl, hr5, hb5⟩
                case round =>
                  clear hr5 hb5
                  obtain ⟨p, hpk, rfl, hr5, hb5⟩ := hrel
                  by_cases hlt : p < N
                  · obtain ⟨C, hC⟩ : ∃ C, Plain.cnt gr p n1 = C := ⟨_, rfl⟩
                    have hCp := Plain.cnt_le gr p n1
                    rw [hC] at hCp
                    obtain ⟨a, c, hMv, hsm⟩ := MS.out p (by omega)
                    rw [hC] at hMv
                    have hm1 : wr.cell? ⟨gm, p, none⟩ = some (.slice a C c) := (hb5.cell (p := ⟨gm, p, none⟩) RM.out.lt).trans ((RM.out.cell p (by omega)).trans (by rw [hMv]))
                    have hs : wr.cell? ⟨w1.heap.size, p, none⟩ = some (.int .i64 C) := (hr5.cell p hlt).trans (by rw [In, hC])
                    have hw1 : wr.cell? ⟨gw, p, none⟩ = some (.int .i64 C) := (hb5.cell (p := ⟨gw, p, none⟩) RW.out.lt).trans ((RW.out.cell p (by omega)).trans (by rw [In, hC]))
                    have hvl : wr.cell? ⟨gv, p, none⟩ = some (.string (Plain.val ByteArray.empty gr el vs p n1)) := (hb5.cell (p := ⟨gv, p, none⟩) RV.out.lt).trans (RV.out.cell p (by omega))
                    have HV : Hid (C = 0 → Plain.val ByteArray.empty gr el vs p n1 = { data := #[] }) := hide (fun h => Plain.val_none _ gr el vs p n1 (hC.trans h))
                    have hcc : ((C : Int) != (C : Int)) = false := by simp
                    have HR := hide hr5
                    have HBr := hide hb5
                    clear hsm hMv hC hr5 hb5
                    by_cases h0 : C = 0
                    · as_aux_lemma =>
                      have e0 : ((C : Int) == 0) = true := by simp [h0]
                      rw [HV.out h0] at hvl
                      have hss : ((ByteArray.mk #[]).toList == (ByteArray.mk #[]).toList) = true := by simp
                      clear h0
                      go_wp2
                      go_quiet (fail)
                      go_wp2
                      go_roundg (gk - 1)
                      case measure => omega
                      case rel => exact ⟨p + 1, by omega, by go_num, HR.out, below_drewN' HBr.out _⟩
                    · as_aux_lemma =>
                      have e0 : ((C : Int) == 0) = false := by simp [h0]
                      go_wp2
                      go_quiet (fail)
                      go_wp2
                      go_roundg (gk - 1)
                      case measure => omega
                      case rel => exact ⟨p + 1, by omega, by go_num, HR.out, below_drewN' HBr.out _⟩
                  · clear hr5
                    go_wp2_with (at_make; refine wpList_make_full _ rfl _ _ 28 rfl wr.heap.size 4 i4 (.bool false) 1 Try.underlying28 hi4 hz4 hs4 _ _ _ _ n2 rfl rfl rfl rfl ?k1 ?k2 ?k3 ?_)
                    case k1 => rw [hy4]; omega
                    case k2 => unfold maxLen; omega
                    case k3 => exact Nat.le_refl _
                    intro w6 hown hgrow
                    have hb6 : Below wr.heap.size wr w6 := (Below.refl _ _).grown hgrow (Nat.le_refl _) (fun k h => by cases h)
                    have hr6 : Row w6 wr.heap.size 4 n2 (fun _ => .bool false) n2 := row_of_made rfl (by rw [Nat.mul_one]; exact hown)
                    have hbm : Below w1.heap.size w1 w6 := hb5.trans (hb6.mono hb5.size)
                    obtain ⟨G, hG⟩ : ∃ G, wr.heap.size = G := ⟨_, rfl⟩
                    have hG1 : w1.heap.size ≤ G := by rw [← hG]; exact hb5.size
                    rw [hG] at hr6
                    rw [hG]
                    clear hown hgrow hb6 hb5 hG
                    clear hpk hlt HN RM MS RV RW
                    go_wp2_with fail
                    go_loopg [35] n1 (fun kk i wr => ∃ p : Nat, p + kk = n1 ∧ i = .int .i64 p ∧ Row wr G 4 n2 (fun i => .bool (Plain.has el i p)) n2 ∧ Below w1.heap.size w1 wr)
                    case atStart => exact ⟨0, by omega, rfl, hr6, hbm⟩
                    case round =>
                      clear hr6 hbm
                      obtain ⟨p, hpk, rfl, hr6, hbm⟩ := hrel
                      by_cases hlt : p < n1
                      · obtain ⟨eb, eo, rfl, heb, hec⟩ := S1.out (by omega)
                        obtain ⟨q1, q2⟩ := H1.out p hlt
                        obtain ⟨x, hx⟩ := Int.eq_ofNat_of_zero_le q1
                        have he : wr.cell? ⟨eb, eo + p, none⟩ = some (.int .i64 x) := (hbm.cell (p := ⟨eb, eo + p, none⟩) heb).trans ((hec p hlt).trans (by rw [In, hx]))
                        have hx0 : x < 65536 := by omega
                        by_cases hxn : x < n2
                        · as_aux_lemma =>
                          obtain ⟨old, hs⟩ := hr6.old x hxn
                          have hsf := hr6.free x
                          have HR := hide ((hr6.upd x (.bool true)).congr (f' := fun i => .bool (Plain.has el i (p + 1))) (fun i hi => by
                            by_cases e : i = x
                            · subst e; rw [upd_same, Plain.has, hx]; simp
                            · rw [upd_other _ _ e, Plain.has, hx]; simp; intro e'; exact absurd (by omega) e))
                          have HBr : Hid (Below w1.heap.size w1 (wr.setCell ⟨G, x, none⟩ (.bool true))) := hide (hbm.setCell (p := ⟨G, x, none⟩) hG1 _)
                          clear hec hr6 hbm hx q1 q2
                          go_wp2
                          go_roundg (gk - 1)
                          case measure => omega
                          case rel => exact ⟨p + 1, by omega, by go_num, HR.out, HBr.out⟩
                        · as_aux_lemma =>
                          have HR := hide (hr6.congr (f' := fun i => .bool (Plain.has el i (p + 1))) (fun i hi => by
                            rw [Plain.has, hx]; simp; intro e'; omega))
                          have HBr := hide hbm
                          clear hec hr6 hbm hx q1 q2
                          go_wp2
                          go_roundg (gk - 1)
                          case measure => omega
                          case rel => exact ⟨p + 1, by omega, by go_num, HR.out, HBr.out⟩
                      · obtain rfl : n1 = p := by omega
                        have hLn := Plain.oth_le el n1 n2
                        obtain ⟨L, hL⟩ : ∃ L, (Plain.oth el n1 n2).length = L := ⟨_, rfl⟩
                        rw [hL] at hLn SO
                        rw [hL]
                        have HL := hide hL
                        have HR := hide hr6
                        have HBr := hide hbm
                        clear hL hr6 hbm
                        obtain ⟨w7, hw7⟩ : ∃ w7, w7 = wr := ⟨_, rfl⟩
                        rw [← hw7] at HR HBr
                        rw [← hw7]
                        clear hw7
                        go_wp2_with fail
                        go_loopg [36, 37] n2 (fun kk j i wr => ∃ p : Nat, p + kk = n2 ∧ i = .int .i64 p ∧ j = .int .i64 ((Plain.oth el n1 p).length : Int) ∧ w7 = wr)
                        case atStart => exact ⟨0, by omega, rfl, rfl, rfl⟩
                        case round =>
                          obtain ⟨p, hpk, rfl, rfl, hw⟩ := hrel
                          subst hw
                          obtain ⟨q, hq⟩ : ∃ q, (Plain.oth el n1 p).length = q := ⟨_, rfl⟩
                          have hqp := Plain.oth_le el n1 p
                          rw [hq] at hqp
                          rw [hq]
                          have HQ := hide hq
                          clear hq
                          by_cases hlt : p < n2
                          · have hs : w7.cell? ⟨G, p, none⟩ = some (.bool (Plain.has el p n1)) := HR.out.cell p hlt
                            cases hh : Plain.has el p n1 with
                            | true => as_aux_lemma =>
                              rw [hh] at hs
                              have HH := hide hh
                              clear hh
                              go_wp2
                              go_roundg (gk - 1)
                              case measure => omega
                              case rel => exact ⟨p + 1, by omega, by go_num, by rw [Plain.oth_yes HH.out, HQ.out], rfl⟩
                            | false => as_aux_lemma =>
                              rw [hh] at hs
                              obtain ⟨h1, h2⟩ := Plain.oth_at hh n2 hlt
                              rw [HQ.out, HL.out] at h1
                              rw [HQ.out] at h2
                              obtain ⟨ob, oo, rfl, hob, hoc⟩ := SO.out (by omega)
                              have ho : w7.cell? ⟨ob, oo + q, none⟩ = some (.int .i64 p) := (HBr.out.cell (p := ⟨ob, oo + q, none⟩) hob).trans ((hoc q h1).trans (by rw [In, h2]))
                              have hpp : ((p : Int) != (p : Int)) = false := by simp
                              have HH := hide hh
                              clear hh hoc h2
                              go_wp2
                              go_roundg (gk - 1)
                              case measure => omega
                              case rel => exact ⟨p + 1, by omega, by go_num, by rw [Plain.oth_no HH.out, List.length_append, HQ.out]; simp, rfl⟩
                          · as_aux_lemma =>
                            have hqL : q = L := by
                              have : p = n2 := by omega
                              rw [← HQ.out, ← HL.out, this]
                            subst hqL
                            have hpp : ((q : Int) == (q : Int)) = true := by simp
                            have HE := hide (HB1.out.trans (HBr.out.mono HB1.out.size))
                            go_wp2
                            go_ret
                            exact ⟨rfl, HE.out⟩
end Go.Proofs.Qxb6618430a
