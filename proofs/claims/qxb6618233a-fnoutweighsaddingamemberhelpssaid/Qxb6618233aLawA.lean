import Derived.Test.Qxb6618233aWalkA
namespace Go.Proofs.Qxb6618233a
open Go.RowKit

theorem bo_one (d : Nat → Bool) (i : Nat) : (Bo d i).oneCell' = true := rfl

theorem want_yes {s : Nat → Bool} {n C : Nat} (hC : Plain.cnt s n = C) (h : n < 2 * C) : Plain.want s n = true := by simp [Plain.want, hC, h]
theorem want_half {s : Nat → Bool} {n C : Nat} (hC : Plain.cnt s n = C) (h : 2 * C = n) : Plain.want s n = s 0 := by
  simp [Plain.want, hC, h]
theorem want_no {s : Nat → Bool} {n C : Nat} (hC : Plain.cnt s n = C) (h1 : ¬ n < 2 * C) (h2 : ¬ 2 * C = n) : Plain.want s n = false := by simp [Plain.want, hC, h1, h2]

set_option maxRecDepth 100000 in
set_option maxHeartbeats 3200000 in
theorem split_nil (w : World) : Calls Try.prog 3 #[.slice none 0 0] w fun e w' => e = .returned (.bool true) ∧ Below w.heap.size w w' := by
  have hq := fun (w : World) (a : Option Addr) (n c : Nat) => run_neq_slice_nil_any (P := Try.prog) w 22 4 a n c 0 0 Try.underlying22
  obtain ⟨i0, hi, hz0, hz1, hz2⟩ := info_parts Try.info4
  go_enter Try.func3, Try.ntmps3
  go_wp2_with fail
  refine (bytes6 none 0 0 w (by omega)).mono ?_
  rintro e w' ⟨⟨b, rfl⟩, hw⟩
  subst hw
  cases b with
  | false =>
    go_wp2_with fail
    go_ret
    exact ⟨rfl, Below.refl _ _⟩
  | true =>
    go_wp2_with (at_make; refine wpList_make_full _ rfl _ _ 22 rfl w.heap.size 4 i0 (.bool false) 1 Try.underlying22 hi hz0 hz1 _ _ _ _ 0 rfl rfl rfl rfl ?b1 ?b2 ?b3 ?_)
    case b1 => omega
    case b2 => unfold maxLen; omega
    case b3 => exact Nat.le_refl _
    intro w1 hown hgrow
    have hb1 : Below w.heap.size w w1 := (Below.refl _ _).grown hgrow (Nat.le_refl _) (fun k h => by cases h)
    clear hown hgrow
    go_wp2_with fail
    go_loopg [6] 0 (fun k i wr => i = .int .i64 0 ∧ w1 = wr)
    case atStart => exact ⟨rfl, rfl⟩
    case round =>
      obtain ⟨rfl, hw⟩ := hrel
      subst hw
      have hL : Plain.IsLow (fun _ => false) 0 0 := ⟨Nat.le_refl _, fun i h => by omega, fun h => by omega⟩
      go_wp2_with fail
      refine (zzOutweighs_is none (some ⟨w.heap.size, 0, none⟩) 0 0 0 0 0 0 (fun _ => false) (fun _ => false) w1 false (fun h => by omega) (fun h => by omega) (by omega) (by omega) hL hL (by simp [Plain.ow])).mono ?_
      rintro e w' ⟨rfl, hw⟩
      subst hw
      go_wp2_with fail
      refine (zzOutweighs_is (some ⟨w.heap.size, 0, none⟩) none 0 0 0 0 0 0 (fun _ => false) (fun _ => false) w1 false (fun h => by omega) (fun h => by omega) (by omega) (by omega) hL hL (by simp [Plain.ow])).mono ?_
      rintro e w' ⟨rfl, hw⟩
      subst hw
      go_wp2_with fail
      go_ret
      exact ⟨rfl, hb1⟩

set_option maxRecDepth 100000 in
set_option maxHeartbeats 3200000 in
theorem split_some (x0 : Addr) (n c : Nat) (d : Nat → Bool) (w : World) (hs : Seq w.heap.size w (some x0) n (Bo d)) (hm : n ≤ 9223372036854775807) :
    Calls Try.prog 3 #[.slice (some x0) n c] w fun e w' => e = .returned (.bool true) ∧ Below w.heap.size w w' := by
  have hq := fun (w : World) (a : Option Addr) (n c : Nat) => run_neq_slice_nil_any (P := Try.prog) w 22 4 a n c 0 0 Try.underlying22
  obtain ⟨i0, hi, hz0, hz1, hz2⟩ := info_parts Try.info4
  go_enter Try.func3, Try.ntmps3
  go_wp2_with fail
  refine (bytes6 (some x0) n c w hm).mono ?_
  rintro e w' ⟨⟨b, rfl⟩, hw⟩
  subst hw
  cases b with
  | false =>
    go_wp2_with fail
    go_ret
    exact ⟨rfl, Below.refl _ _⟩
  | true =>
    by_cases h0 : 65536 < n
    · go_wp2_with fail
      go_ret
      exact ⟨rfl, Below.refl _ _⟩
    go_wp2_with (at_make; refine wpList_make_full _ rfl _ _ 22 rfl w.heap.size 4 i0 (.bool false) 1 Try.underlying22 hi hz0 hz1 _ _ _ _ n rfl rfl rfl rfl ?b1 ?b2 ?b3 ?_)
    case b1 => rw [hz2]; omega
    case b2 => unfold maxLen; omega
    case b3 => exact Nat.le_refl _
    intro w1 hown hgrow
    have hb1 : Below w.heap.size w w1 := (Below.refl _ _).grown hgrow (Nat.le_refl _) (fun k h => by cases h)
    have hr1 : Row w1 w.heap.size 4 n (Bo d) 0 := row_of_owns _ hown
    have hs1 := hs.below hb1 (Nat.le_refl _)
    clear hown hgrow hs
    go_wp2_with (refine wpList_copy_full rfl _ _ 22 rfl 4 Try.underlying22 Try.size4 w.heap.size n c _ rfl rfl (Bo d) (Bo d) 0 w.heap.size hr1 hs1 (bo_one d) ?_)
    intro w2 hr2 hb2
    have hb2 := hb1.trans hb2
    have hs2 : Seq w2.heap.size w2 (some ⟨w.heap.size, 0, none⟩) n (Bo d) := hr2.seq hr2.lt
    clear hr1 hs1 hr2 hb1
    go_wp2_with (at_make; refine wpList_make_full _ rfl _ _ 22 rfl w2.heap.size 4 i0 (.bool false) 1 Try.underlying22 hi hz0 hz1 _ _ _ _ n rfl rfl rfl rfl ?d1 ?d2 ?d3 ?_)
    case d1 => rw [hz2]; omega
    case d2 => unfold maxLen; omega
    case d3 => exact Nat.le_refl _
    intro w3 hown hgrow
    have hb3 : Below w2.heap.size w2 w3 := (Below.refl _ _).grown hgrow (Nat.le_refl _) (fun k h => by cases h)
    have hr3 : Row w3 w2.heap.size 4 n (Bo (fun i => !d i)) 0 := row_of_owns _ hown
    clear hown hgrow
    go_wp2_with fail
    go_loopg [6] n (fun k i wr => ∃ p : Nat, p + k = n ∧ i = .int .i64 p ∧ Row wr w2.heap.size 4 n (Bo (fun i => !d i)) p ∧ Below w2.heap.size w2 wr)
    case atStart => exact ⟨0, by omega, rfl, hr3, hb3⟩
    case round =>
      obtain ⟨p, hpk, rfl, hr, hb⟩ := hrel
      clear hr3 hb3
      have hsr := hs2.below hb (Nat.le_refl _)
      by_cases hlt : p < n
      · obtain ⟨b, off, hx, hbs, hc⟩ := hsr (by omega)
        simp only [Option.some.injEq, Addr.mk.injEq, and_true] at hx
        obtain ⟨rfl, rfl⟩ := hx
        have hcp : wr.cell? ⟨w.heap.size, p, none⟩ = some (.bool (d p)) := by have := hc p hlt; rwa [Nat.zero_add] at this
        obtain ⟨v, hv⟩ := hr.old p hlt
        have hf := hr.free p
        have hr' := hr.set hlt
        have hb' : Below w2.heap.size w2 (wr.setCell ⟨w2.heap.size, p, none⟩ (Bo (fun i => !d i) p)) := hb.setCell (by exact Nat.le_refl _) _
        clear hc hsr hs2 hb2
        go_wp2_with fail
        go_roundg (gk - 1)
        case measure => omega
        case rel => exact ⟨p + 1, by omega, by go_num, hr', hb'⟩
      · obtain rfl : n = p := by omega
        have hs3 := hsr.mono hb.size
        have ht3 := hr.seq hr.lt
        have hb3 := hb2.trans (hb.mono hb2.size)
        obtain ⟨ls, hls⟩ := Plain.low_ex d n
        obtain ⟨lt, hlt'⟩ := Plain.low_ex (fun i => !d i) n
        clear hsr hs2 hr hb hb2
        by_cases hn0 : n = 0
        · subst hn0
          obtain ⟨z1, z2⟩ := Plain.split_zero hls hlt'
          go_wp2_with fail
          refine (zzOutweighs_is _ _ 0 _ 0 _ ls lt d (fun i => !d i) wr false hs3 ht3 (by omega) (by omega) hls hlt' z1).mono ?_
          rintro e w' ⟨rfl, hw⟩
          subst hw
          go_wp2_with fail
          refine (zzOutweighs_is _ _ 0 _ 0 _ lt ls (fun i => !d i) d wr false ht3 hs3 (by omega) (by omega) hlt' hls z2).mono ?_
          rintro e w' ⟨rfl, hw⟩
          subst hw
          go_wp2_with fail
          go_ret
          exact ⟨rfl, hb3⟩
        obtain ⟨z1, z2⟩ := Plain.split (s := d) (t := fun i => !d i) (by omega) (fun i _ => rfl) hls hlt'
        obtain ⟨W, hW⟩ : ∃ W, Plain.want d n = W := ⟨_, rfl⟩
        rw [hW] at z1 z2
        have HW := hide hW
        have Z1 := hide z1
        have Z2 := hide z2
        clear z1 z2 hW
        have hnb : ((n : Int) == 0) = false := by simp; omega
        go_wp2_with fail
        refine (zzOutweighs_is _ _ n _ n _ ls lt d (fun i => !d i) wr W hs3 ht3 (by omega) (by omega) hls hlt' Z1.out).mono ?_
        rintro e w' ⟨rfl, hw⟩
        subst hw
        go_wp2_with fail
        refine (zzOutweighs_is _ _ n _ n _ lt ls (fun i => !d i) d wr (!W) ht3 hs3 (by omega) (by omega) hlt' hls Z2.out).mono ?_
        rintro e w' ⟨rfl, hw⟩
        subst hw
        go_wp2_with fail
        refine (countTrue_any _ n _ d wr hs3 (by omega)).mono ?_
        rintro e w' ⟨rfl, hw⟩
        subst hw
        obtain ⟨C, hC⟩ : ∃ C, Plain.cnt d n = C := ⟨_, rfl⟩
        have hCn : C ≤ n := by have := Plain.cnt_le d n; omega
        have HC := hide hC
        rw [hC]
        clear hC Z1 Z2 hls hlt'
        obtain ⟨b, off, hx, hbs, hc⟩ := hs3 (by omega)
        simp only [Option.some.injEq, Addr.mk.injEq, and_true] at hx
        obtain ⟨rfl, rfl⟩ := hx
        have hc0 : wr.cell? ⟨w.heap.size, 0, none⟩ = some (.bool (d 0)) := hc 0 (by omega)
        have hnp : (0 : Int) < (n : Int) := by omega
        clear hc hs3 ht3
        by_cases h1 : n < 2 * C
        · have e1 := want_yes HC.out h1
          obtain rfl : true = W := e1.symm.trans HW.out
          have k1 : (n : Int) < 2 * (C : Int) := by omega
          clear e1 HW HC h1
          go_wp2_with fail
          go_ret
          exact ⟨rfl, hb3⟩
        have k1 : decide ((n : Int) < 2 * (C : Int)) = false := decide_eq_false (by omega)
        by_cases h2 : 2 * C = n
        · have e1 := (want_half HC.out h2).symm.trans HW.out
          have k2 : (2 * (C : Int) == (n : Int)) = true := by simp; omega
          clear HC HW h1 h2
          subst e1
          cases hd0 : d 0
          · rw [hd0] at hc0
            clear hd0
            go_wp2_with fail
            go_ret
            exact ⟨rfl, hb3⟩
          · rw [hd0] at hc0
            clear hd0
            go_wp2_with fail
            go_ret
            exact ⟨rfl, hb3⟩
        · have e1 := want_no HC.out h1 h2
          obtain rfl : false = W := e1.symm.trans HW.out
          have k2 : (2 * (C : Int) == (n : Int)) = false := by simp; omega
          clear e1 HW HC h1 h2
          go_wp2_with fail
          go_ret
          exact ⟨rfl, hb3⟩
end Go.Proofs.Qxb6618233a
