import Derived.Test.Qxb6618233aLawA
import Derived.Deep.DeepCutAuto
namespace Go.Proofs.Qxb6618233a
open Go.RowKit

set_option maxRecDepth 100000 in
set_option maxHeartbeats 6400000 in
theorem add_walk (a0 : Option Addr) (n cap0 : Nat) (d : Nat → Bool) (a1 : Option Addr) (m cap1 : Nat) (b : Nat → Bool) (z : Int) (w : World) (s0 : Seq w.heap.size w a0 n (Bo d)) (l0 : a0 = none → n = 0 ∧ cap0 = 0) (m0 : n ≤ 9223372036854775807)
    (s1 : Seq w.heap.size w a1 m (Bo b)) (l1 : a1 = none → m = 0 ∧ cap1 = 0) (m1 : m ≤ 9223372036854775807) (hz : -9223372036854775808 ≤ z ∧ z ≤ 9223372036854775807) :
    Calls Try.prog 4 #[.slice a0 n cap0, .slice a1 m cap1, .int .i64 z] w fun e w' => e = .returned (.bool true) ∧ Below w.heap.size w w' := by
  have hq := fun (w : World) (a : Option Addr) (n c : Nat) => run_neq_slice_nil_any (P := Try.prog) w 22 4 a n c 0 0 Try.underlying22
  obtain ⟨i0, hi, hz0, hz1, hz2⟩ := info_parts Try.info4
  go_enter Try.func4, Try.ntmps4
  go_wp2_with fail
  refine (bytes9 a0 a1 n cap0 m cap1 z w m0 m1).mono ?_
  rintro e w' ⟨⟨b, rfl⟩, hw⟩
  subst hw
  cases b with
  | false =>
    go_wp2_with fail
    go_ret
    exact ⟨rfl, Below.refl _ _⟩
  | true =>
    by_cases c0 : 65536 < n
    · go_wp2_with fail
      go_ret
      exact ⟨rfl, Below.refl _ _⟩
    by_cases c1 : 65536 < m
    · go_wp2_with fail
      go_ret
      exact ⟨rfl, Below.refl _ _⟩
    by_cases c2 : z < 0
    · go_wp2_with fail
      go_ret
      exact ⟨rfl, Below.refl _ _⟩
    by_cases c3 : (n : Int) ≤ z
    · go_wp2_with fail
      go_ret
      exact ⟨rfl, Below.refl _ _⟩
    obtain ⟨k, rfl⟩ := Int.eq_ofNat_of_zero_le (show 0 ≤ z by omega)
    have hk : k < n := by omega
    clear c2 c3 hz
    cases a0 with
    | none => have := (l0 rfl).1; omega
    | some x0 =>
    clear l0
    go_wp2_with (at_make; refine wpList_make_full _ rfl _ _ 22 rfl w.heap.size 4 i0 (.bool false) 1 Try.underlying22 hi hz0 hz1 _ _ _ _ n rfl rfl rfl rfl ?b1 ?b2 ?b3 ?_)
    case b1 => rw [hz2]; omega
    case b2 => unfold maxLen; omega
    case b3 => exact Nat.le_refl _
    intro w1 hown hgrow
    have hb1 : Below w.heap.size w w1 := (Below.refl _ _).grown hgrow (Nat.le_refl _) (fun k h => by cases h)
    have hr1 : Row w1 w.heap.size 4 n (Bo d) 0 := row_of_owns _ hown
    have hs1 := s0.below hb1 (Nat.le_refl _)
    clear hown hgrow s0
    go_wp2_with (refine wpList_copy_full rfl _ _ 22 rfl 4 Try.underlying22 Try.size4 w.heap.size n cap0 _ rfl rfl (Bo d) (Bo d) 0 w.heap.size hr1 hs1 (bo_one d) ?_)
    intro w2 hr2 hb2
    have hb2 := hb1.trans hb2
    have s0 : Seq w2.heap.size w2 (some ⟨w.heap.size, 0, none⟩) n (Bo d) := hr2.seq hr2.lt
    have s1 := (s1.below hb2 (Nat.le_refl _)).mono hb2.size
    clear hr1 hs1 hr2 hb1
    go_upto_if 42 with fail
    go_cut [1] (fun x wr => ∃ b1 k1, x = .slice b1 m k1 ∧ Seq wr.heap.size wr b1 m (Bo b) ∧ Seq wr.heap.size wr (some ⟨w.heap.size, 0, none⟩) n (Bo d) ∧ Below w.heap.size w wr)
    case first =>
      cases a1 with
      | none =>
        obtain ⟨rfl, rfl⟩ := l1 rfl
        clear l1
        go_wp2_with fail
        go_meet
        exact ⟨none, 0, rfl, s1, s0, hb2⟩
      | some x1 =>
        clear l1
        go_wp2_with (at_make; refine wpList_make_full _ rfl _ _ 22 rfl w2.heap.size 4 i0 (.bool false) 1 Try.underlying22 hi hz0 hz1 _ _ _ _ m rfl rfl rfl rfl ?e1 ?e2 ?e3 ?_)
        case e1 => rw [hz2]; omega
        case e2 => unfold maxLen; omega
        case e3 => exact Nat.le_refl _
        intro w3 hown hgrow
        have hb3 : Below w2.heap.size w2 w3 := (Below.refl _ _).grown hgrow (Nat.le_refl _) (fun k h => by cases h)
        have hr3 : Row w3 w2.heap.size 4 m (Bo b) 0 := row_of_owns _ hown
        have s1 := s1.below hb3 (Nat.le_refl _)
        clear hown hgrow
        go_wp2_with (refine wpList_copy_full rfl _ _ 22 rfl 4 Try.underlying22 Try.size4 w2.heap.size m cap1 _ rfl rfl (Bo b) (Bo b) 0 w2.heap.size hr3 s1 (bo_one b) ?_)
        intro w4 hr4 hb4
        have hb4 := hb3.trans hb4
        go_wp2_with fail
        go_meet
        exact ⟨_, _, rfl, hr4.seq hr4.lt, (s0.below hb4 (Nat.le_refl _)).mono hb4.size, hb2.trans (hb4.mono hb2.size)⟩
    case rest =>
      clear s0 s1 hb2 l1
      obtain ⟨b1, k1, rfl, s1, s0, hb⟩ := hcut
      go_wp2_with (at_make; refine wpList_make_full _ rfl _ _ 22 rfl wc.heap.size 4 i0 (.bool false) 1 Try.underlying22 hi hz0 hz1 _ _ _ _ n rfl rfl rfl rfl ?f1 ?f2 ?f3 ?_)
      case f1 => rw [hz2]; omega
      case f2 => unfold maxLen; omega
      case f3 => exact Nat.le_refl _
      intro w3 hown hgrow
      have hb3 : Below wc.heap.size wc w3 := (Below.refl _ _).grown hgrow (Nat.le_refl _) (fun k h => by cases h)
      have hr3 : Row w3 wc.heap.size 4 n (Bo d) 0 := row_of_owns _ hown
      clear hown hgrow
      go_wp2_with fail
      go_loopg [10] n (fun k i wr => ∃ p : Nat, p + k = n ∧ i = .int .i64 p ∧ Row wr wc.heap.size 4 n (Bo d) p ∧ Below wc.heap.size wc wr)
      case atStart => exact ⟨0, by omega, rfl, hr3, hb3⟩
      case round =>
        obtain ⟨p, hpk, rfl, hr, hbr⟩ := hrel
        clear hr3 hb3
        have t0 := s0.below hbr (Nat.le_refl _)
        obtain ⟨bb, off, hx, hbs, hc⟩ := id t0 (by omega)
        simp only [Option.some.injEq, Addr.mk.injEq, and_true] at hx
        obtain ⟨rfl, rfl⟩ := hx
        replace hc : ∀ i, i < n → wr.cell? ⟨w.heap.size, i, none⟩ = some (.bool (d i)) := fun i hi => by have := hc i hi; rwa [Nat.zero_add] at this
        by_cases hlt : p < n
        · have hcp := hc p hlt
          obtain ⟨v, hv⟩ := hr.old p hlt
          have hf := hr.free p
          have hr' := hr.set hlt
          have hb' : Below wc.heap.size wc (wr.setCell ⟨wc.heap.size, p, none⟩ (Bo d p)) := hbr.setCell (by exact Nat.le_refl _) _
          clear hc t0 s0 s1 hb
          go_wp2_with fail
          go_roundg (gk - 1)
          case measure => omega
          case rel => exact ⟨p + 1, by omega, by go_num, hr', hb'⟩
        · obtain rfl : n = p := by omega
          have hck := hc k hk
          have hv := hr.cell k hk
          have hf := hr.free k
          have hb' : Below wc.heap.size wc (wr.setCell ⟨wc.heap.size, k, none⟩ (.bool true)) := hbr.setCell (by exact Nat.le_refl _) _
          have hr' : Row (wr.setCell ⟨wc.heap.size, k, none⟩ (.bool true)) wc.heap.size 4 n (Bo (fun i => if i = k then true else d i)) n := (hr.put k (.bool true)).congr (fun i _ => by
            simp only [Bo]
            split <;> rfl)
          obtain ⟨wx, hwx⟩ : ∃ wx, wx = wr.setCell ⟨wc.heap.size, k, none⟩ (.bool true) := ⟨_, rfl⟩
          rw [← hwx] at hb' hr'
          have t0 := (s0.below hb' (Nat.le_refl _)).mono hb'.size
          have t1 := (s1.below hb' (Nat.le_refl _)).mono hb'.size
          have t2 := hr'.seq hr'.lt
          have ub := hb.trans (hb'.mono hb.size)
          have hckx : wx.cell? ⟨w.heap.size, k, none⟩ = some (.bool (d k)) := by
            obtain ⟨b', o', hx, _, hc'⟩ := id t0 (by omega)
            simp only [Option.some.injEq, Addr.mk.injEq, and_true] at hx
            obtain ⟨rfl, rfl⟩ := hx
            have := hc' k hk
            rwa [Nat.zero_add] at this
          have HX := hide hwx
          clear hc s0 s1 hb hr hbr hr' hb' hwx hck
          obtain ⟨la, hla⟩ := Plain.low_ex d n
          obtain ⟨l2, hl2⟩ := Plain.low_ex (fun i => if i = k then true else d i) n
          obtain ⟨lb, hlb⟩ := Plain.low_ex b m
          obtain ⟨r1, r2, r3, r4⟩ := Plain.more_laws (a := d) (a2 := fun i => if i = k then true else d i) hk (fun i => rfl) (cb := Plain.cnt b m) (lb := lb) hla hl2
          have R1 := hide r1
          have R2 := hide r2
          have R3 := hide r3
          have R4 := hide r4
          clear r1 r2 r3 r4
          have e1 : ((!d k) != (!d k)) = false := by simp
          go_wp2_with fail
          rw [← HX.out]
          clear HX hv hf
          refine (zzOutweighs_is _ _ n _ n _ l2 la (fun i => if i = k then true else d i) d wx (!d k) t2 t0 (by omega) (by omega) hl2 hla R1.out).mono ?_
          rintro e w' ⟨rfl, hw⟩
          subst hw
          go_wp2_with fail
          refine (zzOutweighs_is _ _ n _ n _ la l2 d (fun i => if i = k then true else d i) wx false t0 t2 (by omega) (by omega) hla hl2 R2.out).mono ?_
          rintro e w' ⟨rfl, hw⟩
          subst hw
          go_wp2_with fail
          obtain ⟨X, hX⟩ : ∃ X, Plain.ow (Plain.cnt d n) la (Plain.cnt b m) lb = X := ⟨_, rfl⟩
          refine (zzOutweighs_is _ _ n _ m _ la lb d b wx X t0 t1 (by omega) (by omega) hla hlb hX).mono ?_
          rintro e w' ⟨rfl, hw⟩
          subst hw
          obtain ⟨Y, hY⟩ : ∃ Y, Plain.ow (Plain.cnt b m) lb (Plain.cnt (fun i => if i = k then true else d i) n) l2 = Y := ⟨_, rfl⟩
          have HY := hide hY
          have HX := hide hX
          clear hX hY
          cases X with
          | false =>
            go_wp2_with fail
            refine (zzOutweighs_is _ _ m _ n _ lb l2 b (fun i => if i = k then true else d i) wx Y t1 t2 (by omega) (by omega) hlb hl2 HY.out).mono ?_
            rintro e w' ⟨rfl, hw⟩
            subst hw
            cases Y with
            | false =>
              go_wp2_with fail
              go_ret
              exact ⟨rfl, ub⟩
            | true =>
              go_wp2_with fail
              refine (zzOutweighs_is _ _ m _ n _ lb la b d wx true t1 t0 (by omega) (by omega) hlb hla (R4.out HY.out)).mono ?_
              rintro e w' ⟨rfl, hw⟩
              subst hw
              go_wp2_with fail
              go_ret
              exact ⟨rfl, ub⟩
          | true =>
            go_wp2_with fail
            refine (zzOutweighs_is _ _ n _ m _ l2 lb (fun i => if i = k then true else d i) b wx true t2 t1 (by omega) (by omega) hl2 hlb (R3.out HX.out)).mono ?_
            rintro e w' ⟨rfl, hw⟩
            subst hw
            go_wp2_with fail
            refine (zzOutweighs_is _ _ m _ n _ lb l2 b (fun i => if i = k then true else d i) wx Y t1 t2 (by omega) (by omega) hlb hl2 HY.out).mono ?_
            rintro e w' ⟨rfl, hw⟩
            subst hw
            cases Y with
            | false =>
              go_wp2_with fail
              go_ret
              exact ⟨rfl, ub⟩
            | true =>
              go_wp2_with fail
              refine (zzOutweighs_is _ _ m _ n _ lb la b d wx true t1 t0 (by omega) (by omega) hlb hla (R4.out HY.out)).mono ?_
              rintro e w' ⟨rfl, hw⟩
              subst hw
              go_wp2_with fail
              go_ret
              exact ⟨rfl, ub⟩
end Go.Proofs.Qxb6618233a
