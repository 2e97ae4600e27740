import Derived.Test.Qxb6618116aWalkF
import Derived.Deep.DeepCutAuto
import Derived.Deep.RegionWith
namespace Go.Proofs.Qxb6618116a
open Go.RowKit

theorem hide' {p : Prop} (h : p) : Hid p := h

theorem sep_ex (c : Int) : ∃ m t, Sep c m t ∧ t ≤ 1 := by
  unfold Sep
  cases h1 : (c == 125) <;> cases h2 : (c == 93) <;> cases h3 : (c == 44)
  · exact ⟨true, 0, .inr (.inr (.inr ⟨rfl, rfl, rfl, rfl, rfl⟩)), by omega⟩
  · exact ⟨true, 1, .inr (.inr (.inl ⟨rfl, rfl, rfl, rfl, rfl⟩)), by omega⟩
  · exact ⟨false, 1, .inr (.inl ⟨rfl, rfl, rfl, rfl⟩), by omega⟩
  · exact ⟨false, 1, .inr (.inl ⟨rfl, rfl, rfl, rfl⟩), by omega⟩
  all_goals exact ⟨false, 1, .inl ⟨rfl, rfl, rfl⟩, by omega⟩

theorem sep_parts {c : Int} {m : Bool} {t : Nat} (h : Sep c m t) : ∃ B, (c == 125 || c == 93) = B ∧ ((B = true ∧ m = false ∧ t = 1) ∨ (B = false ∧ (c == 44) = true ∧ m = true ∧ t = 1) ∨ (B = false ∧ (c == 44) = false ∧ m = true ∧ t = 0)) := by
  refine ⟨_, rfl, ?_⟩
  rcases h with ⟨k1, k2, k3⟩ | ⟨k1, k2, k3, k4⟩ | ⟨k1, k2, k3, k4, k5⟩ | ⟨k1, k2, k3, k4, k5⟩
  · exact .inl ⟨by rw [k1]; rfl, k2, k3⟩
  · exact .inl ⟨by rw [k1, k2]; rfl, k3, k4⟩
  · exact .inr (.inl ⟨by rw [k1, k2]; rfl, k3, k4, k5⟩)
  · exact .inr (.inr ⟨by rw [k1, k2]; rfl, k3, k4, k5⟩)

/-- The document with white space put in at x. -/
theorem spaced_tok {d0 d5 : Nat → Int} {n n5 s p x : Nat} (hv : ∀ i, i < n5 → Plain.isWS (d5 i) = true) (hs : s ≤ x) (hx : x ≤ p) (hp : p < n) (h : Plain.FirstTok d0 n s p) :
    Plain.FirstTok (cat3 d0 d5 (fun i => d0 (x + i)) x n5) (x + n5 + (n - x)) s (p + n5) ∧ cat3 d0 d5 (fun i => d0 (x + i)) x n5 (p + n5) = d0 p := by
  have h2 : ∀ i, x ≤ i → i < n → cat3 d0 d5 (fun i => d0 (x + i)) x n5 (i + n5) = d0 i := fun i h1 h2 => by
    rw [show i + n5 = x + n5 + (i - x) by omega, cat3_2, show x + (i - x) = i by omega]
  refine ⟨?_, h2 p hx hp⟩
  rw [show x + n5 + (n - x) = n + n5 by omega]
  exact Plain.firstTok_spaced (fun i hi => cat3_0 hi) (fun i hi => cat3_1 hi) h2 hv hs hx h

theorem Seq.from {B : Nat} {w : World} {b off n x : Nat} {d : Nat → Int} (h : Seq B w (some ⟨b, off, none⟩) n (By d)) (hx : x ≤ n) : Seq B w (some ⟨b, off + x, none⟩) (n - x) (By (fun i => d (x + i))) := fun hn => by
  obtain ⟨b', off', ha, hb, hc⟩ := h (by omega)
  simp only [Option.some.injEq, Addr.mk.injEq, and_true] at ha
  obtain ⟨rfl, rfl⟩ := ha
  exact ⟨b, off + x, rfl, hb, fun i hi => by rw [Nat.add_assoc]; exact hc (x + i) (by omega)⟩

set_option maxRecDepth 100000 in
set_option maxHeartbeats 6400000 in
theorem law5_walk (a0 : Option Addr) (len0 cap0 : Nat) (a1 a2 : Int) (a3 : Bool) (a4 : Option Addr) (len4 cap4 : Nat) (a5 : Option Addr) (len5 cap5 : Nat) (a6 : Int) (d0 d4 d5 : Nat → Int) (w : World)
    (s0 : Seq w.heap.size w a0 len0 (By d0)) (l0 : a0 = none → len0 = 0 ∧ cap0 = 0) (m0 : len0 ≤ 9223372036854775807) (hk1 : -9223372036854775808 ≤ a1 ∧ a1 ≤ 9223372036854775807) (hk6 : -9223372036854775808 ≤ a6 ∧ a6 ≤ 9223372036854775807)
    (s4 : Seq w.heap.size w a4 len4 (By d4)) (l4 : a4 = none → len4 = 0 ∧ cap4 = 0) (m4 : len4 ≤ 9223372036854775807) (s5 : Seq w.heap.size w a5 len5 (By d5)) (l5 : a5 = none → len5 = 0 ∧ cap5 = 0) (m5 : len5 ≤ 9223372036854775807) :
    Calls Try.prog 5 #[.slice a0 len0 cap0, .int .i64 a1, .int .i64 a2, .bool a3, .slice a4 len4 cap4, .slice a5 len5 cap5, .int .i64 a6] w fun e w' => e = .returned (.bool true) ∧ Below w.heap.size w w' := by
  go_enter Try.func5, Try.ntmps5
  go_wp2_with fail
  refine (bytes15 a0 a4 a5 len0 cap0 len4 cap4 len5 cap5 a1 a2 a6 a3 w m0 m4 m5).mono ?_
  rintro e w' ⟨⟨b, rfl⟩, hw⟩
  subst hw
  cases b with
  | false =>
    go_wp2_with fail
    go_ret
    exact ⟨rfl, Below.refl _ _⟩
  | true =>
    by_cases h0 : 65536 < len0
    · go_wp2_with fail
      go_ret
      exact ⟨rfl, Below.refl _ _⟩
    by_cases h4 : 65536 < len4
    · go_wp2_with fail
      go_ret
      exact ⟨rfl, Below.refl _ _⟩
    by_cases h5 : 65536 < len5
    · go_wp2_with fail
      go_ret
      exact ⟨rfl, Below.refl _ _⟩
    by_cases h1 : a1 < 0
    · go_wp2_with fail
      go_ret
      exact ⟨rfl, Below.refl _ _⟩
    by_cases h1' : (len0 : Int) < a1
    · go_wp2_with fail
      go_ret
      exact ⟨rfl, Below.refl _ _⟩
    obtain ⟨s, rfl⟩ := Int.eq_ofNat_of_zero_le (show 0 ≤ a1 by omega)
    have hs : s ≤ len0 := by omega
    clear h1 h1'
    go_wp2_with fail
    refine (clone_any a0 len0 cap0 d0 w s0 l0 (by omega)).mono ?_
    rintro e w1 ⟨b0, k0, rfl, q0, r0, t0, u0⟩
    have s4 := (s4.below u0 (Nat.le_refl _)).mono u0.size
    have s5 := (s5.below u0 (Nat.le_refl _)).mono u0.size
    go_wp2_with fail
    refine (clone_any a4 len4 cap4 d4 w1 s4 l4 (by omega)).mono ?_
    rintro e w2 ⟨b4, k4, rfl, q4, r4, t4, u4⟩
    have s5 := (s5.below u4 (Nat.le_refl _)).mono u4.size
    have t0 := (t0.below u4 (Nat.le_refl _)).mono u4.size
    have u4 := u0.trans (u4.mono u0.size)
    go_wp2_with fail
    refine (clone_any a5 len5 cap5 d5 w2 s5 l5 (by omega)).mono ?_
    rintro e w3 ⟨b5, k5, rfl, q5, r5, t5, u5⟩
    have t0 := (t0.below u5 (Nat.le_refl _)).mono u5.size
    have t4 := (t4.below u5 (Nat.le_refl _)).mono u5.size
    have u5 := u4.trans (u5.mono u4.size)
    go_wp2_with fail
    refine (clone_any b0 len0 k0 d0 w3 t0 q0 (by omega)).mono ?_
    rintro e w4 ⟨br, kr, rfl, qr, rr, tr, ur⟩
    have t0 := (t0.below ur (Nat.le_refl _)).mono ur.size
    have t4 := (t4.below ur (Nat.le_refl _)).mono ur.size
    have t5 := (t5.below ur (Nat.le_refl _)).mono ur.size
    have ur := u5.trans (ur.mono u5.size)
    clear u0 u4 u5 s0 s4 s5 l0 l4 l5 m0 m4 m5 q0 q4 q5 qr r0 r4 r5
    go_wp2_with fail
    go_loopg [16] (len0 - s) (fun k i wr => ∃ p : Nat, p + k = len0 ∧ s ≤ p ∧ i = .int .i64 p ∧ (∀ i, s ≤ i → i < p → Plain.isWS (d0 i) = true) ∧ w4 = wr)
    case atStart => exact ⟨s, by omega, Nat.le_refl _, rfl, fun i h1 h2 => by omega, rfl⟩
    case round =>
      obtain ⟨p, hpk, hsp, rfl, hbef, hw⟩ := hrel
      subst hw
      have HB : Hid (∀ i, s ≤ i → i < p → Plain.isWS (d0 i) = true) := hbef
      clear hbef
      by_cases hlt : p < len0
      rotate_left
      · have hpl : ((p : Int) == (len0 : Int)) = true := by simp; omega
        go_wp2_with fail
        go_ret
        exact ⟨rfl, ur⟩
      obtain ⟨rb, roff, rfl, hrb, hrcell⟩ := id tr (by omega)
      have hrp : w4.cell? ⟨rb, roff + p, none⟩ = some (.int .u8 (d0 p)) := hrcell p hlt
      clear hrcell
      cases hst : Plain.isWS (d0 p)
      rotate_left
      · have HS : Hid (Plain.isWS (d0 p) = true) := hst
        clear hst
        go_wp2_with fail
        refine (isWS_is HS.out w4).mono ?_
        rintro e w' ⟨rfl, hw⟩
        subst hw
        go_wp2_with fail
        go_roundg (gk - 1)
        case measure => omega
        case rel => exact ⟨p + 1, by omega, by omega, by go_num, fun i h1 h2 => (by by_cases e : i = p; exact e ▸ HS.out; exact HB.out i h1 (by omega)), rfl⟩
      have HS : Hid (Plain.isWS (d0 p) = false) := hst
      clear hst
      have hpl : ((p : Int) == (len0 : Int)) = false := by simp; omega
      have hE : Plain.FirstTok d0 len0 s p := ⟨hsp, by omega, HB.out, fun _ => HS.out⟩
      go_wp2_with fail
      refine (isWS_is HS.out w4).mono ?_
      rintro e w' ⟨rfl, hw⟩
      subst hw
      obtain ⟨m, t, hsep, ht⟩ := sep_ex (d0 p)
      clear HS HB
      obtain ⟨B, hB, hparts⟩ := sep_parts hsep
      have HB : Hid ((d0 p == 125 || d0 p == 93) = B) := hB
      clear hB
      go_upto_region 18 with fail
      go_cut [103] (fun x wr => x = .bool B ∧ w4 = wr)
      case first =>
        cases k1 : (d0 p == 125) <;> cases k2 : (d0 p == 93)
        all_goals
          go_wp2_with fail
          go_meet
          exact ⟨by rw [← HB.out, k1, k2]; rfl, rfl⟩
      case rest =>
        obtain ⟨rfl, hw⟩ := hcut
        subst hw
        clear HB
        go_upto_if 103 with fail
        go_cut [17, 18] (fun x y wr => x = .bool m ∧ y = .int .i64 ((p : Int) + (t : Int)) ∧ w4 = wr)
        case first =>
          clear hsep
          rcases hparts with ⟨rfl, rfl, rfl⟩ | ⟨rfl, k3, rfl, rfl⟩ | ⟨rfl, k3, rfl, rfl⟩
          all_goals
            go_wp2_with fail
            go_meet
            exact ⟨rfl, by go_num, rfl⟩
        case rest =>
          obtain ⟨rfl, rfl, hw⟩ := hcut
          subst hw
          clear hparts hrp
          go_wp2_with fail
          refine (zzMore_of b0 len0 k0 s p _ ((p : Int) + (t : Int)) rfl a2 a3 m t (by omega) d0 w4 t0 (by omega) hE hlt hsep).mono ?_
          rintro e w6 ⟨rfl, v6⟩
          have t0 := (t0.below v6 (Nat.le_refl _)).mono v6.size
          have t4 := (t4.below v6 (Nat.le_refl _)).mono v6.size
          have t5 := (t5.below v6 (Nat.le_refl _)).mono v6.size
          have tr := (tr.below v6 (Nat.le_refl _)).mono v6.size
          have ur := ur.trans (v6.mono ur.size)
          clear v6
          have e0 : (m != m) = false := by simp
          have e1 : ((p : Int) + (t : Int) != (p : Int) + (t : Int)) = false := by simp
          have e2 : (a2 != a2) = false := by simp
          have e3 : (a3 != a3) = false := by simp
          go_wp2_with fail
          refine (same_any b0 _ len0 k0 kr d0 w6 t0 tr (by omega)).mono ?_
          rintro e w7 ⟨rfl, q7, hw⟩
          have v7 : Below w6.heap.size w6 w7 := by rw [hw]; exact below_drewN' (Below.refl _ _) _
          clear hw
          have t4 := (t4.below v7 (Nat.le_refl _)).mono v7.size
          have t5 := (t5.below v7 (Nat.le_refl _)).mono v7.size
          have tr := (tr.below v7 (Nat.le_refl _)).mono v7.size
          have ur := ur.trans (v7.mono ur.size)
          clear v7 t0
          go_wp2_with fail
          refine (join3_any b4 _ none len4 k4 len0 kr 0 0 d4 d0 d0 w7 t4 tr (fun h => by omega) (by omega) (by omega) (by omega)).mono ?_
          rintro e w8 ⟨b8, rfl, t8, v8⟩
          have t5 := (t5.below v8 (Nat.le_refl _)).mono v8.size
          have tr := (tr.below v8 (Nat.le_refl _)).mono v8.size
          have ur := ur.trans (v8.mono ur.size)
          clear v8 t4
          have hd8 : ∀ i, i < len0 → cat3 d4 d0 d0 len4 len0 (i + len4) = d0 i := fun i hi => by rw [Nat.add_comm, cat3_1 hi]
          have hE' : Plain.FirstTok (cat3 d4 d0 d0 len4 len0) (len4 + len0 + 0) (s + len4) (p + len4) := Plain.firstTok_shift hd8 (by omega) hE
          have hsep' : Sep (cat3 d4 d0 d0 len4 len0 (p + len4)) m t := by rw [hd8 p hlt]; exact hsep
          have e4 : ((p : Int) + (t : Int) + (len4 : Int) != (p : Int) + (t : Int) + (len4 : Int)) = false := by simp
          clear hd8
          go_wp2_with fail
          refine (zzMore_of b8 (len4 + len0 + 0) (len4 + len0 + 0) (s + len4) (p + len4) _ ((p : Int) + (t : Int) + (len4 : Int)) (by omega) a2 a3 m t (by omega) _ w8 t8 (by omega) hE' (by omega) hsep').mono ?_
          rintro e w9 ⟨rfl, v9⟩
          have t5 := (t5.below v9 (Nat.le_refl _)).mono v9.size
          have tr := (tr.below v9 (Nat.le_refl _)).mono v9.size
          have ur := ur.trans (v9.mono ur.size)
          clear v9 t8 hE' hsep'
          go_wp2_with fail
          go_loopg [28, 29] len5 (fun k x y wr => ∃ q : Nat, ∃ A : Bool, q + k = len5 ∧ y = .int .i64 q ∧ x = .bool A ∧ (A = true → ∀ i, i < q → Plain.isWS (d5 i) = true) ∧ w9 = wr)
          case atStart => exact ⟨0, true, by omega, rfl, rfl, fun _ i hi => by omega, rfl⟩
          case round =>
            obtain ⟨q, A, hqk, rfl, rfl, hA, hw⟩ := hrel
            subst hw
            have HA : Hid (A = true → ∀ i, i < q → Plain.isWS (d5 i) = true) := hA
            clear hA
            by_cases hlt5 : q < len5
            · obtain ⟨vb, voff, rfl, hvb, hvcell⟩ := id t5 (by omega)
              have hvq : w9.cell? ⟨vb, voff + q, none⟩ = some (.int .u8 (d5 q)) := hvcell q hlt5
              clear hvcell
              cases hst : Plain.isWS (d5 q)
              · have HS : Hid (Plain.isWS (d5 q) = false) := hst
                clear hst
                go_wp2_with fail
                refine (isWS_is HS.out w9).mono ?_
                rintro e w' ⟨rfl, hw⟩
                subst hw
                go_wp2_with fail
                go_roundg (gk - 1)
                case measure => omega
                case rel => exact ⟨q + 1, false, by omega, by go_num, rfl, fun h => (by cases h), rfl⟩
              · have HS : Hid (Plain.isWS (d5 q) = true) := hst
                clear hst
                go_wp2_with fail
                refine (isWS_is HS.out w9).mono ?_
                rintro e w' ⟨rfl, hw⟩
                subst hw
                go_wp2_with fail
                go_roundg (gk - 1)
                case measure => omega
                case rel => exact ⟨q + 1, A, by omega, by go_num, rfl, fun h i hi => (by by_cases e : i = q; exact e ▸ HS.out; exact HA.out h i (by omega)), rfl⟩
            · obtain rfl : len5 = q := by omega
              cases A with
              | false =>
                go_wp2_with fail
                go_ret
                exact ⟨rfl, ur⟩
              | true =>
                by_cases c1 : a6 < (s : Int)
                · have c1' : decide ((s : Int) ≤ a6) = false := decide_eq_false (by omega)
                  go_wp2_with fail
                  go_ret
                  exact ⟨rfl, ur⟩
                by_cases c2 : (p : Int) < a6
                · have c1' : decide ((s : Int) ≤ a6) = true := decide_eq_true (by omega)
                  have c2' : decide (a6 ≤ (p : Int)) = false := decide_eq_false (by omega)
                  go_wp2_with fail
                  go_ret
                  exact ⟨rfl, ur⟩
                obtain ⟨x, rfl⟩ := Int.eq_ofNat_of_zero_le (show 0 ≤ a6 by omega)
                have hx1 : s ≤ x := by omega
                have hx2 : x ≤ p := by omega
                obtain ⟨hT, hTc⟩ := spaced_tok (HA.out rfl) hx1 hx2 hlt hE
                have hsep2 : Sep (cat3 d0 d5 (fun i => d0 (x + i)) x len5 (p + len5)) m t := by rw [hTc]; exact hsep
                have HJ : Hid (∀ wx, Below w9.heap.size w9 wx → wx.heap.size = w9.heap.size → Calls Try.prog 11 #[.slice (some ⟨rb, roff, none⟩) x kr, .slice b5 len5 k5, .slice (some ⟨rb, roff + x, none⟩) (len0 - x) (kr - x)] wx fun e w' => ∃ a, e = .returned (.slice a (x + len5 + (len0 - x)) (x + len5 + (len0 - x))) ∧ Seq w'.heap.size w' a (x + len5 + (len0 - x)) (By (cat3 d0 d5 (fun i => d0 (x + i)) x len5)) ∧ Below w.heap.size w w') := by
                  intro wx hbx hsz
                  have g1 : Seq wx.heap.size wx (some ⟨rb, roff, none⟩) x (By d0) := by rw [hsz]; exact (tr.below hbx (Nat.le_refl _)).shorter (by omega)
                  have g2 : Seq wx.heap.size wx b5 len5 (By d5) := by rw [hsz]; exact t5.below hbx (Nat.le_refl _)
                  have g3 : Seq wx.heap.size wx (some ⟨rb, roff + x, none⟩) (len0 - x) (By (fun i => d0 (x + i))) := by rw [hsz]; exact (tr.below hbx (Nat.le_refl _)).from (by omega)
                  refine (join3_any _ _ _ x kr len5 k5 (len0 - x) (kr - x) d0 d5 _ wx g1 g2 g3 (by omega) (by omega) (by omega)).mono fun e w' h => ?_
                  obtain ⟨a, h1, h2, h3⟩ := h
                  exact ⟨a, h1, h2, (ur.trans (hbx.mono ur.size)).trans (h3.mono (by have := ur.size; omega))⟩
                have HT := hide' hT
                have HS2 := hide' hsep2
                have HE := hide' hE
                clear hT hTc hsep2 hE c1 c2 HA t5 tr hsep
                have c1' : decide ((s : Int) ≤ (x : Int)) = true := decide_eq_true (by omega)
                have c2' : decide ((x : Int) ≤ (p : Int)) = true := decide_eq_true (by omega)
                have hkx : ¬ kr = x := by omega
                have hxk : (x : Int) ≤ (kr : Int) := by omega
                have hxl : (x : Int) ≤ (len0 : Int) := by omega
                have e6 : ((p : Int) + (t : Int) + (len5 : Int) != (p : Int) + (t : Int) + (len5 : Int)) = false := by simp
                go_wp2_with fail
                go_region_with (go_at_call 11; refine (HJ.out _ (by exact ⟨rfl, rfl, rfl, Nat.le_refl _, fun _ _ => rfl⟩) (by exact rfl)).mono ?_; rintro e w10 ⟨b10, rfl, t10, ur10⟩)
                all_goals
                  go_wp2_with fail
                  refine (zzMore_of b10 (x + len5 + (len0 - x)) (x + len5 + (len0 - x)) s (p + len5) _ ((p : Int) + (t : Int) + (len5 : Int)) rfl a2 a3 m t (by omega) _ _ t10 (by omega) HT.out (by omega) HS2.out).mono ?_
                  rintro e w11 ⟨rfl, v11⟩
                  go_wp2_with fail
                  go_ret
                  exact ⟨rfl, ur10.trans (v11.mono ur10.size)⟩
end Go.Proofs.Qxb6618116a
