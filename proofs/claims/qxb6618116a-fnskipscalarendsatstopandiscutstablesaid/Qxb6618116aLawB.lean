import Derived.Test.Qxb6618116aWalkE
namespace Go.Proofs.Qxb6618116a
open Go.RowKit

set_option maxRecDepth 100000 in
set_option maxHeartbeats 3200000 in
theorem law4_walk (a0 : Option Addr) (len0 cap0 : Nat) (a1 a2 : Int) (a3 : Bool) (a4 : Option Addr) (len4 cap4 : Nat) (a5 : Int) (d0 d4 : Nat → Int) (w : World)
    (s0 : Seq w.heap.size w a0 len0 (By d0)) (l0 : a0 = none → len0 = 0 ∧ cap0 = 0) (m0 : len0 ≤ 9223372036854775807) (hk1 : -9223372036854775808 ≤ a1 ∧ a1 ≤ 9223372036854775807) (hk5 : -9223372036854775808 ≤ a5 ∧ a5 ≤ 9223372036854775807)
    (s4 : Seq w.heap.size w a4 len4 (By d4)) (l4 : a4 = none → len4 = 0 ∧ cap4 = 0) (m4 : len4 ≤ 9223372036854775807) :
    Calls Try.prog 4 #[.slice a0 len0 cap0, .int .i64 a1, .int .i64 a2, .bool a3, .slice a4 len4 cap4, .int .i64 a5] w fun e w' => e = .returned (.bool true) ∧ Below w.heap.size w w' := by
  go_enter Try.func4, Try.ntmps4
  go_wp2_with fail
  refine (bytes12 a0 a4 len0 cap0 len4 cap4 a1 a2 a5 a3 w m0 m4).mono ?_
  rintro e w' ⟨⟨b, rfl⟩, hw⟩
  replace hw := hw.symm
  subst hw
  cases b with
  | false =>
    go_wp2_with fail
    go_ret
    exact ⟨rfl, Below.refl _ _⟩
  | true =>
    by_cases h0 : 65536 < len0
    · go_wp2_with fail
      go_ret
      exact ⟨rfl, Below.refl _ _⟩
    by_cases h4 : 65536 < len4
    · go_wp2_with fail
      go_ret
      exact ⟨rfl, Below.refl _ _⟩
    by_cases h1 : a1 < 0
    · go_wp2_with fail
      go_ret
      exact ⟨rfl, Below.refl _ _⟩
    by_cases h1' : (len0 : Int) ≤ a1
    · go_wp2_with fail
      go_ret
      exact ⟨rfl, Below.refl _ _⟩
    obtain ⟨s, rfl⟩ := Int.eq_ofNat_of_zero_le (show 0 ≤ a1 by omega)
    have hs : s < len0 := by omega
    clear h1 h1'
    go_wp2_with fail
    refine (clone_any a0 len0 cap0 d0 w s0 l0 (by omega)).mono ?_
    rintro e w1 ⟨b0, k0, rfl, q0, r0, t0, u0⟩
    have s4 := (s4.below u0 (Nat.le_refl _)).mono u0.size
    go_wp2_with fail
    refine (clone_any a4 len4 cap4 d4 w1 s4 l4 (by omega)).mono ?_
    rintro e w2 ⟨b4, k4, rfl, q4, r4, t4, u4⟩
    have t0 := (t0.below u4 (Nat.le_refl _)).mono u4.size
    have u4 := u0.trans (u4.mono u0.size)
    go_wp2_with fail
    refine (clone_any b0 len0 k0 d0 w2 t0 q0 (by omega)).mono ?_
    rintro e w4 ⟨br, kr, rfl, qr, rr, tr, ur⟩
    have t0 := (t0.below ur (Nat.le_refl _)).mono ur.size
    have t4 := (t4.below ur (Nat.le_refl _)).mono ur.size
    have ur := u4.trans (ur.mono u4.size)
    clear u0 u4 s0 s4 l0 l4 m0 m4 q0 q4 qr r4 rr
    go_wp2_with fail
    refine (scalarEnd_any br len0 kr s d0 w4 tr (by omega) hs).mono ?_
    rintro e w5 ⟨hcase, hw⟩
    subst hw
    rcases hcase with rfl | ⟨E, rfl, hE⟩
    · go_wp2_with fail
      go_ret
      exact ⟨rfl, ur⟩
    have hE1 := hE.lo
    have hE2 := hE.hi
    go_wp2_with fail
    refine (zzSkipScalar_of b0 len0 k0 s E _ (E : Int) rfl rfl a2 a3 d0 w4 t0 (by omega) hs hE).mono ?_
    rintro e w6 ⟨rfl, v6⟩
    have t0 := (t0.below v6 (Nat.le_refl _)).mono v6.size
    have t4 := (t4.below v6 (Nat.le_refl _)).mono v6.size
    have tr := (tr.below v6 (Nat.le_refl _)).mono v6.size
    have ur := ur.trans (v6.mono ur.size)
    clear v6
    have e1 : ((E : Int) != (E : Int)) = false := by simp
    have e2 : (a2 != a2) = false := by simp
    have e3 : (a3 != a3) = false := by simp
    go_wp2_with fail
    refine (same_any b0 br len0 k0 kr d0 w6 t0 tr (by omega)).mono ?_
    rintro e w7 ⟨rfl, q7, hw⟩
    have v7 : Below w6.heap.size w6 w7 := by rw [hw]; exact below_drewN' (Below.refl _ _) _
    clear hw
    have t0 := (t0.below v7 (Nat.le_refl _)).mono v7.size
    have t4 := (t4.below v7 (Nat.le_refl _)).mono v7.size
    have tr := (tr.below v7 (Nat.le_refl _)).mono v7.size
    have ur := ur.trans (v7.mono ur.size)
    clear v7
    go_wp2_with fail
    refine (join3_any b4 br none len4 k4 len0 kr 0 0 d4 d0 d0 w7 t4 tr (fun h => by omega) (by omega) (by omega) (by omega)).mono ?_
    rintro e w8 ⟨b8, rfl, t8, v8⟩
    have t0 := (t0.below v8 (Nat.le_refl _)).mono v8.size
    have tr := (tr.below v8 (Nat.le_refl _)).mono v8.size
    have ur := ur.trans (v8.mono ur.size)
    clear v8 t4
    have hE' : Sc (cat3 d4 d0 d0 len4 len0) (len4 + len0 + 0) (s + len4) (E + len4) := hE.shift (fun i hi => by rw [Nat.add_comm, cat3_1 hi]) (by omega) hs
    have e4 : ((E : Int) + (len4 : Int) != (E : Int) + (len4 : Int)) = false := by simp
    go_wp2_with fail
    refine (zzSkipScalar_of b8 (len4 + len0 + 0) (len4 + len0 + 0) (s + len4) (E + len4) _ ((E : Int) + (len4 : Int)) (by omega) (by omega) a2 a3 _ w8 t8 (by omega) (by omega) hE').mono ?_
    rintro e w9 ⟨rfl, v9⟩
    have t0 := (t0.below v9 (Nat.le_refl _)).mono v9.size
    have tr := (tr.below v9 (Nat.le_refl _)).mono v9.size
    have ur := ur.trans (v9.mono ur.size)
    clear v9 t8 hE'
    by_cases c1 : a5 ≤ (s : Int)
    · go_wp2_with fail
      go_ret
      exact ⟨rfl, ur⟩
    by_cases c2 : (len0 : Int) < a5
    · go_wp2_with fail
      go_ret
      exact ⟨rfl, ur⟩
    obtain ⟨c, rfl⟩ := Int.eq_ofNat_of_zero_le (show 0 ≤ a5 by omega)
    have hc1 : s < c := by omega
    have hc2 : c ≤ len0 := by omega
    clear c1 c2
    obtain ⟨b, off, rfl, hb, hcell⟩ := id t0 (by omega)
    obtain ⟨rb, roff, rfl, hrb, hrcell⟩ := id tr (by omega)
    have hrs : w9.cell? ⟨rb, roff + s, none⟩ = some (.int .u8 (d0 s)) := hrcell s hs
    clear hcell hrcell
    by_cases hcE : c < E
    · by_cases hq : d0 s = 34
      · have hqb : (d0 s == 34) = true := by simp [hq]
        clear hq
        go_wp2_with fail
        go_ret
        exact ⟨rfl, ur⟩
      · have hqb : (d0 s == 34) = false := by simp [hq]
        have hE3 := hE.cut hq (Nat.le_of_lt hc1) (Nat.le_of_lt hcE)
        clear hq
        have e5 : ((c : Int) != (c : Int)) = false := by simp
        go_wp2_with fail
        refine (zzSkipScalar_of _ c k0 s c _ (c : Int) rfl rfl a2 a3 d0 w9 (t0.shorter hc2) (by omega) hc1 hE3).mono ?_
        rintro e w10 ⟨rfl, v10⟩
        have ur := ur.trans (v10.mono ur.size)
        go_wp2_with fail
        go_ret
        exact ⟨rfl, ur⟩
    · have hE3 := hE.long (Nat.le_of_not_lt hcE) hc2
      go_wp2_with fail
      refine (zzSkipScalar_of _ c k0 s E _ (E : Int) rfl rfl a2 a3 d0 w9 (t0.shorter hc2) (by omega) hc1 hE3).mono ?_
      rintro e w10 ⟨rfl, v10⟩
      have ur := ur.trans (v10.mono ur.size)
      go_wp2_with fail
      go_ret
      exact ⟨rfl, ur⟩
end Go.Proofs.Qxb6618116a
