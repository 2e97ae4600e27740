import Derived.Test.Qxb6618116aWalkB
import Derived.Test.Qxb6618116aWalkC
namespace Go.Proofs.Qxb6618116a
open Go.RowKit

set_option maxHeartbeats 1600000 in
theorem law3_walk (a0 : Option Addr) (len0 cap0 : Nat) (a1 a2 : Int) (a3 : Bool) (a4 : Option Addr) (len4 cap4 : Nat) (a5 : Option Addr) (len5 cap5 : Nat) (d0 d4 d5 : Nat → Int) (w : World)
    (s0 : Seq w.heap.size w a0 len0 (By d0)) (l0 : a0 = none → len0 = 0 ∧ cap0 = 0) (m0 : len0 ≤ 9223372036854775807) (hk1 : -9223372036854775808 ≤ a1 ∧ a1 ≤ 9223372036854775807)
    (s4 : Seq w.heap.size w a4 len4 (By d4)) (l4 : a4 = none → len4 = 0 ∧ cap4 = 0) (m4 : len4 ≤ 9223372036854775807) (s5 : Seq w.heap.size w a5 len5 (By d5)) (l5 : a5 = none → len5 = 0 ∧ cap5 = 0) (m5 : len5 ≤ 9223372036854775807) :
    Calls Try.prog 3 #[.slice a0 len0 cap0, .int .i64 a1, .int .i64 a2, .bool a3, .slice a4 len4 cap4, .slice a5 len5 cap5] w fun e w' => e = .returned (.bool true) ∧ Below w.heap.size w w' := by
  go_enter Try.func3, Try.ntmps3
  go_wp2_with fail
  refine (bytes6 a0 a4 a5 len0 cap0 len4 cap4 len5 cap5 a1 a2 a3 w m0 m4 m5).mono ?_
  rintro e w' ⟨⟨b, rfl⟩, hw⟩
  replace hw := hw.symm
  subst hw
  cases b with
  | false =>
    go_wp2_with fail
    go_ret
    exact ⟨rfl, Below.refl _ _⟩
  | true =>
    by_cases h0 : 65536 < len0
    · go_wp2_with fail
      go_ret
      exact ⟨rfl, Below.refl _ _⟩
    by_cases h4 : 65536 < len4
    · go_wp2_with fail
      go_ret
      exact ⟨rfl, Below.refl _ _⟩
    by_cases h5 : 65536 < len5
    · go_wp2_with fail
      go_ret
      exact ⟨rfl, Below.refl _ _⟩
    by_cases h1 : a1 < 0
    · go_wp2_with fail
      go_ret
      exact ⟨rfl, Below.refl _ _⟩
    by_cases h1' : (len0 : Int) ≤ a1
    · go_wp2_with fail
      go_ret
      exact ⟨rfl, Below.refl _ _⟩
    obtain ⟨s, rfl⟩ := Int.eq_ofNat_of_zero_le (show 0 ≤ a1 by omega)
    have hs : s < len0 := by omega
    clear h1 h1'
    go_wp2_with fail
    refine (clone_any a0 len0 cap0 d0 w s0 l0 (by omega)).mono ?_
    rintro e w1 ⟨b0, k0, rfl, q0, r0, t0, u0⟩
    have s4 := (s4.below u0 (Nat.le_refl _)).mono u0.size
    have s5 := (s5.below u0 (Nat.le_refl _)).mono u0.size
    go_wp2_with fail
    refine (clone_any a4 len4 cap4 d4 w1 s4 l4 (by omega)).mono ?_
    rintro e w2 ⟨b4, k4, rfl, q4, r4, t4, u4⟩
    have s5 := (s5.below u4 (Nat.le_refl _)).mono u4.size
    have t0 := (t0.below u4 (Nat.le_refl _)).mono u4.size
    have u4 := u0.trans (u4.mono u0.size)
    go_wp2_with fail
    refine (clone_any a5 len5 cap5 d5 w2 s5 l5 (by omega)).mono ?_
    rintro e w3 ⟨b5, k5, rfl, q5, r5, t5, u5⟩
    have t0 := (t0.below u5 (Nat.le_refl _)).mono u5.size
    have t4 := (t4.below u5 (Nat.le_refl _)).mono u5.size
    have u5 := u4.trans (u5.mono u4.size)
    go_wp2_with fail
    refine (clone_any b0 len0 k0 d0 w3 t0 q0 (by omega)).mono ?_
    rintro e w4 ⟨br, kr, rfl, qr, rr, tr, ur⟩
    have t0 := (t0.below ur (Nat.le_refl _)).mono ur.size
    have t4 := (t4.below ur (Nat.le_refl _)).mono ur.size
    have t5 := (t5.below ur (Nat.le_refl _)).mono ur.size
    have ur := u5.trans (ur.mono u5.size)
    clear u0 u4 u5 s0 s4 s5 l0 l4 l5 m0 m4 m5 q0 q4 q5 qr r0 r4 r5 rr
    go_wp2_with fail
    refine (stringEnd_any br len0 kr s d0 w4 tr (by omega) hs).mono ?_
    rintro e w5 ⟨hcase, hw⟩
    replace hw := hw.symm
    subst hw
    rcases hcase with rfl | ⟨Q, rfl, hQ⟩
    · go_wp2_with fail
      go_ret
      exact ⟨rfl, ur⟩
    have hQ1 := hQ.lo
    have hQ2 := hQ.hi
    go_wp2_with fail
    refine (zzSkipString_any b0 len0 k0 s Q a2 a3 d0 w4 t0 (by omega) hQ).mono ?_
    rintro e w6 ⟨rfl, v6⟩
    have t0 := (t0.below v6 (Nat.le_refl _)).mono v6.size
    have t4 := (t4.below v6 (Nat.le_refl _)).mono v6.size
    have t5 := (t5.below v6 (Nat.le_refl _)).mono v6.size
    have tr := (tr.below v6 (Nat.le_refl _)).mono v6.size
    have ur := ur.trans (v6.mono ur.size)
    clear v6
    have e1 : ((Q : Int) + 1 != (Q : Int) + 1) = false := by simp
    have e2 : (a2 != a2) = false := by simp
    have e3 : (a3 != a3) = false := by simp
    go_wp2_with fail
    refine (same_any b0 br len0 k0 kr d0 w6 t0 tr (by omega)).mono ?_
    rintro e w7 ⟨rfl, q7, hw⟩
    have v7 : Below w6.heap.size w6 w7 := by rw [hw]; exact below_drewN' (Below.refl _ _) _
    clear hw
    have t4 := (t4.below v7 (Nat.le_refl _)).mono v7.size
    have t5 := (t5.below v7 (Nat.le_refl _)).mono v7.size
    have tr := (tr.below v7 (Nat.le_refl _)).mono v7.size
    have ur := ur.trans (v7.mono ur.size)
    clear v7 t0
    go_wp2_with fail
    refine (join3_any b4 br b5 len4 k4 len0 kr len5 k5 d4 d0 d5 w7 t4 tr t5 (by omega) (by omega) (by omega)).mono ?_
    rintro e w8 ⟨b8, rfl, t8, v8⟩
    have ur := ur.trans (v8.mono ur.size)
    clear v8 t4 t5 tr
    have hQ' : Plain.FirstQ (cat3 d4 d0 d5 len4 len0) (len4 + len0 + len5) (s + len4) (Q + len4) := Plain.firstQ_shift (fun i hi => by rw [Nat.add_comm, cat3_1 hi]) (by omega) hQ
    have e4 : ((Q : Int) + 1 + (len4 : Int) == (Q : Int) + 1 + (len4 : Int)) = true := by simp
    have e5 : (a2 == a2) = true := by simp
    have e6 : (a3 == a3) = true := by simp
    go_wp2_with fail
    refine (zzSkipString_at b8 (len4 + len0 + len5) (len4 + len0 + len5) (s + len4) (Q + len4) _ ((Q : Int) + 1 + (len4 : Int)) (by omega) (by omega) a2 a3 _ w8 t8 (by omega) hQ').mono ?_
    rintro e w9 ⟨rfl, v9⟩
    have ur := ur.trans (v9.mono ur.size)
    clear v9
    go_wp2_with fail
    go_ret
    exact ⟨rfl, ur⟩
end Go.Proofs.Qxb6618116a
