import Derived.Test.Qxb6618116aWalkB
import Derived.Test.Qxb6618116aWalkC
import Derived.Test.Qxb6618116aPlainB
namespace Go.Proofs.Qxb6618116a
open Go.RowKit

/-! ### zzIsWS, isSpace, zzIsStop -/
theorem isWS_any (c : Int) (w : World) : Calls Try.prog 16 #[.int .u8 c] w fun e w' => e = .returned (.bool (Plain.isWS c)) ∧ w' = w := by
  unfold Plain.isWS
  cases h1 : (c == 32) <;> cases h2 : (c == 9) <;> cases h3 : (c == 10) <;> cases h4 : (c == 13)
  all_goals
    go_enter Try.func16, Try.ntmps16
    go_wp2
    go_ret
    exact ⟨rfl, rfl⟩

theorem isSpace_any (c : Int) (w : World) : Calls Try.prog 22 #[.int .u8 c] w fun e w' => e = .returned (.bool (Plain.isWS c)) ∧ w' = w := by
  unfold Plain.isWS
  cases h1 : (c == 32) <;> cases h2 : (c == 9) <;> cases h3 : (c == 10) <;> cases h4 : (c == 13)
  all_goals
    go_enter Try.func22, Try.ntmps22
    go_wp2
    go_ret
    exact ⟨rfl, rfl⟩

theorem isStop_any (c : Int) (w : World) : Calls Try.prog 19 #[.int .u8 c] w fun e w' => e = .returned (.bool (Plain.isStop c)) ∧ w' = w := by
  unfold Plain.isStop
  go_enter Try.func19, Try.ntmps19
  go_wp2_with fail
  refine (isWS_any c w).mono ?_
  rintro e w' ⟨rfl, hw⟩
  replace hw := hw.symm
  subst hw
  cases h0 : Plain.isWS c <;> cases h1 : (c == 44) <;> cases h2 : (c == 125) <;> cases h3 : (c == 93)
  all_goals
    go_wp2
    go_ret
    exact ⟨by rw [h0, h1, h2, h3]; rfl, rfl⟩

theorem isStop_is {c : Int} {b : Bool} (h : Plain.isStop c = b) (w : World) : Calls Try.prog 19 #[.int .u8 c] w fun e w' => e = .returned (.bool b) ∧ w = w' := by
  subst h
  exact (isStop_any c w).mono fun e w' h => ⟨h.1, h.2.symm⟩
theorem isWS_is {c : Int} {b : Bool} (h : Plain.isWS c = b) (w : World) : Calls Try.prog 16 #[.int .u8 c] w fun e w' => e = .returned (.bool b) ∧ w = w' := by
  subst h
  exact (isWS_any c w).mono fun e w' h => ⟨h.1, h.2.symm⟩
theorem isSpace_is {c : Int} {b : Bool} (h : Plain.isWS c = b) (w : World) : Calls Try.prog 22 #[.int .u8 c] w fun e w' => e = .returned (.bool b) ∧ w' = w := by
  subst h
  exact isSpace_any c w

/-! ### zzBytes_FnSkipScalar.. -/
theorem bytes12 (a0 a4 : Option Addr) (n0 c0 n4 c4 : Nat) (i1 i2 i5 : Int) (b3 : Bool) (w : World) (h0 : n0 ≤ 9223372036854775807) (h4 : n4 ≤ 9223372036854775807) :
    Calls Try.prog 12 #[.slice a0 n0 c0, .int .i64 i1, .int .i64 i2, .bool b3, .slice a4 n4 c4, .int .i64 i5] w fun e w' => (∃ b, e = .returned (.bool b)) ∧ w' = w := by
  go_enter Try.func12, Try.ntmps12
  go_wp2
  all_goals
    go_ret
    exact ⟨⟨_, rfl⟩, rfl⟩

/-! ### zzScalarEnd -/
theorem scalarEnd_str (a : Option Addr) (n c s : Nat) (d : Nat → Int) (w : World) (hs : Seq w.heap.size w a n (By d)) (hn : n ≤ 1048576) (hsn : s < n) (hd : d s = 34) :
    Calls Try.prog 13 #[.slice a n c, .int .i64 s] w fun e w' => ((e = .returned (.int .i64 (-1))) ∨ ∃ Q : Nat, e = .returned (.int .i64 ((Q : Int) + 1)) ∧ Plain.FirstQ d n s Q) ∧ w' = w := by
  have HS : Hid (Seq w.heap.size w a n (By d)) := hs
  obtain ⟨b, off, rfl, hbs, hc⟩ := hs (by omega)
  have hcs : w.cell? ⟨b, off + s, none⟩ = some (.int .u8 (d s)) := hc s hsn
  have hq : (d s == 34) = true := by simp [hd]
  clear hs hc hd
  go_enter Try.func13, Try.ntmps13
  go_wp2_with fail
  refine (stringEnd_any _ n c s d w HS.out hn hsn).mono ?_
  rintro e w' ⟨hcase, hw⟩
  replace hw := hw.symm
  subst hw
  rcases hcase with rfl | ⟨Q, rfl, hQ⟩
  · go_wp2_with fail
    go_ret
    exact ⟨.inl rfl, rfl⟩
  · go_wp2_with fail
    go_ret
    exact ⟨.inr ⟨Q, rfl, hQ⟩, rfl⟩

set_option maxHeartbeats 800000 in
theorem scalarEnd_plain (a : Option Addr) (n c s : Nat) (d : Nat → Int) (w : World) (hs : Seq w.heap.size w a n (By d)) (hn : n ≤ 1048576) (hsn : s < n) (hd : ¬ d s = 34) :
    Calls Try.prog 13 #[.slice a n c, .int .i64 s] w fun e w' => ∃ E : Nat, e = .returned (.int .i64 E) ∧ Plain.FirstStop d n s E ∧ w' = w := by
  obtain ⟨b, off, rfl, hbs, hc⟩ := hs (by omega)
  replace hc : ∀ i, i < n → w.cell? ⟨b, off + i, none⟩ = some (.int .u8 (d i)) := hc
  have hq : (d s == 34) = false := by simp [hd]
  clear hs hd
  go_enter Try.func13, Try.ntmps13
  go_wp2_with fail
  go_loopg [5] (n - s) (fun k i wr => ∃ p : Nat, p + k = n ∧ s ≤ p ∧ i = .int .i64 p ∧ (∀ i, s ≤ i → i < p → Plain.isStop (d i) = false) ∧ wr = w)
  case atStart => exact ⟨s, by omega, Nat.le_refl _, rfl, fun i h1 h2 => by omega, rfl⟩
  case round =>
    obtain ⟨p, hpk, hsp, rfl, hbef, hw⟩ := hrel
    replace hw := hw.symm
    subst hw
    have HB : Hid (∀ i, s ≤ i → i < p → Plain.isStop (d i) = false) := hbef
    clear hbef
    by_cases hlt : p < n
    · cases hst : Plain.isStop (d p)
      · have HS : Hid (Plain.isStop (d p) = false) := hst
        clear hst
        go_wp2_with fail
        refine (isStop_is HS.out w).mono ?_
        rintro e w' ⟨rfl, hw⟩
        subst hw
        go_wp2
        go_roundg (gk - 1)
        case measure => omega
        case rel => exact ⟨p + 1, by omega, by omega, by go_num, fun i h1 h2 => (by by_cases e : i = p; exact e ▸ HS.out; exact HB.out i h1 (by omega)), rfl⟩
      · have HS : Hid (Plain.isStop (d p) = true) := hst
        clear hst
        go_wp2_with fail
        refine (isStop_is HS.out w).mono ?_
        rintro e w' ⟨rfl, hw⟩
        subst hw
        go_wp2
        go_ret
        exact ⟨p, rfl, ⟨hsp, by omega, HB.out, fun _ => HS.out⟩, rfl⟩
    · go_wp2
      go_ret
      exact ⟨p, rfl, ⟨hsp, by omega, HB.out, fun h => by omega⟩, rfl⟩

/-! ### (*walker).skipScalar -/
set_option maxHeartbeats 800000 in
theorem skipScalar_str (g : Nat) (a : Option Addr) (n c s Q : Nat) (mx : Int) (l : Bool) (d : Nat → Int) (w : World) (hs : Seq g w a n (By d)) (hn : n ≤ 1048576) (hd : d s = 34) (hq : Plain.FirstQ d n s Q) (hw : Wk w g a n c s mx l) :
    Calls Try.prog 20 #[.pointer (some ⟨g, 0, none⟩)] w fun e w' => e = .returned (.tuple #[]) ∧ Wk w' g a n c (Q + 1) mx l ∧ Below g w w' := by
  have hQ1 := hq.lo
  have hQ2 := hq.hi
  have HS : Hid (Seq g w a n (By d)) := hs
  obtain ⟨b, off, rfl, hbs, hc⟩ := hs (by omega)
  have hcs : w.cell? ⟨b, off + s, none⟩ = some (.int .u8 (d s)) := hc s (by omega)
  have hq1 : (d s == 34) = true := by simp [hd]
  have hsn : (s : Int) < (n : Int) := by omega
  obtain ⟨h0, h1, h2, h3, h4⟩ := id hw
  clear hs hc hd
  go_enter Try.func20, Try.ntmps20
  go_wp2
  go_quiet (fail)
  go_wp2_with fail
  refine (skipString_any g _ n c s Q mx l d _ (HS.out.below (below_drewN' (Below.refl g w) nq) (Nat.le_refl _)) hn hq (hw.drawn nq)).mono ?_
  rintro e w' ⟨rfl, hW, hB⟩
  go_wp2
  refine bodyPost_ret (results_none rfl _ _ _) rfl ?_
  exact ⟨rfl, hW, (below_drewN' (Below.refl g w) nq).trans hB⟩

set_option maxHeartbeats 1600000 in
theorem skipScalar_plain (g : Nat) (a : Option Addr) (n c s E : Nat) (mx : Int) (l : Bool) (d : Nat → Int) (w : World) (hs : Seq g w a n (By d)) (hn : n ≤ 1048576) (hsn : s < n) (hd : ¬ d s = 34) (hq : Plain.FirstStop d n s E) (hw : Wk w g a n c s mx l) :
    Calls Try.prog 20 #[.pointer (some ⟨g, 0, none⟩)] w fun e w' => e = .returned (.tuple #[]) ∧ Wk w' g a n c E mx l ∧ Below g w w' := by
  have hE1 := hq.lo
  have hE2 := hq.hi
  obtain ⟨b, off, rfl, hbs, hc⟩ := hs (by omega)
  replace hc : ∀ i, i < n → w.cell? ⟨b, off + i, none⟩ = some (.int .u8 (d i)) := hc
  have hcs := hc s (by omega)
  have hq1 : (d s == 34) = false := by simp [hd]
  have hsn' : (s : Int) < (n : Int) := by omega
  obtain ⟨h0, h1, h2, h3, h4⟩ := id hw
  clear hs hd
  go_enter Try.func20, Try.ntmps20
  go_wp2
  go_quiet (fail)
  go_wp2
  go_loopg [] (E - s) (fun k wr => ∃ p : Nat, s ≤ p ∧ p + k = E ∧ Wk wr g (some ⟨b, off, none⟩) n c p mx l ∧ Below g w wr)
  case atStart => exact ⟨s, Nat.le_refl _, by omega, hw.drawn _, below_drewN' (Below.refl g w) _⟩
  case round =>
    clear h0 h1 h2 h3 h4 hw hcs hsn' hq1
    obtain ⟨p, hsp, hpk, hW, hB⟩ := hrel
    replace hc : ∀ i, i < n → wr.cell? ⟨b, off + i, none⟩ = some (.int .u8 (d i)) := fun i hi => (hB.cell (p := ⟨b, off + i, none⟩) hbs).trans (hc i hi)
    obtain ⟨h0, h1, h2, h3, h4⟩ := id hW
    by_cases hpE : p < E
    · have hpn : (p : Int) < (n : Int) := by omega
      have hcp := hc p (by omega)
      obtain ⟨k1, k2, k3, k4⟩ := Plain.stop_parts (hq.before p hsp hpE)
      have K1 : Hid (Plain.isWS (d p) = false) := k1
      clear hc k1
      go_wp2
      go_quiet ((go_at_call 22; exact Calls.quiet_of_same (isSpace_is K1.out _)))
      go_wp2
      go_quiet (fail)
      go_wp2
      go_roundg (gk - 1)
      case measure => omega
      case rel =>
        refine ⟨p + 1, by omega, by omega, ?_, ?_⟩
        · exact (hW.drawn _).stepI (by omega)
        · exact (below_drewN' hB _).setCell (by exact Nat.le_refl _) _
    obtain rfl : p = E := by omega
    by_cases hpn' : p < n
    · have hpn : (p : Int) < (n : Int) := by omega
      have hcp := hc p (by omega)
      have hst := hq.stop hpn'
      clear hc
      cases hws : Plain.isWS (d p)
      · have K1 : Hid (Plain.isWS (d p) = false) := hws
        have hst' : (d p == 44) = true ∨ ((d p == 44) = false ∧ (d p == 125) = true) ∨ ((d p == 44) = false ∧ (d p == 125) = false ∧ (d p == 93) = true) := by
          unfold Plain.isStop at hst
          rw [hws] at hst
          cases k2 : (d p == 44) <;> cases k3 : (d p == 125) <;> cases k4 : (d p == 93) <;> simp_all
        clear hws hst
        rcases hst' with k2 | ⟨k2, k3⟩ | ⟨k2, k3, k4⟩
        all_goals
          go_wp2
          go_quiet ((go_at_call 22; exact Calls.quiet_of_same (isSpace_is K1.out _)))
          go_wp2
          go_quiet (fail)
          go_wp2
          refine bodyPost_ret (results_none rfl _ _ _) rfl ?_
          exact ⟨rfl, hW.drawn _, below_drewN' hB _⟩
      · have K1 : Hid (Plain.isWS (d p) = true) := hws
        clear hws hst
        go_wp2
        go_quiet ((go_at_call 22; exact Calls.quiet_of_same (isSpace_is K1.out _)))
        go_wp2
        go_end0
        exact ⟨rfl, hW.drawn _, below_drewN' hB _⟩
    · have hd : decide ((p : Int) < (n : Int)) = false := decide_eq_false (by omega)
      clear hc
      go_wp2
      go_quiet (fail)
      go_wp2
      go_end0
      exact ⟨rfl, hW.drawn _, below_drewN' hB _⟩

end Go.Proofs.Qxb6618116a
