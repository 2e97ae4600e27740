import Derived.Test.Qxb6618116aWalkD
namespace Go.Proofs.Qxb6618116a
open Go.RowKit

/-! ### zzBytes_FnMore.. -/
theorem bytes15 (a0 a4 a5 : Option Addr) (n0 c0 n4 c4 n5 c5 : Nat) (i1 i2 i6 : Int) (b3 : Bool) (w : World) (h0 : n0 ≤ 9223372036854775807) (h4 : n4 ≤ 9223372036854775807) (h5 : n5 ≤ 9223372036854775807) :
    Calls Try.prog 15 #[.slice a0 n0 c0, .int .i64 i1, .int .i64 i2, .bool b3, .slice a4 n4 c4, .slice a5 n5 c5, .int .i64 i6] w fun e w' => (∃ b, e = .returned (.bool b)) ∧ w = w' := by
  go_enter Try.func15, Try.ntmps15
  go_wp2
  all_goals
    go_ret
    exact ⟨⟨_, rfl⟩, rfl⟩

/-! ### (*walker).skipSpace -/
set_option maxHeartbeats 1600000 in
theorem skipSpace_any (g : Nat) (a : Option Addr) (n c s E : Nat) (mx : Int) (l : Bool) (d : Nat → Int) (w : World) (hs : Seq g w a n (By d)) (hn : n ≤ 1048576) (hq : Plain.FirstTok d n s E) (hEn : E < n) (hw : Wk w g a n c s mx l) :
    Calls Try.prog 23 #[.pointer (some ⟨g, 0, none⟩)] w fun e w' => e = .returned (.tuple #[]) ∧ Wk w' g a n c E mx l ∧ Below g w w' := by
  have hE1 := hq.lo
  obtain ⟨b, off, rfl, hbs, hc⟩ := hs (by omega)
  replace hc : ∀ i, i < n → w.cell? ⟨b, off + i, none⟩ = some (.int .u8 (d i)) := hc
  clear hs
  go_enter Try.func23, Try.ntmps23
  go_wp2
  go_loopg [] (E - s) (fun k wr => ∃ p : Nat, s ≤ p ∧ p + k = E ∧ Wk wr g (some ⟨b, off, none⟩) n c p mx l ∧ Below g w wr)
  case atStart => exact ⟨s, Nat.le_refl _, by omega, hw, Below.refl g w⟩
  case round =>
    clear hw
    obtain ⟨p, hsp, hpk, hW, hB⟩ := hrel
    replace hc : ∀ i, i < n → wr.cell? ⟨b, off + i, none⟩ = some (.int .u8 (d i)) := fun i hi => (hB.cell (p := ⟨b, off + i, none⟩) hbs).trans (hc i hi)
    obtain ⟨h0, h1, h2, h3, h4⟩ := id hW
    have hpn : (p : Int) < (n : Int) := by omega
    have hcp := hc p (by omega)
    clear hc
    by_cases hpE : p < E
    · have K1 : Hid (Plain.isWS (d p) = true) := hq.before p hsp hpE
      go_wp2
      go_quiet ((go_at_call 22; exact Calls.quiet_of_same (isSpace_is K1.out _)))
      go_wp2
      go_roundg (gk - 1)
      case measure => omega
      case rel =>
        refine ⟨p + 1, by omega, by omega, ?_, ?_⟩
        · exact (hW.drawn _).stepI (by omega)
        · exact (below_drewN' hB _).setCell (by exact Nat.le_refl _) _
    · obtain rfl : p = E := by omega
      have K1 : Hid (Plain.isWS (d p) = false) := hq.stop hEn
      go_wp2
      go_quiet ((go_at_call 22; exact Calls.quiet_of_same (isSpace_is K1.out _)))
      go_wp2
      go_end0
      exact ⟨rfl, hW.drawn _, below_drewN' hB _⟩

/-! ### (*walker).more -/
/-- What the byte at the token says: whether more follows; how far the walker reads. -/
def Sep (c : Int) (m : Bool) (t : Nat) : Prop :=
  ((c == 125) = true ∧ m = false ∧ t = 1) ∨ ((c == 125) = false ∧ (c == 93) = true ∧ m = false ∧ t = 1) ∨
  ((c == 125) = false ∧ (c == 93) = false ∧ (c == 44) = true ∧ m = true ∧ t = 1) ∨ ((c == 125) = false ∧ (c == 93) = false ∧ (c == 44) = false ∧ m = true ∧ t = 0)

set_option maxHeartbeats 1600000 in
theorem more_any (g : Nat) (a : Option Addr) (n c s E : Nat) (mx : Int) (l m : Bool) (t : Nat) (d : Nat → Int) (w : World) (hs : Seq g w a n (By d)) (hn : n ≤ 1048576) (hq : Plain.FirstTok d n s E) (hEn : E < n) (hsep : Sep (d E) m t) (hw : Wk w g a n c s mx l) :
    Calls Try.prog 21 #[.pointer (some ⟨g, 0, none⟩)] w fun e w' => e = .returned (.bool m) ∧ Wk w' g a n c (E + t) mx l ∧ Below g w w' := by
  have hEi : (E : Int) < (n : Int) := by omega
  go_enter Try.func21, Try.ntmps21
  go_wp2_with fail
  refine (skipSpace_any g a n c s E mx l d w hs hn hq hEn hw).mono ?_
  rintro e w1 ⟨rfl, hW, hB⟩
  obtain ⟨b, off, rfl, hbs, hc⟩ := (hs.below hB (Nat.le_refl _)) (by omega)
  have hcE : w1.cell? ⟨b, off + E, none⟩ = some (.int .u8 (d E)) := hc E hEn
  obtain ⟨h0, h1, h2, h3, h4⟩ := id hW
  clear hs hw hc
  rcases hsep with ⟨k1, rfl, rfl⟩ | ⟨k1, k2, rfl, rfl⟩ | ⟨k1, k2, k3, rfl, rfl⟩ | ⟨k1, k2, k3, rfl, rfl⟩
  · go_wp2
    go_quiet (fail)
    go_wp2
    go_ret
    exact ⟨rfl, (hW.drawn _).stepI (by omega), (below_drewN' hB _).setCell (by exact Nat.le_refl _) _⟩
  · go_wp2
    go_quiet (fail)
    go_wp2
    go_ret
    exact ⟨rfl, (hW.drawn _).stepI (by omega), (below_drewN' hB _).setCell (by exact Nat.le_refl _) _⟩
  · go_wp2
    go_quiet (fail)
    go_wp2
    go_ret
    exact ⟨rfl, (hW.drawn _).stepI (by omega), (below_drewN' hB _).setCell (by exact Nat.le_refl _) _⟩
  · go_wp2
    go_quiet (fail)
    go_wp2
    go_ret
    exact ⟨rfl, hW.drawn _, below_drewN' hB _⟩

/-! ### ZZMore -/
set_option maxHeartbeats 800000 in
theorem zzMore_of (a : Option Addr) (n c s E : Nat) (z zE : Int) (hz : z = (s : Int)) (mx : Int) (l m : Bool) (t : Nat) (hE : zE = ((E + t : Nat) : Int)) (d : Nat → Int) (w : World) (hs : Seq w.heap.size w a n (By d)) (hn : n ≤ 1048576)
    (hq : Plain.FirstTok d n s E) (hEn : E < n) (hsep : Sep (d E) m t) :
    Calls Try.prog 17 #[.slice a n c, .int .i64 z, .int .i64 mx, .bool l] w fun e w' => e = .returned (.tuple #[.bool m, .int .i64 zE, .int .i64 mx, .bool l]) ∧ Below w.heap.size w w' := by
  subst hz; subst hE
  go_enter Try.func17, Try.ntmps17
  go_wp2_with fail
  refine (more_any w.heap.size a n c s E mx l m t d _ (hs.below (below_new w _) (Nat.le_refl _)) hn hq hEn hsep (wk_new w a n c s mx l)).mono ?_
  rintro e w' ⟨rfl, hW, hB⟩
  obtain ⟨h0, h1, h2, h3, h4⟩ := hW
  go_wp2
  go_quiet (fail)
  go_wp2
  exact bodyPost_ret (v := .tuple #[.bool m, .int .i64 ((E + t : Nat) : Int), .int .i64 mx, .bool l]) (by simp [results, Try.results17, go_sem]) rfl ⟨rfl, (below_new w _).trans (below_drewN' hB _)⟩
end Go.Proofs.Qxb6618116a
