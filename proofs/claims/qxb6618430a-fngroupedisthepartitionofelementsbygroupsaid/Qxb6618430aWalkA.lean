import Derived.Test.Qxb6618430aRows
import Derived.Test.Qxb6618430aPlain
import Derived.Test.Qxb6618430aKit
import Derived.Test.Qxb6618430aGroups
import Derived.RegionTactic
import Derived.BigRegion
import Derived.Deep.RegionHeld3
import Derived.Deep.AppendLies
import Derived.Deep.DrawnRows
import Derived.Deep.DeepCutAuto
namespace Go.Proofs.Qxb6618430a
open Go.RowKit
attribute [local go_sem ↓] Go.wp_at_zero Go.wp_at_succ

theorem Try.info3 : (Try.prog.info? 3).map (fun i => (i.zero, i.size, i.bytes)) = some (some (.int .i64 0), 1, 8) := by kernel_rfl
theorem Try.info9 : (Try.prog.info? 9).map (fun i => (i.zero, i.size, i.bytes)) = some (some (.string ByteArray.empty), 1, 16) := by kernel_rfl
theorem Try.info23 : (Try.prog.info? 23).map (fun i => (i.zero, i.size, i.bytes)) = some (some (.slice none 0 0), 1, 24) := by kernel_rfl
theorem Try.info4 : (Try.prog.info? 4).map (fun i => (i.zero, i.size, i.bytes)) = some (some (.bool false), 1, 1) := by kernel_rfl
theorem Try.size3 : (Try.prog.info? 3).map (·.size) = some 1 := by kernel_rfl
theorem Try.size9 : (Try.prog.info? 9).map (·.size) = some 1 := by kernel_rfl

/-! ### zzBytes.. -/
/-- It answers, whatever it answers. -/
def Says (e : Ending) : Prop := ∃ b, e = .returned (.bool b)
theorem says (b : Bool) : Says (.returned (.bool b)) := ⟨b, rfl⟩

set_option maxHeartbeats 1600000 in
theorem bytes4 (a0 a1 a2 a4 : Option Addr) (n0 c0 n1 c1 n2 c2 n4 c4 : Nat) (s3 : ByteArray) (i5 : Int) (v d : Nat → ByteArray) (w : World) (s0 : Seq w.heap.size w a0 n0 (St v)) (s2 : Seq w.heap.size w a2 n2 (St d)) (h0 : n0 ≤ 9223372036854775807) (h2 : n2 ≤ 9223372036854775807) :
    Calls Try.prog 4 #[.slice a0 n0 c0, .slice a1 n1 c1, .slice a2 n2 c2, .string s3, .slice a4 n4 c4, .int .i64 i5] w fun e w' => Says e ∧ w = w' := by
  by_cases hb0 : 1048576 < n0
  · go_enter Try.func4, Try.ntmps4
    go_wp2
    go_ret
    exact ⟨says _, rfl⟩
  by_cases hb2 : 1048576 < n2
  · go_enter Try.func4, Try.ntmps4
    go_wp2
    go_loopg [13, 14] n0 (fun k x i wr => ∃ p : Nat, ∃ t : Int, p + k = n0 ∧ i = .int .i64 p ∧ x = .int .i64 t ∧ w = wr)
    case atStart => exact ⟨0, _, by omega, rfl, rfl, rfl⟩
    case round =>
      obtain ⟨p, t, hpk, rfl, rfl, hw⟩ := hrel
      subst hw
      by_cases hlt : p < n0
      · obtain ⟨b, off, rfl, hbs, hc⟩ := s0 (by omega)
        have hcp : w.cell? ⟨b, off + p, none⟩ = some (.string (v p)) := hc p hlt
        clear hc s0
        go_wp2
        all_goals first | (go_ret; exact ⟨says _, rfl⟩) | skip
        all_goals go_roundg (gk - 1)
        case measure => omega
        case rel => exact ⟨p + 1, _, by omega, by go_num, rfl, rfl⟩
      · go_wp2
        all_goals
          go_ret
          exact ⟨says _, rfl⟩
  · go_enter Try.func4, Try.ntmps4
    go_wp2
    go_loopg [13, 14] n0 (fun k x i wr => ∃ p : Nat, ∃ t : Int, p + k = n0 ∧ i = .int .i64 p ∧ x = .int .i64 t ∧ w = wr)
    case atStart => exact ⟨0, _, by omega, rfl, rfl, rfl⟩
    case round =>
      obtain ⟨p, t, hpk, rfl, rfl, hw⟩ := hrel
      subst hw
      by_cases hlt : p < n0
      · obtain ⟨b, off, rfl, hbs, hc⟩ := s0 (by omega)
        have hcp : w.cell? ⟨b, off + p, none⟩ = some (.string (v p)) := hc p hlt
        clear hc s0
        go_wp2
        all_goals first | (go_ret; exact ⟨says _, rfl⟩) | skip
        all_goals go_roundg (gk - 1)
        case measure => omega
        case rel => exact ⟨p + 1, _, by omega, by go_num, rfl, rfl⟩
      · go_wp2
        all_goals first | (go_ret; exact ⟨says _, rfl⟩) | skip
        go_loopg [13, 15] n2 (fun k x i wr => ∃ p : Nat, ∃ t : Int, p + k = n2 ∧ i = .int .i64 p ∧ x = .int .i64 t ∧ w = wr)
        case atStart => exact ⟨0, _, by omega, rfl, rfl, rfl⟩
        case round =>
          obtain ⟨p', t', hpk', rfl, rfl, hw⟩ := hrel
          subst hw
          by_cases hlt' : p' < n2
          · obtain ⟨b, off, rfl, hbs, hc⟩ := s2 (by omega)
            have hcp : w.cell? ⟨b, off + p', none⟩ = some (.string (d p')) := hc p' hlt'
            clear hc s2 s0
            go_wp2
            all_goals first | (go_ret; exact ⟨says _, rfl⟩) | skip
            all_goals go_roundg (gk - 1)
            case measure => omega
            case rel => exact ⟨p' + 1, _, by omega, by go_num, rfl, rfl⟩
          · go_wp2
            all_goals
              go_ret
              exact ⟨says _, rfl⟩

end Go.Proofs.Qxb6618430a
