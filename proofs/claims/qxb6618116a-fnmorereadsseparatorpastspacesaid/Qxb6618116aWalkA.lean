import Derived.Test.Qxb6618116aRows
import Derived.Test.Qxb6618116aPlain
import Derived.Test.Qxb6618116aKit
import Derived.WalkKit
import Derived.ProofKit
import Derived.WalkSpells
import Derived.WalkLawsBesides
import Derived.Deep.QuietTactic
import Derived.BigQuiet
import Derived.Below
import Derived.Deep.LoopGhost
namespace Go.Proofs.Qxb6618116a
open Go.RowKit

theorem Try.info5 : (Try.prog.info? 5).map (fun i => (i.zero, i.size, i.bytes)) = some (some (.int .u8 0), 1, 1) := by kernel_rfl

/-- A row of bytes. -/
def By (d : Nat → Int) (i : Nat) : Value := .int .u8 (d i)

/-! ### zzBytes_FnSkipString.. -/
theorem bytes6 (a0 a4 a5 : Option Addr) (n0 c0 n4 c4 n5 c5 : Nat) (i1 i2 : Int) (b3 : Bool) (w : World) (h0 : n0 ≤ 9223372036854775807) (h4 : n4 ≤ 9223372036854775807) (h5 : n5 ≤ 9223372036854775807) :
    Calls Try.prog 6 #[.slice a0 n0 c0, .int .i64 i1, .int .i64 i2, .bool b3, .slice a4 n4 c4, .slice a5 n5 c5] w fun e w' => (∃ b, e = .returned (.bool b)) ∧ w' = w := by
  go_enter Try.func6, Try.ntmps6
  go_wp2
  all_goals
    go_ret
    exact ⟨⟨_, rfl⟩, rfl⟩

/-! ### zzClone -/
set_option maxHeartbeats 400000 in
theorem clone_any (a : Option Addr) (n c : Nat) (d : Nat → Int) (w : World) (hs : Seq w.heap.size w a n (By d)) (hnil : a = none → n = 0 ∧ c = 0) (hn : n ≤ 1048576) :
    Calls Try.prog 7 #[.slice a n c] w fun e w' => ∃ a' c', e = .returned (.slice a' n c') ∧ (a' = none → n = 0 ∧ c' = 0) ∧ n ≤ c' ∧ Seq w'.heap.size w' a' n (By d) ∧ Below w.heap.size w w' := by
  have hq := fun (w : World) (a : Option Addr) (n c : Nat) => Lib.run_eql_slice_nil (P := Try.prog) w 22 5 a n c 0 0 Try.underlying22
  obtain ⟨i0, hi, hz0, hz1, hz2⟩ := info_parts Try.info5
  cases a with
  | none =>
    obtain ⟨rfl, rfl⟩ := hnil rfl
    clear hnil
    go_enter Try.func7, Try.ntmps7
    go_wp2
    go_ret
    exact ⟨none, 0, by first | rfl | trivial, by simp, Nat.le_refl _, hs, Below.refl _ _⟩
  | some x =>
    clear hnil
    go_enter Try.func7, Try.ntmps7
    go_wp2_with (at_make; refine wpList_make_full _ rfl _ _ 22 rfl w.heap.size 5 i0 (.int .u8 0) 1 Try.underlying22 hi hz0 hz1 _ _ _ _ n rfl rfl rfl rfl ?b1 ?b2 ?b3 ?_)
    case b1 => rw [hz2]; omega
    case b2 => unfold maxLen; omega
    case b3 => exact Nat.le_refl _
    intro w1 hown hgrow
    have hb1 : Below w.heap.size w w1 := (Below.refl _ _).grown hgrow (Nat.le_refl _) (fun k h => by cases h)
    have hr1 : Row w1 w.heap.size 5 n (By d) 0 := row_of_owns _ hown
    clear hown hgrow
    go_wp2
    go_loopw [4] (fun i wr => ∃ k : Nat, k ≤ n ∧ i = .int .i64 k ∧ Row wr w.heap.size 5 n (By d) k ∧ Below w.heap.size w wr) (fun i _ => n - (intOf i).toNat)
    case atStart => exact ⟨0, Nat.zero_le _, rfl, hr1, hb1⟩
    case round =>
      obtain ⟨k, hk, rfl, hr, hb⟩ := hrel
      clear hr1 hb1
      by_cases hlt : k < n
      · obtain ⟨b, off, hx, hbs, hc⟩ := hs (by omega)
        obtain rfl := Option.some.inj hx
        have hc' : wr.cell? ⟨b, off + k, none⟩ = some (.int .u8 (d k)) := (hb.cell (p := ⟨b, off + k, none⟩) hbs).trans (hc k hlt)
        obtain ⟨v, hv⟩ := hr.old k hlt
        have hf := hr.free k
        have hr' := hr.set hlt
        have hb' : Below w.heap.size w (wr.setCell ⟨w.heap.size, k, none⟩ (By d k)) := hb.setCell (by exact Nat.le_refl _) _
        go_wp2
        go_roundw
        case rel => exact ⟨k + 1, by omega, by go_num, hr', hb'⟩
        case measure => simp [intOf]; omega
      · obtain rfl : k = n := by omega
        go_wp2
        go_ret
        exact ⟨_, _, rfl, by intro h; simp at h, Nat.le_refl _, hr.seq hr.lt, hb⟩

/-! ### zzStringEnd -/
theorem even_of (c : Nat) (h : ((c : Int) % 2 == 0) = true) : c % 2 = 0 := by simp at h; omega
theorem odd_of (c : Nat) (h : ((c : Int) % 2 == 0) = false) : c % 2 = 1 := by simp at h; omega

set_option maxHeartbeats 800000 in
theorem stringEnd_any (a : Option Addr) (n c s : Nat) (d : Nat → Int) (w : World) (hs : Seq w.heap.size w a n (By d)) (hn : n ≤ 1048576) (hsn : s < n) :
    Calls Try.prog 8 #[.slice a n c, .int .i64 s] w fun e w' => ((e = .returned (.int .i64 (-1))) ∨ ∃ Q : Nat, e = .returned (.int .i64 ((Q : Int) + 1)) ∧ Plain.FirstQ d n s Q) ∧ w' = w := by
  obtain ⟨b, off, rfl, hbs, hc⟩ := hs (by omega)
  replace hc : ∀ i, i < n → w.cell? ⟨b, off + i, none⟩ = some (.int .u8 (d i)) := hc
  clear hs
  go_enter Try.func8, Try.ntmps8
  go_wp2
  go_loop [5] (fun i => ∃ k : Nat, s < k ∧ k ≤ n ∧ i = .int .i64 k ∧ Plain.NoQ d s k) (fun i => n - (intOf i).toNat)
  case atStart => exact ⟨s + 1, by omega, by omega, by go_num, Plain.noQ_start d s⟩
  case round =>
    obtain ⟨k, hsk, hk, rfl, hno⟩ := hrel
    by_cases hlt : k < n
    · by_cases hq : d k = 34
      · have hqb : (d k != 34) = false := by simp [hq]
        have HQ : Hid (d k = 34) := hq
        clear hq
        go_wp2
        go_loop [6, 7] (fun u v => ∃ c1 j : Nat, s ≤ j ∧ j + c1 + 1 = k ∧ u = .int .i64 c1 ∧ v = .int .i64 j ∧ Plain.run d s k = c1 + Plain.run d s (j + 1)) (fun _ v => (intOf v).toNat)
        case atStart => exact ⟨0, k - 1, by omega, by omega, rfl, by go_num, by rw [Nat.zero_add, show k - 1 + 1 = k by omega]⟩
        case round =>
          obtain ⟨c1, j, hj, hjk, rfl, rfl, hrun⟩ := hrel
          have HR : Hid (Plain.run d s k = c1 + Plain.run d s (j + 1)) := hrun
          have HK : Hid (j + c1 + 1 = k) := hjk
          have hjk1 : j < k := by omega
          have hc1 : c1 < k := by omega
          clear hrun hjk
          by_cases hjs : s < j
          · have hjn : j < n := by omega
            by_cases hb : d j = 92
            · have hbb : (d j == 92) = true := by simp [hb]
              have HB : Hid (d j = 92) := hb
              clear hb
              go_wp2
              go_round
              case rel => exact ⟨c1 + 1, j - 1, by omega, by have := HK.out; omega, by go_num, by go_num, by rw [HR.out, show j - 1 + 1 = j by omega, Plain.run_slash hjs HB.out]; omega⟩
              case measure => simp [intOf]; omega
            · have hbb : (d j == 92) = false := by simp [hb]
              have e0 : Plain.run d s k = c1 := by rw [HR.out, Plain.run_other hb]; rfl
              have E0 : Hid (Plain.run d s k = c1) := e0
              clear e0 hb HR
              go_wp2
              · go_ret
                exact ⟨.inr ⟨k, rfl, Plain.noQ_first hno hsk hlt HQ.out (by rw [E0.out]; exact even_of _ (by assumption))⟩, rfl⟩
              · go_round
                case rel => exact ⟨k + 1, by omega, by omega, by go_num, Plain.noQ_odd hno (by rw [E0.out]; exact odd_of _ (by assumption))⟩
                case measure => simp [intOf]; omega
          · have e0 : Plain.run d s k = c1 := by rw [HR.out, show j = s by omega, Plain.run_at]; rfl
            have E0 : Hid (Plain.run d s k = c1) := e0
            clear e0 HR
            go_wp2
            · go_ret
              exact ⟨.inr ⟨k, rfl, Plain.noQ_first hno hsk hlt HQ.out (by rw [E0.out]; exact even_of _ (by assumption))⟩, rfl⟩
            · go_round
              case rel => exact ⟨k + 1, by omega, by omega, by go_num, Plain.noQ_odd hno (by rw [E0.out]; exact odd_of _ (by assumption))⟩
              case measure => simp [intOf]; omega
      · have hqb : (d k != 34) = true := by simp [hq]
        go_wp2
        go_round
        case rel => exact ⟨k + 1, by omega, by omega, by go_num, Plain.noQ_other hno hq⟩
        case measure => simp [intOf]; omega
    · go_wp2
      go_ret
      exact ⟨.inl rfl, rfl⟩

end Go.Proofs.Qxb6618116a
