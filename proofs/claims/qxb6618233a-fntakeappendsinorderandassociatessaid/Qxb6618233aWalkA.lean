import Derived.Test.Qxb6618233aRows
import Derived.Test.Qxb6618233aPlain
import Derived.Test.Qxb6618233aKit
namespace Go.Proofs.Qxb6618233a
open Go.RowKit

theorem Try.info4 : (Try.prog.info? 4).map (fun i => (i.zero, i.size, i.bytes)) = some (some (.bool false), 1, 1) := by kernel_rfl
theorem Try.size4 : (Try.prog.info? 4).map (·.size) = some 1 := by kernel_rfl

/-- A row of bools. -/
def Bo (d : Nat → Bool) (i : Nat) : Value := .bool (d i)

/-! ### zzBytes.. -/
theorem bytes6 (a0 : Option Addr) (n0 c0 : Nat) (w : World) (h0 : n0 ≤ 9223372036854775807) :
    Calls Try.prog 6 #[.slice a0 n0 c0] w fun e w' => (∃ b, e = .returned (.bool b)) ∧ w = w' := by
  go_enter Try.func6, Try.ntmps6
  go_wp2
  all_goals
    go_ret
    exact ⟨⟨_, rfl⟩, rfl⟩
theorem bytes9 (a0 a1 : Option Addr) (n0 c0 n1 c1 : Nat) (i2 : Int) (w : World) (h0 : n0 ≤ 9223372036854775807) (h1 : n1 ≤ 9223372036854775807) :
    Calls Try.prog 9 #[.slice a0 n0 c0, .slice a1 n1 c1, .int .i64 i2] w fun e w' => (∃ b, e = .returned (.bool b)) ∧ w = w' := by
  go_enter Try.func9, Try.ntmps9
  go_wp2
  all_goals
    go_ret
    exact ⟨⟨_, rfl⟩, rfl⟩

/-! ### outweighs$1 -/
/-- L is the least member from j on, or n where there is none. -/
structure LowFrom (d : Nat → Bool) (n j L : Nat) : Prop where
  lo : j ≤ L
  hi : L ≤ n
  before : ∀ i, j ≤ i → i < L → d i = false
  here : L < n → d L = true

theorem lowFrom_no {d : Nat → Bool} {n j L : Nat} (h : LowFrom d n (j + 1) L) (hd : d j = false) : LowFrom d n j L :=
  ⟨by have := h.lo; omega, h.hi, fun i h1 h2 => (by
    by_cases e : i = j
    · rw [e]; exact hd
    · exact h.before i (by omega) h2), h.here⟩

set_option maxHeartbeats 800000 in
theorem count_any (a : Option Addr) (n c L : Nat) (d : Nat → Bool) (w : World) (hs : Seq w.heap.size w a n (Bo d)) (hn : n ≤ 1048576) (hL : Plain.IsLow d n L) :
    Calls Try.prog 21 #[.slice a n c] w fun e w' => e = .returned (.tuple #[.int .i64 (Plain.cnt d n), .int .i64 L]) ∧ w = w' := by
  have hcn := Plain.cnt_le d n
  go_enter Try.func21, Try.ntmps21
  go_wp2
  go_loopg [2, 3, 4] n (fun k x y z wr => ∃ M Lc : Nat, ∃ z' : Int, k ≤ n ∧ z = .int .i64 z' ∧ z' + 1 = (k : Int) ∧ x = .int .i64 M ∧ y = .int .i64 Lc ∧ M + Plain.cnt d k = Plain.cnt d n ∧ LowFrom d n k Lc ∧ w = wr)
  case atStart => exact ⟨0, n, (n : Int) - 1, Nat.le_refl _, rfl, by omega, rfl, rfl, by omega, ⟨Nat.le_refl _, Nat.le_refl _, fun i h1 h2 => by omega, fun h => by omega⟩, rfl⟩
  case round =>
    obtain ⟨M, Lc, z', hk, rfl, hz, rfl, rfl, hM, hF, hw⟩ := hrel
    subst hw
    cases gk with
    | zero =>
      obtain rfl : z' = -1 := by omega
      have hLc : Lc = L := Plain.isLow_unique ⟨hF.hi, fun i hi => hF.before i (by omega) hi, hF.here⟩ hL
      have hMc : M = Plain.cnt d n := by have : Plain.cnt d 0 = 0 := rfl; omega
      have HL : Hid (Lc = L) := hLc
      have HM : Hid (M = Plain.cnt d n) := hMc
      clear hLc hMc hM hF
      go_wp2
      go_ret2
      exact ⟨by rw [HL.out, HM.out]; rfl, rfl⟩
    | succ j =>
      obtain rfl : z' = (j : Int) := by omega
      obtain ⟨b, off, rfl, hbs, hc⟩ := hs (by omega)
      have hcj : w.cell? ⟨b, off + j, none⟩ = some (.bool (d j)) := hc j (by omega)
      have hjn : j < n := by omega
      have HM : Hid (M + Plain.cnt d (j + 1) = Plain.cnt d n) := hM
      have hMn : M ≤ n := by omega
      clear hc hs hM
      cases hd : d j
      · have HD : Hid (d j = false) := hd
        rw [hd] at hcj
        clear hd
        go_wp2
        go_roundg j
        case measure => omega
        case rel => exact ⟨M, Lc, (j : Int) - 1, by omega, rfl, by omega, rfl, rfl, by have := HM.out; rw [Plain.cnt, HD.out] at this; simpa using this, lowFrom_no hF HD.out, rfl⟩
      · have HD : Hid (d j = true) := hd
        rw [hd] at hcj
        clear hd
        go_wp2
        go_roundg j
        case measure => omega
        case rel => exact ⟨M + 1, j, (j : Int) - 1, by omega, rfl, by omega, by go_num, rfl, by have := HM.out; rw [Plain.cnt, HD.out] at this; simp at this; omega, ⟨Nat.le_refl _, by omega, fun i h1 h2 => by omega, fun _ => HD.out⟩, rfl⟩

/-! ### outweighs, ZZoutweighs -/
set_option maxHeartbeats 1600000 in
theorem outweighs_any (a b : Option Addr) (n c m k L M : Nat) (d d' : Nat → Bool) (w : World) (hs : Seq w.heap.size w a n (Bo d)) (hs' : Seq w.heap.size w b m (Bo d')) (hn : n ≤ 1048576) (hm : m ≤ 1048576) (hL : Plain.IsLow d n L) (hM : Plain.IsLow d' m M) :
    Calls Try.prog 15 #[.slice a n c, .slice b m k] w fun e w' => e = .returned (.bool (Plain.ow (Plain.cnt d n) L (Plain.cnt d' m) M)) ∧ w = w' := by
  have C1 := hide (count_any a n c L d w hs hn hL)
  have C2 := hide (count_any b m k M d' w hs' hm hM)
  clear hs hs' hL hM
  generalize Plain.cnt d n = cA at C1
  generalize Plain.cnt d' m = cB at C2
  by_cases h1 : cB < cA
  · have k1 : (cB : Int) < (cA : Int) := by omega
    have e : Plain.ow cA L cB M = true := by simp [Plain.ow, h1]
    rw [e]
    clear e
    go_enter Try.func15, Try.ntmps15
    go_wp2_with fail
    refine C1.out.mono ?_
    rintro e w' ⟨rfl, hw⟩
    subst hw
    go_wp2_with fail
    refine C2.out.mono ?_
    rintro e w' ⟨rfl, hw⟩
    subst hw
    go_wp2
    go_ret
    exact ⟨rfl, rfl⟩
  by_cases h2 : cA = cB
  · subst h2
    have e : Plain.ow cA L cA M = decide (L < M) := by simp [Plain.ow]
    rw [e]
    clear e
    have k0 : ((cA : Int) == (cA : Int)) = true := by simp
    by_cases h3 : L < M
    · have k3 : (L : Int) < (M : Int) := by omega
      rw [decide_eq_true h3]
      go_enter Try.func15, Try.ntmps15
      go_wp2_with fail
      refine C1.out.mono ?_
      rintro e w' ⟨rfl, hw⟩
      subst hw
      go_wp2_with fail
      refine C2.out.mono ?_
      rintro e w' ⟨rfl, hw⟩
      subst hw
      go_wp2
      go_ret
      exact ⟨rfl, rfl⟩
    · have k3 : decide ((L : Int) < (M : Int)) = false := decide_eq_false (by omega)
      rw [decide_eq_false h3]
      go_enter Try.func15, Try.ntmps15
      go_wp2_with fail
      refine C1.out.mono ?_
      rintro e w' ⟨rfl, hw⟩
      subst hw
      go_wp2_with fail
      refine C2.out.mono ?_
      rintro e w' ⟨rfl, hw⟩
      subst hw
      go_wp2
      go_ret
      exact ⟨rfl, rfl⟩
  · have k2 : ((cA : Int) == (cB : Int)) = false := by simp; omega
    have e : Plain.ow cA L cB M = false := by simp [Plain.ow, h1, h2]
    rw [e]
    clear e h2
    go_enter Try.func15, Try.ntmps15
    go_wp2_with fail
    refine C1.out.mono ?_
    rintro e w' ⟨rfl, hw⟩
    subst hw
    go_wp2_with fail
    refine C2.out.mono ?_
    rintro e w' ⟨rfl, hw⟩
    subst hw
    go_wp2
    go_ret
    exact ⟨rfl, rfl⟩

theorem zzOutweighs_is (a b : Option Addr) (n c m k L M : Nat) (d d' : Nat → Bool) (w : World) (r : Bool) (hs : Seq w.heap.size w a n (Bo d)) (hs' : Seq w.heap.size w b m (Bo d')) (hn : n ≤ 1048576) (hm : m ≤ 1048576) (hL : Plain.IsLow d n L) (hM : Plain.IsLow d' m M)
    (hr : Plain.ow (Plain.cnt d n) L (Plain.cnt d' m) M = r) :
    Calls Try.prog 7 #[.slice a n c, .slice b m k] w fun e w' => e = .returned (.bool r) ∧ w = w' := by
  subst hr
  go_enter Try.func7, Try.ntmps7
  go_wp2_with fail
  refine (outweighs_any a b n c m k L M d d' w hs hs' hn hm hL hM).mono ?_
  rintro e w' ⟨rfl, hw⟩
  subst hw
  go_wp2_with fail
  go_ret
  exact ⟨rfl, rfl⟩

/-! ### countTrue -/
set_option maxHeartbeats 800000 in
theorem countTrue_any (a : Option Addr) (n c : Nat) (d : Nat → Bool) (w : World) (hs : Seq w.heap.size w a n (Bo d)) (hn : n ≤ 1048576) :
    Calls Try.prog 8 #[.slice a n c] w fun e w' => e = .returned (.int .i64 (Plain.cnt d n)) ∧ w = w' := by
  go_enter Try.func8, Try.ntmps8
  go_wp2
  go_loopg [3, 4] n (fun k x z wr => ∃ j M : Nat, j + k = n ∧ z = .int .i64 j ∧ x = .int .i64 M ∧ M = Plain.cnt d j ∧ w = wr)
  case atStart => exact ⟨0, 0, by omega, rfl, rfl, rfl, rfl⟩
  case round =>
    obtain ⟨j, M, hjk, rfl, rfl, hM, hw⟩ := hrel
    subst hw
    have HM : Hid (M = Plain.cnt d j) := hM
    have hMj : M ≤ j := by have := Plain.cnt_le d j; omega
    clear hM
    by_cases hlt : j < n
    · obtain ⟨b, off, rfl, hbs, hc⟩ := hs (by omega)
      have hcj : w.cell? ⟨b, off + j, none⟩ = some (.bool (d j)) := hc j (by omega)
      clear hc hs
      cases hd : d j
      · have HD : Hid (d j = false) := hd
        rw [hd] at hcj
        clear hd
        go_wp2
        go_roundg (gk - 1)
        case measure => omega
        case rel => exact ⟨j + 1, M, by omega, by go_num, rfl, by rw [Plain.cnt, HD.out]; simpa using HM.out, rfl⟩
      · have HD : Hid (d j = true) := hd
        rw [hd] at hcj
        clear hd
        go_wp2
        go_roundg (gk - 1)
        case measure => omega
        case rel => exact ⟨j + 1, M + 1, by omega, by go_num, by go_num, by rw [Plain.cnt, HD.out]; simpa using HM.out, rfl⟩
    · obtain rfl : n = j := by omega
      go_wp2
      go_ret
      exact ⟨by rw [HM.out]; rfl, rfl⟩
end Go.Proofs.Qxb6618233a
