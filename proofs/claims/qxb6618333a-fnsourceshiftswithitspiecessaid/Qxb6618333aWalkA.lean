import Derived.Test.Qxb6618333aRows
import Derived.Test.Qxb6618333aPlain
import Derived.Test.Qxb6618333aKit
import Derived.RegionTactic
import Derived.BigRegion
namespace Go.Proofs.Qxb6618333a
open Go.RowKit

theorem Try.info3 : (Try.prog.info? 3).map (fun i => (i.zero, i.size, i.bytes)) = some (some (.int .i64 0), 1, 8) := by kernel_rfl
theorem Try.size3 : (Try.prog.info? 3).map (·.size) = some 1 := by kernel_rfl
theorem Try.info32 : (Try.prog.info? 32).map (fun i => (i.zero, i.size, i.bytes)) = some (some (.agg #[.int .i64 0, .int .i64 0]), 2, 16) := by kernel_rfl

/-- A row of ints. -/
def In (d : Nat → Int) (i : Nat) : Value := .int .i64 (d i)
theorem in_one (d : Nat → Int) (i : Nat) : (In d i).oneCell' = true := rfl

/-! ### zzBytes.. -/
theorem bytes10 (a0 a1 : Option Addr) (n0 c0 n1 c1 : Nat) (i2 i3 i4 i5 : Int) (w : World) (h0 : n0 ≤ 9223372036854775807) (h1 : n1 ≤ 9223372036854775807) :
    Calls Try.prog 10 #[.slice a0 n0 c0, .slice a1 n1 c1, .int .i64 i2, .int .i64 i3, .int .i64 i4, .int .i64 i5] w fun e w' => (∃ b, e = .returned (.bool b)) ∧ w = w' := by
  go_enter Try.func10, Try.ntmps10
  go_wp2
  all_goals
    go_ret
    exact ⟨⟨_, rfl⟩, rfl⟩

/-! ### zzInRange -/
/-- What the answer says: yes only where all numbers lie within the bounds. -/
def InR (e : Ending) (n : Nat) (d : Nat → Int) (lo hi : Int) : Prop := ∃ r, e = .returned (.bool r) ∧ (r = true → ∀ i, i < n → lo ≤ d i ∧ d i ≤ hi)
theorem inR_no (n : Nat) (d : Nat → Int) (lo hi : Int) : InR (.returned (.bool false)) n d lo hi := ⟨false, rfl, fun h => by cases h⟩
theorem inR_yes {n : Nat} {d : Nat → Int} {lo hi : Int} (h : ∀ i, i < n → lo ≤ d i ∧ d i ≤ hi) : InR (.returned (.bool true)) n d lo hi := ⟨true, rfl, fun _ => h⟩

set_option maxHeartbeats 800000 in
theorem inRange_any (a : Option Addr) (n c : Nat) (lo hi : Int) (d : Nat → Int) (w : World) (hs : Seq w.heap.size w a n (In d)) (hn : n ≤ 1048576) :
    Calls Try.prog 6 #[.slice a n c, .int .i64 lo, .int .i64 hi] w fun e w' => InR e n d lo hi ∧ w = w' := by
  go_enter Try.func6, Try.ntmps6
  go_wp2
  go_loopg [7] n (fun k i wr => ∃ p : Nat, p + k = n ∧ i = .int .i64 p ∧ (∀ i, i < p → lo ≤ d i ∧ d i ≤ hi) ∧ w = wr)
  case atStart => exact ⟨0, by omega, rfl, fun i hi => by omega, rfl⟩
  case round =>
    obtain ⟨p, hpk, rfl, hR, hw⟩ := hrel
    subst hw
    have HR := hide hR
    clear hR
    by_cases hlt : p < n
    · obtain ⟨b, off, rfl, hbs, hc⟩ := hs (by omega)
      have hcp : w.cell? ⟨b, off + p, none⟩ = some (.int .i64 (d p)) := hc p hlt
      clear hc hs
      by_cases h1 : d p < lo
      · go_wp2
        go_ret
        exact ⟨inR_no _ _ _ _, rfl⟩
      by_cases h2 : hi < d p
      · go_wp2
        go_ret
        exact ⟨inR_no _ _ _ _, rfl⟩
      · go_wp2
        go_roundg (gk - 1)
        case measure => omega
        case rel =>
          refine ⟨p + 1, by omega, by go_num, fun i hi => ?_, rfl⟩
          by_cases e : i = p
          · subst e; omega
          · exact HR.out i (by omega)
    · obtain rfl : n = p := by omega
      go_wp2
      go_ret
      exact ⟨inR_yes HR.out, rfl⟩

/-! ### ZZJoinedWithPieces -/
/-- The cells of a row of pairs. -/
def Pr (d0 d1 : Nat → Int) (j : Nat) : Value := .int .i64 (if j % 2 = 0 then d0 (j / 2) else d1 (j / 2))
theorem pr_0 (d0 d1 : Nat → Int) (i : Nat) : Pr d0 d1 (i * 2) = .int .i64 (d0 i) := by
  rw [Pr, if_pos (by omega), show i * 2 / 2 = i by omega]
theorem pr_1 (d0 d1 : Nat → Int) (i : Nat) : Pr d0 d1 (i * 2 + 1) = .int .i64 (d1 i) := by
  rw [Pr, if_neg (by omega), show (i * 2 + 1) / 2 = i by omega]

theorem row_of_owns2 {w : World} {base g : Nat} {e : TypeId} {n : Nat} {xs : List Value} (f : Nat → Value) (h : w.ownsRow base e 2 (.slice (some ⟨g, 0, none⟩) n n) n xs) : Row w g e (n * 2) f 0 := by
  obtain ⟨_, h2⟩ := h
  rcases h2 with ⟨h', _⟩ | ⟨g', cap, cur, hv, _, hg, _, _, hs, _⟩
  · simp at h'
  · simp only [Value.slice.injEq, Option.some.injEq, Addr.mk.injEq, and_true, true_and] at hv
    obtain ⟨rfl, rfl⟩ := hv
    exact ⟨cur, hg, hs, fun i hi => by omega⟩

theorem Row.set' {w : World} {g : Nat} {e : TypeId} {n : Nat} {f : Nat → Value} {k : Nat} (h : Row w g e n f k) (hk : k < n) {u : Value} (hu : f k = u) : Row (w.setCell ⟨g, k, none⟩ u) g e n f (k + 1) := by
  subst hu; exact h.set hk

theorem pr_step {w : World} {g n p : Nat} {d0 d1 : Nat → Int} (h : Row w g 32 (n * 2) (Pr d0 d1) (p * 2)) (hp : p < n) : Row ((w.setCell ⟨g, p * 2, none⟩ (.int .i64 (d0 p))).setCell ⟨g, p * 2 + 1, none⟩ (.int .i64 (d1 p))).drew g 32 (n * 2) (Pr d0 d1) ((p + 1) * 2) := by
  have h1 := h.set' (by omega) (pr_0 d0 d1 p)
  have h2 := h1.set' (by omega) (pr_1 d0 d1 p)
  rw [show (p + 1) * 2 = p * 2 + 1 + 1 by omega]
  exact h2.same rfl

/-- The line joined of n pieces: its block J holds the slice of pieces, block g their cells. -/
structure Jn (w : World) (J g n : Nat) (d0 d1 : Nat → Int) : Prop where
  pieces : w.cell? ⟨J, 7, none⟩ = some (.slice (some ⟨g, 0, none⟩) n n)
  row : Row w g 32 (n * 2) (Pr d0 d1) (n * 2)

set_option maxHeartbeats 1600000 in
theorem joined_any (a0 a1 : Option Addr) (n c0 c1 : Nat) (d0 d1 : Nat → Int) (w : World) (h0 : Seq w.heap.size w a0 n (In d0)) (h1 : Seq w.heap.size w a1 n (In d1)) (hn : n ≤ 1048576) :
    Calls Try.prog 8 #[.slice a0 n c0, .slice a1 n c1] w fun e w' => ∃ J, e = .returned (.pointer (some ⟨J, 0, none⟩)) ∧ Jn w' J w.heap.size n d0 d1 ∧ w.heap.size < J ∧ J < w'.heap.size ∧ Below w.heap.size w w' := by
  obtain ⟨i0, hi, hz0, hz1, hz2⟩ := info_parts Try.info32
  go_enter Try.func8, Try.ntmps8
  go_wp2_with (at_make; refine wpList_make_full _ rfl _ _ 30 rfl w.heap.size 32 i0 (.agg #[.int .i64 0, .int .i64 0]) 2 Try.underlying30 hi hz0 hz1 _ _ _ _ n rfl rfl rfl rfl ?b1 ?b2 ?b3 ?_)
  case b1 => rw [hz2]; omega
  case b2 => unfold maxLen; omega
  case b3 => exact Nat.le_refl _
  intro w1 hown hgrow
  have hB : Below w.heap.size w w1 := (Below.refl _ _).grown hgrow (Nat.le_refl _) (fun k h => by cases h)
  have hR : Row w1 w.heap.size 32 (n * 2) (Pr d0 d1) 0 := row_of_owns2 _ hown
  clear hown hgrow
  go_wp2
  go_loopg [6] n (fun k i wr => ∃ p : Nat, p + k = n ∧ i = .int .i64 p ∧ Row wr w.heap.size 32 (n * 2) (Pr d0 d1) (p * 2) ∧ Below w.heap.size w wr)
  case atStart => exact ⟨0, by omega, rfl, hR, hB⟩
  case round =>
    clear hR hB
    obtain ⟨p, hpk, rfl, hR, hB⟩ := hrel
    by_cases hlt : p < n
    · obtain ⟨b, off, rfl, hbs, hc⟩ := h0 (by omega)
      obtain ⟨b', off', rfl, hbs', hc'⟩ := h1 (by omega)
      have hcp : wr.cell? ⟨b, off + p, none⟩ = some (.int .i64 (d0 p)) := (hB.cell (p := ⟨b, off + p, none⟩) hbs).trans (hc p hlt)
      have hcp' : wr.cell? ⟨b', off' + p, none⟩ = some (.int .i64 (d1 p)) := (hB.cell (p := ⟨b', off' + p, none⟩) hbs').trans (hc' p hlt)
      have hpn : (p : Int) < (n : Int) := by omega
      obtain ⟨u1, x1⟩ := hR.old (p * 2) (by omega)
      obtain ⟨u2, x2⟩ := hR.old (p * 2 + 1) (by omega)
      have f := hR.free
      have hR' := pr_step hR hlt
      have hB' : Below w.heap.size w ((wr.setCell ⟨w.heap.size, p * 2, none⟩ (.int .i64 (d0 p))).setCell ⟨w.heap.size, p * 2 + 1, none⟩ (.int .i64 (d1 p))).drew := ((hB.setCell (by exact Nat.le_refl _) _).setCell (by exact Nat.le_refl _) _).drew
      have HR' := hide hR'
      have HB' := hide hB'
      clear hc hc' h0 h1 hR' hB' hR hB
      go_wp2
      go_region
      all_goals go_wp2
      all_goals go_roundg (gk - 1)
      case measure => omega
      case rel => exact ⟨p + 1, by omega, by go_num, HR'.out, HB'.out⟩
    · obtain rfl : n = p := by omega
      have hBs := hB.size
      go_wp2
      go_ret
      refine ⟨wr.heap.size, rfl, ⟨?_, ?_⟩, hR.lt, by simp, hB.alloc hB.size _⟩
      · simp
      · exact hR.below (below_new wr _) hR.lt
end Go.Proofs.Qxb6618333a
