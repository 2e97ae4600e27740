import Derived.Test.Qxb6618116aWalkD
namespace Go.Proofs.Qxb6618116a
open Go.RowKit

theorem hide {p : Prop} (h : p) : Hid p := h

/-- Where a scalar at s ends: past its closing quote, or at the first stop byte. -/
def Sc (d : Nat → Int) (n s E : Nat) : Prop := (d s = 34 ∧ ∃ Q, E = Q + 1 ∧ Plain.FirstQ d n s Q) ∨ (¬ d s = 34 ∧ Plain.FirstStop d n s E)

theorem Sc.lo {d : Nat → Int} {n s E : Nat} (h : Sc d n s E) : s ≤ E := by
  rcases h with ⟨_, Q, rfl, h⟩ | ⟨_, h⟩
  · have := h.lo; omega
  · exact h.lo
theorem Sc.hi {d : Nat → Int} {n s E : Nat} (h : Sc d n s E) : E ≤ n := by
  rcases h with ⟨_, Q, rfl, h⟩ | ⟨_, h⟩
  · have := h.hi; omega
  · exact h.hi
theorem Sc.shift {d d' : Nat → Int} {n n' m s E : Nat} (hd : ∀ i, i < n → d' (i + m) = d i) (hn : n' = n + m) (hs : s < n) (h : Sc d n s E) : Sc d' n' (s + m) (E + m) := by
  subst hn
  rcases h with ⟨h1, Q, rfl, h⟩ | ⟨h1, h⟩
  · exact .inl ⟨by rw [hd s hs]; exact h1, Q + m, by omega, Plain.firstQ_shift hd (Nat.le_refl _) h⟩
  · exact .inr ⟨by rw [hd s hs]; exact h1, Plain.firstStop_shift hd h⟩
theorem Sc.long {d : Nat → Int} {n c s E : Nat} (h : Sc d n s E) (hc : E ≤ c) (hn : c ≤ n) : Sc d c s E := by
  rcases h with ⟨h1, Q, rfl, h⟩ | ⟨h1, h⟩
  · exact .inl ⟨h1, Q, rfl, Plain.firstQ_cut h (by omega)⟩
  · exact .inr ⟨h1, Plain.firstStop_long h hc hn⟩
theorem Sc.cut {d : Nat → Int} {n c s E : Nat} (h : Sc d n s E) (hd : ¬ d s = 34) (hs : s ≤ c) (hc : c ≤ E) : Sc d c s c := by
  rcases h with ⟨h1, _⟩ | ⟨h1, h⟩
  · exact absurd h1 hd
  · exact .inr ⟨h1, Plain.firstStop_cut h hs hc⟩

theorem scalarEnd_any (a : Option Addr) (n c s : Nat) (d : Nat → Int) (w : World) (hs : Seq w.heap.size w a n (By d)) (hn : n ≤ 1048576) (hsn : s < n) :
    Calls Try.prog 13 #[.slice a n c, .int .i64 s] w fun e w' => ((e = .returned (.int .i64 (-1))) ∨ ∃ E : Nat, e = .returned (.int .i64 E) ∧ Sc d n s E) ∧ w = w' := by
  by_cases hd : d s = 34
  · refine (scalarEnd_str a n c s d w hs hn hsn hd).mono fun e w' h => ⟨?_, h.2.symm⟩
    rcases h.1 with h | ⟨Q, h, hQ⟩
    · exact .inl h
    · exact .inr ⟨Q + 1, by rw [h]; rfl, .inl ⟨hd, Q, rfl, hQ⟩⟩
  · refine (scalarEnd_plain a n c s d w hs hn hsn hd).mono fun e w' h => ?_
    obtain ⟨E, h1, h2, h3⟩ := h
    exact ⟨.inr ⟨E, h1, .inr ⟨hd, h2⟩⟩, h3.symm⟩

/-! ### ZZSkipScalar -/
set_option maxHeartbeats 800000 in
theorem zzSkipScalar_of (a : Option Addr) (n c s E : Nat) (z zE : Int) (hz : z = (s : Int)) (hE : zE = (E : Int)) (mx : Int) (l : Bool) (d : Nat → Int) (w : World) (hs : Seq w.heap.size w a n (By d)) (hn : n ≤ 1048576) (hsn : s < n)
    (hq : Sc d n s E) :
    Calls Try.prog 14 #[.slice a n c, .int .i64 z, .int .i64 mx, .bool l] w fun e w' => e = .returned (.tuple #[.int .i64 zE, .int .i64 mx, .bool l]) ∧ Below w.heap.size w w' := by
  subst hz; subst hE
  have key : ∀ w1, Seq w.heap.size w1 a n (By d) → Wk w1 w.heap.size a n c s mx l → Calls Try.prog 20 #[.pointer (some ⟨w.heap.size, 0, none⟩)] w1 fun e w' => e = .returned (.tuple #[]) ∧ Wk w' w.heap.size a n c E mx l ∧ Below w.heap.size w1 w' := by
    intro w1 hs1 hw1
    rcases hq with ⟨h1, Q, rfl, h2⟩ | ⟨h1, h2⟩
    · exact skipScalar_str _ a n c s Q mx l d w1 hs1 hn h1 h2 hw1
    · exact skipScalar_plain _ a n c s E mx l d w1 hs1 hn hsn h1 h2 hw1
  have KEY := hide key
  clear key hq
  go_enter Try.func14, Try.ntmps14
  go_wp2_with fail
  refine (KEY.out _ (hs.below (below_new w _) (Nat.le_refl _)) (wk_new w a n c s mx l)).mono ?_
  rintro e w' ⟨rfl, hW, hB⟩
  obtain ⟨h0, h1, h2, h3, h4⟩ := hW
  go_wp2
  go_quiet (fail)
  go_wp2
  go_ret3
  exact ⟨by simp, (below_new w _).trans (below_drewN' hB _)⟩
end Go.Proofs.Qxb6618116a
