/-
  PLAIN LAWS OF SEAT b6618333a: which piece Source picks. No Go in sight.
-/
namespace Go.Proofs.Qxb6618333a.Plain

/-- Piece k is the last of the leading pieces that begin at or before x (the first piece counts whatever it begins at). -/
structure Sel (at0 : Nat → Int) (n : Nat) (x : Int) (k : Nat) : Prop where
  hi : k < n
  upto : ∀ i, 0 < i → i ≤ k → at0 i ≤ x
  stop : k + 1 < n → x < at0 (k + 1)

theorem sel_ex (at0 : Nat → Int) (x : Int) : ∀ n, ∃ k, Sel at0 (n + 1) x k
  | 0 => ⟨0, by omega, fun i h1 h2 => by omega, fun h => by omega⟩
  | n + 1 => by
    obtain ⟨k, h⟩ := sel_ex at0 x n
    have h1 := h.hi
    by_cases e : k + 1 < n + 1
    · exact ⟨k, by omega, h.upto, fun _ => h.stop e⟩
    · by_cases e2 : at0 (n + 1) ≤ x
      · refine ⟨n + 1, by omega, fun i hi1 hi2 => ?_, fun h => by omega⟩
        by_cases e3 : i = n + 1
        · rw [e3]; exact e2
        · exact h.upto i hi1 (by omega)
      · exact ⟨k, by omega, h.upto, fun _ => by rw [show k + 1 = n + 1 by omega]; omega⟩

theorem sel_shift {at0 at1 : Nat → Int} {n k : Nat} {x c : Int} (hs : ∀ i, i < n → at1 i = at0 i + c) (h : Sel at0 n x k) : Sel at1 n (x + c) k := by
  have h1 := h.hi
  refine ⟨h1, fun i hi1 hi2 => ?_, fun h2 => ?_⟩
  · have := h.upto i hi1 hi2
    rw [hs i (by omega)]; omega
  · have := h.stop h2
    rw [hs (k + 1) h2]; omega

theorem sel_last {at0 : Nat → Int} {n : Nat} {x : Int} (hn : 0 < n) (h : ∀ i, i < n → at0 i ≤ x) : Sel at0 n x (n - 1) :=
  ⟨by omega, fun i _ hi => h i (by omega), fun h => by omega⟩

end Go.Proofs.Qxb6618333a.Plain
