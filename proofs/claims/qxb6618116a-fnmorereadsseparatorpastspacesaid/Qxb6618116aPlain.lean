/-
  PLAIN LAWS OF SEAT b6618116a: no Go in sight. A row of bytes is a function 'd : Nat → Int' and a length.
-/
namespace Go.Proofs.Qxb6618116a.Plain

/-- How many backslashes stand right before place p, counted back no further than s + 1. -/
def run (d : Nat → Int) (s : Nat) : Nat → Nat
  | 0 => 0
  | p + 1 => if s < p ∧ d p = 92 then run d s p + 1 else 0

theorem run_at (d : Nat → Int) (s : Nat) : run d s (s + 1) = 0 := by
  unfold run; simp

theorem run_le (d : Nat → Int) (s : Nat) : ∀ p, run d s p ≤ p
  | 0 => Nat.le_refl _
  | p + 1 => by
    unfold run
    have := run_le d s p
    split <;> omega

theorem run_slash {d : Nat → Int} {s p : Nat} (hs : s < p) (h : d p = 92) : run d s (p + 1) = run d s p + 1 := by
  rw [run, if_pos ⟨hs, h⟩]

theorem run_other {d : Nat → Int} {s p : Nat} (h : ¬ d p = 92) : run d s (p + 1) = 0 := by
  rw [run, if_neg (fun k => h k.2)]

/-- Q is the first quote behind s that stands behind an even run of backslashes. -/
structure FirstQ (d : Nat → Int) (n s Q : Nat) : Prop where
  lo : s < Q
  hi : Q < n
  quote : d Q = 34
  even : run d s Q % 2 = 0
  first : ∀ q, s < q → q < Q → d q = 34 → run d s q % 2 = 1

/-- skipString's rounds: p is where a character begins. -/
structure Reads (d : Nat → Int) (s Q p : Nat) : Prop where
  lo : s < p
  hi : p ≤ Q
  even : run d s p % 2 = 0

theorem reads_start {d : Nat → Int} {n s Q : Nat} (h : FirstQ d n s Q) : Reads d s Q (s + 1) :=
  ⟨by omega, h.lo, by rw [run_at]⟩

theorem reads_end {d : Nat → Int} {n s Q p : Nat} (h : FirstQ d n s Q) (r : Reads d s Q p) (hp : d p = 34) : p = Q := by
  have h1 := r.hi
  have h2 := r.even
  by_cases e : p = Q
  · exact e
  · have := h.first p r.lo (by omega) hp
    omega

theorem reads_lt {d : Nat → Int} {n s Q p : Nat} (h : FirstQ d n s Q) (r : Reads d s Q p) (hp : ¬ d p = 34) : p < Q := by
  have h1 := r.hi
  by_cases e : p = Q
  · subst e; exact absurd h.quote hp
  · omega

theorem reads_plain {d : Nat → Int} {n s Q p : Nat} (h : FirstQ d n s Q) (r : Reads d s Q p) (hp : ¬ d p = 34) (hb : ¬ d p = 92) : Reads d s Q (p + 1) :=
  ⟨by have := r.lo; omega, reads_lt h r hp, by rw [run_other hb]⟩

theorem reads_escaped {d : Nat → Int} {n s Q p : Nat} (h : FirstQ d n s Q) (r : Reads d s Q p) (hb : d p = 92) : Reads d s Q (p + 1 + 1) := by
  have hlt : p < Q := reads_lt h r (by omega)
  have h1 := r.lo
  have h2 := r.even
  have e1 : run d s (p + 1) = run d s p + 1 := run_slash h1 hb
  have h3 : ¬ p + 1 = Q := by
    intro e
    have := h.even
    rw [← e] at this
    omega
  refine ⟨by omega, by omega, ?_⟩
  by_cases hn : d (p + 1) = 92
  · rw [run_slash (by omega) hn]; omega
  · rw [run_other hn]

/-- The same bytes, shifted by m. -/
theorem run_shift {d d' : Nat → Int} {n m s : Nat} (hd : ∀ i, i < n → d' (i + m) = d i) : ∀ p, s < p → p ≤ n → run d' (s + m) (p + m) = run d s p
  | 0, h, _ => by omega
  | p + 1, h, hn => by
    rw [show p + 1 + m = (p + m) + 1 by omega, run, run, hd p (by omega)]
    by_cases e : s < p
    · rw [run_shift hd p e (by omega)]
      by_cases hb : d p = 92
      · rw [if_pos ⟨by omega, hb⟩, if_pos ⟨e, hb⟩]
      · rw [if_neg (fun k => hb k.2), if_neg (fun k => hb k.2)]
    · rw [if_neg (fun k => by have := k.1; omega), if_neg (fun k => e k.1)]

theorem firstQ_shift {d d' : Nat → Int} {n n' m s Q : Nat} (hd : ∀ i, i < n → d' (i + m) = d i) (hn : n + m ≤ n') (h : FirstQ d n s Q) : FirstQ d' n' (s + m) (Q + m) := by
  have h1 := h.lo
  have h2 := h.hi
  refine ⟨by omega, by omega, ?_, ?_, ?_⟩
  · rw [hd Q h2]; exact h.quote
  · rw [run_shift hd Q h1 (by omega)]; exact h.even
  · intro q hq1 hq2 hq
    obtain ⟨r, rfl⟩ : ∃ r, q = r + m := ⟨q - m, by omega⟩
    rw [hd r (by omega)] at hq
    rw [run_shift hd r (by omega) (by omega)]
    exact h.first r (by omega) (by omega) hq

theorem firstQ_cut {d : Nat → Int} {n c s Q : Nat} (h : FirstQ d n s Q) (hc : Q < c) : FirstQ d c s Q :=
  ⟨h.lo, hc, h.quote, h.even, h.first⟩

/-- No quote behind s, before q, stands behind an even run. -/
def NoQ (d : Nat → Int) (s q : Nat) : Prop := ∀ r, s < r → r < q → d r = 34 → run d s r % 2 = 1

theorem noQ_start (d : Nat → Int) (s : Nat) : NoQ d s (s + 1) := fun r h1 h2 _ => by omega
theorem noQ_other {d : Nat → Int} {s q : Nat} (h : NoQ d s q) (hq : ¬ d q = 34) : NoQ d s (q + 1) := fun r h1 h2 h3 => by
  by_cases e : r = q
  · subst e; exact absurd h3 hq
  · exact h r h1 (by omega) h3
theorem noQ_odd {d : Nat → Int} {s q : Nat} (h : NoQ d s q) (hq : run d s q % 2 = 1) : NoQ d s (q + 1) := fun r h1 h2 h3 => by
  by_cases e : r = q
  · subst e; exact hq
  · exact h r h1 (by omega) h3
theorem noQ_first {d : Nat → Int} {n s q : Nat} (h : NoQ d s q) (hs : s < q) (hn : q < n) (hq : d q = 34) (he : run d s q % 2 = 0) : FirstQ d n s q :=
  ⟨hs, hn, hq, he, h⟩

/-- White space, and the bytes at which a scalar stops. -/
def isWS (c : Int) : Bool := c == 32 || c == 9 || c == 10 || c == 13
def isStop (c : Int) : Bool := isWS c || c == 44 || c == 125 || c == 93

end Go.Proofs.Qxb6618116a.Plain
