/-
  PLAIN LAWS OF SEAT b6618116a, MORE: scalars and white space. No Go in sight.
-/
import Derived.Test.Qxb6618116aPlain
namespace Go.Proofs.Qxb6618116a.Plain

/-- E is the least place from s on that is n or holds a stop byte. -/
structure FirstStop (d : Nat → Int) (n s E : Nat) : Prop where
  lo : s ≤ E
  hi : E ≤ n
  before : ∀ i, s ≤ i → i < E → isStop (d i) = false
  stop : E < n → isStop (d E) = true

theorem firstStop_shift {d d' : Nat → Int} {n m s E : Nat} (hd : ∀ i, i < n → d' (i + m) = d i) (h : FirstStop d n s E) : FirstStop d' (n + m) (s + m) (E + m) := by
  have h1 := h.lo
  have h2 := h.hi
  refine ⟨by omega, by omega, ?_, ?_⟩
  · intro i hi1 hi2
    obtain ⟨r, rfl⟩ : ∃ r, i = r + m := ⟨i - m, by omega⟩
    rw [hd r (by omega)]
    exact h.before r (by omega) (by omega)
  · intro hE
    rw [hd E (by omega)]
    exact h.stop (by omega)

theorem firstStop_long {d : Nat → Int} {n c s E : Nat} (h : FirstStop d n s E) (hc : E ≤ c) (hn : c ≤ n) : FirstStop d c s E :=
  ⟨h.lo, hc, h.before, fun hE => h.stop (by omega)⟩

theorem firstStop_cut {d : Nat → Int} {n c s E : Nat} (h : FirstStop d n s E) (hs : s ≤ c) (hc : c ≤ E) : FirstStop d c s c :=
  ⟨hs, Nat.le_refl _, fun i h1 h2 => h.before i h1 (by omega), fun hE => by omega⟩

theorem stop_parts {c : Int} (h : isStop c = false) : isWS c = false ∧ (c == 44) = false ∧ (c == 125) = false ∧ (c == 93) = false := by
  unfold isStop at h
  simp only [Bool.or_eq_false_iff] at h
  exact ⟨h.1.1.1, h.1.1.2, h.1.2, h.2⟩

/-- E is the least place from s on that is n or holds no white space. -/
structure FirstTok (d : Nat → Int) (n s E : Nat) : Prop where
  lo : s ≤ E
  hi : E ≤ n
  before : ∀ i, s ≤ i → i < E → isWS (d i) = true
  stop : E < n → isWS (d E) = false

theorem firstTok_shift {d d' : Nat → Int} {n n' m s E : Nat} (hd : ∀ i, i < n → d' (i + m) = d i) (hn : n' = n + m) (h : FirstTok d n s E) : FirstTok d' n' (s + m) (E + m) := by
  subst hn
  have h1 := h.lo
  have h2 := h.hi
  refine ⟨by omega, by omega, ?_, ?_⟩
  · intro i hi1 hi2
    obtain ⟨r, rfl⟩ : ∃ r, i = r + m := ⟨i - m, by omega⟩
    rw [hd r (by omega)]
    exact h.before r (by omega) (by omega)
  · intro hE
    rw [hd E (by omega)]
    exact h.stop (by omega)

/-- White space put in at x, between s and the token. -/
theorem firstTok_spaced {d v d' : Nat → Int} {n m s E x : Nat} (h0 : ∀ i, i < x → d' i = d i) (h1 : ∀ i, i < m → d' (x + i) = v i) (h2 : ∀ i, x ≤ i → i < n → d' (i + m) = d i)
    (hv : ∀ i, i < m → isWS (v i) = true) (hs : s ≤ x) (hx : x ≤ E) (h : FirstTok d n s E) : FirstTok d' (n + m) s (E + m) := by
  have k1 := h.lo
  have k2 := h.hi
  refine ⟨by omega, by omega, ?_, ?_⟩
  · intro i hi1 hi2
    by_cases e1 : i < x
    · rw [h0 i e1]; exact h.before i hi1 (by omega)
    · by_cases e2 : i < x + m
      · obtain ⟨r, rfl⟩ : ∃ r, i = x + r := ⟨i - x, by omega⟩
        rw [h1 r (by omega)]; exact hv r (by omega)
      · obtain ⟨r, rfl⟩ : ∃ r, i = r + m := ⟨i - m, by omega⟩
        rw [h2 r (by omega) (by omega)]; exact h.before r (by omega) (by omega)
  · intro hE
    rw [h2 E hx (by omega)]
    exact h.stop (by omega)

end Go.Proofs.Qxb6618116a.Plain
