/-
  PLAIN LAWS OF SEAT b6618233a: member sets as 'd : Nat → Bool' with a length. No Go in sight.
-/
namespace Go.Proofs.Qxb6618233a.Plain

/-- How many of the first n are set. -/
def cnt (d : Nat → Bool) : Nat → Nat
  | 0 => 0
  | n + 1 => cnt d n + (if d n = true then 1 else 0)

theorem cnt_le (d : Nat → Bool) : ∀ n, cnt d n ≤ n
  | 0 => Nat.le_refl _
  | n + 1 => by
    unfold cnt
    have := cnt_le d n
    split <;> omega

theorem cnt_mono (d : Nat → Bool) (j : Nat) : ∀ n, j ≤ n → cnt d j ≤ cnt d n
  | 0, h => by rw [Nat.le_zero.1 h]; exact Nat.le_refl _
  | n + 1, h => by
    by_cases e : j = n + 1
    · rw [e]; exact Nat.le_refl _
    · have := cnt_mono d j n (by omega)
      rw [cnt]
      omega

/-- L is the least member, or n where there is none. -/
structure IsLow (d : Nat → Bool) (n L : Nat) : Prop where
  hi : L ≤ n
  before : ∀ i, i < L → d i = false
  here : L < n → d L = true

theorem isLow_unique {d : Nat → Bool} {n L M : Nat} (h : IsLow d n L) (k : IsLow d n M) : L = M := by
  have h1 := h.hi
  have k1 := k.hi
  rcases Nat.lt_trichotomy L M with e | e | e
  · have := k.before L e
    rw [h.here (by omega)] at this
    simp at this
  · exact e
  · have := h.before M e
    rw [k.here (by omega)] at this
    simp at this

theorem low_ex (d : Nat → Bool) : ∀ n, ∃ L, IsLow d n L
  | 0 => ⟨0, Nat.le_refl _, fun i h => by omega, fun h => by omega⟩
  | n + 1 => by
    obtain ⟨L, h⟩ := low_ex d n
    have h1 := h.hi
    by_cases e : L < n
    · exact ⟨L, by omega, h.before, fun _ => h.here e⟩
    · have hL : L = n := by omega
      subst hL
      cases hd : d L
      · exact ⟨L + 1, Nat.le_refl _, fun i hi => (by
          by_cases e : i = L
          · rw [e]; exact hd
          · exact h.before i (by omega)), fun h => by omega⟩
      · exact ⟨L, by omega, h.before, fun _ => hd⟩

/-- What outweighs answers, out of the two counts and the two least members. -/
def ow (cA lA cB lB : Nat) : Bool := decide (cB < cA) || (decide (cA = cB) && decide (lA < lB))

/-! ### A split -/
theorem cnt_not (s t : Nat → Bool) (n : Nat) (ht : ∀ i, i < n → t i = !s i) : ∀ k, k ≤ n → cnt s k + cnt t k = k
  | 0, _ => rfl
  | k + 1, h => by
    have ih := cnt_not s t n ht k (by omega)
    rw [cnt, cnt, ht k (by omega)]
    cases s k <;> simp <;> omega

theorem split_zero {s t : Nat → Bool} {ls lt : Nat} (hs : IsLow s 0 ls) (ht : IsLow t 0 lt) : ow (cnt s 0) ls (cnt t 0) lt = false ∧ ow (cnt t 0) lt (cnt s 0) ls = false := by
  have h1 := hs.hi
  have h2 := ht.hi
  have e1 : ls = 0 := by omega
  have e2 : lt = 0 := by omega
  subst e1; subst e2
  simp [ow, cnt]

/-- Who prevails. -/
def want (s : Nat → Bool) (n : Nat) : Bool := decide (n < 2 * cnt s n) || (decide (2 * cnt s n = n) && s 0)

theorem split {s t : Nat → Bool} {n ls lt : Nat} (hn : 0 < n) (h : ∀ i, i < n → t i = !s i) (hs : IsLow s n ls) (ht : IsLow t n lt) :
    ow (cnt s n) ls (cnt t n) lt = want s n ∧ ow (cnt t n) lt (cnt s n) ls = !want s n := by
  have hc := cnt_not s t n h n (Nat.le_refl _)
  have h0 := h 0 hn
  unfold ow want
  cases e : s 0
  · have hl : lt = 0 := by
      rcases Nat.eq_zero_or_pos lt with k | k
      · exact k
      · have := ht.before 0 k
        rw [h0, e] at this
        simp at this
    have hl' : 0 < ls := by
      rcases Nat.eq_zero_or_pos ls with k | k
      · have := hs.here (by omega)
        rw [k, e] at this
        simp at this
      · exact k
    subst hl
    constructor
    · by_cases k1 : cnt t n < cnt s n <;> simp [k1] <;> omega
    · by_cases k1 : cnt s n < cnt t n <;> by_cases k2 : cnt t n = cnt s n <;> simp [k1, k2, hl'] <;> omega
  · have hl : ls = 0 := by
      rcases Nat.eq_zero_or_pos ls with k | k
      · exact k
      · have := hs.before 0 k
        rw [e] at this
        simp at this
    have hl' : 0 < lt := by
      rcases Nat.eq_zero_or_pos lt with k | k
      · have := ht.here (by omega)
        rw [k, h0, e] at this
        simp at this
      · exact k
    subst hl
    constructor
    · by_cases k1 : cnt t n < cnt s n <;> by_cases k2 : cnt s n = cnt t n <;> simp [k1, k2, hl'] <;> omega
    · by_cases k1 : cnt s n < cnt t n <;> simp [k1] <;> omega

/-! ### One member more -/
theorem cnt_same {a b : Nat → Bool} : ∀ n, (∀ i, i < n → a i = b i) → cnt a n = cnt b n
  | 0, _ => rfl
  | n + 1, h => by rw [cnt, cnt, cnt_same n (fun i hi => h i (by omega)), h n (by omega)]

theorem cnt_more {a a2 : Nat → Bool} {k : Nat} (hk : a2 k = true) (hd : a k = false) (ho : ∀ i, i ≠ k → a2 i = a i) : ∀ n, k < n → cnt a2 n = cnt a n + 1
  | 0, h => by omega
  | n + 1, h => by
    rw [cnt, cnt]
    by_cases e : n = k
    · subst e
      rw [hk, hd, cnt_same (a := a2) (b := a) n (fun i hi => ho i (by omega))]
      simp
    · rw [cnt_more hk hd ho n (by omega), ho n e]
      omega

theorem isLow_same {a a2 : Nat → Bool} {n L M : Nat} (h : ∀ i, a2 i = a i) (hL : IsLow a n L) (hM : IsLow a2 n M) : M = L :=
  isLow_unique hM ⟨hL.hi, fun i hi => by rw [h]; exact hL.before i hi, fun hi => by rw [h]; exact hL.here hi⟩

theorem more_laws {a a2 : Nat → Bool} {k n : Nat} (hk : k < n) (h2 : ∀ i, a2 i = if i = k then true else a i) {la l2 cb lb : Nat} (hla : IsLow a n la) (hl2 : IsLow a2 n l2) :
    ow (cnt a2 n) l2 (cnt a n) la = (!a k) ∧ ow (cnt a n) la (cnt a2 n) l2 = false ∧ (ow (cnt a n) la cb lb = true → ow (cnt a2 n) l2 cb lb = true) ∧ (ow cb lb (cnt a2 n) l2 = true → ow cb lb (cnt a n) la = true) := by
  cases e : a k
  · have hc := cnt_more (a := a) (a2 := a2) (k := k) (by rw [h2, if_pos rfl]) e (fun i hi => by rw [h2, if_neg hi]) n hk
    unfold ow
    rw [hc]
    refine ⟨by simp, by simp, ?_, ?_⟩
    · simp; omega
    · simp; omega
  · have hs : ∀ i, a2 i = a i := fun i => by
      rw [h2]
      split
      · rename_i h; rw [h, e]
      · rfl
    have hl := isLow_same hs hla hl2
    have hc := cnt_same (a := a2) (b := a) n (fun i _ => hs i)
    rw [hl, hc]
    refine ⟨by simp [ow], by simp [ow], fun h => h, fun h => h⟩

end Go.Proofs.Qxb6618233a.Plain
