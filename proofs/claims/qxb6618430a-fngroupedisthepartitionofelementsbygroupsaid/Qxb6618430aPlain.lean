/-
  PLAIN LAWS OF SEAT b6618430a: groups as lists. No Go in sight.
-/
namespace Go.Proofs.Qxb6618430a.Plain

/-- How many of the first k elements are in group m. -/
def cnt (gr : Nat → Int) (m : Nat) : Nat → Nat
  | 0 => 0
  | k + 1 => cnt gr m k + (if gr k = (m : Int) then 1 else 0)

/-- The members of group m among the first k elements. -/
def mem (gr el : Nat → Int) (m : Nat) : Nat → List Int
  | 0 => []
  | k + 1 => if gr k = (m : Int) then mem gr el m k ++ [el k] else mem gr el m k

theorem cnt_yes {gr : Nat → Int} {m k : Nat} (h : gr k = (m : Int)) : cnt gr m (k + 1) = cnt gr m k + 1 := by rw [cnt, if_pos h]
theorem cnt_no {gr : Nat → Int} {m k : Nat} (h : ¬ gr k = (m : Int)) : cnt gr m (k + 1) = cnt gr m k := by rw [cnt, if_neg h, Nat.add_zero]
theorem mem_yes {gr el : Nat → Int} {m k : Nat} (h : gr k = (m : Int)) : mem gr el m (k + 1) = mem gr el m k ++ [el k] := by rw [mem, if_pos h]
theorem mem_no {gr el : Nat → Int} {m k : Nat} (h : ¬ gr k = (m : Int)) : mem gr el m (k + 1) = mem gr el m k := by rw [mem, if_neg h]

theorem cnt_le (gr : Nat → Int) (m : Nat) : ∀ k, cnt gr m k ≤ k
  | 0 => Nat.le_refl _
  | k + 1 => by
    have := cnt_le gr m k
    rw [cnt]
    split <;> omega

theorem mem_length (gr el : Nat → Int) (m : Nat) : ∀ k, (mem gr el m k).length = cnt gr m k
  | 0 => rfl
  | k + 1 => by
    have ih := mem_length gr el m k
    by_cases h : gr k = (m : Int)
    · rw [mem_yes h, cnt_yes h, List.length_append, ih]; rfl
    · rw [mem_no h, cnt_no h, ih]

theorem cnt_mono (gr : Nat → Int) (m j : Nat) : ∀ k, j ≤ k → cnt gr m j ≤ cnt gr m k
  | 0, h => by rw [Nat.le_zero.1 h]; exact Nat.le_refl _
  | k + 1, h => by
    by_cases e : j = k + 1
    · rw [e]; exact Nat.le_refl _
    · have := cnt_mono gr m j k (by omega)
      rw [cnt]; omega

/-- The k-th element stands at its own place in its group. -/
theorem mem_at (gr el : Nat → Int) {m j : Nat} (hj : gr j = (m : Int)) : ∀ k, j < k → cnt gr m j < cnt gr m k ∧ (mem gr el m k).getD (cnt gr m j) 0 = el j
  | 0, h => by omega
  | k + 1, h => by
    by_cases e : j = k
    · subst e
      rw [cnt_yes hj, mem_yes hj]
      refine ⟨by omega, ?_⟩
      rw [← mem_length gr el m j]
      simp [List.getD]
    · obtain ⟨h1, h2⟩ := mem_at gr el hj k (by omega)
      by_cases hk : gr k = (m : Int)
      · rw [cnt_yes hk, mem_yes hk]
        refine ⟨by omega, ?_⟩
        rw [← h2]
        have hl : cnt gr m j < (mem gr el m k).length := by rw [mem_length]; exact h1
        simp [List.getD, List.getElem?_append_left hl]
      · rw [cnt_no hk, mem_no hk]
        exact ⟨h1, h2⟩

/-- The value that is asked about: that of the group's first element; the empty one where it has none. -/
def val {α : Type} (z : α) (gr el : Nat → Int) (vs : Nat → α) (m : Nat) : Nat → α
  | 0 => z
  | k + 1 => if gr k = (m : Int) ∧ cnt gr m k = 0 then vs (el k).toNat else val z gr el vs m k

theorem val_none {α : Type} (z : α) (gr el : Nat → Int) (vs : Nat → α) (m : Nat) : ∀ k, cnt gr m k = 0 → val z gr el vs m k = z
  | 0, _ => rfl
  | k + 1, h => by
    have h1 : ¬ gr k = (m : Int) := fun e => by rw [cnt_yes e] at h; omega
    rw [cnt_no h1] at h
    rw [val, if_neg (fun e => h1 e.1)]
    exact val_none z gr el vs m k h

theorem val_first {α : Type} (z : α) (gr el : Nat → Int) (vs : Nat → α) {m j : Nat} (hj : gr j = (m : Int)) (h0 : cnt gr m j = 0) : ∀ k, j < k → val z gr el vs m k = vs (el j).toNat
  | 0, h => by omega
  | k + 1, h => by
    by_cases e : j = k
    · subst e
      rw [val, if_pos ⟨hj, h0⟩]
    · have h1 := cnt_mono gr m (j + 1) k (by omega)
      rw [cnt_yes hj] at h1
      rw [val, if_neg (fun e => by have := e.2; omega)]
      exact val_first z gr el vs hj h0 k (by omega)

/-- Is place i one of the elements? -/
def has (el : Nat → Int) (i : Nat) : Nat → Bool
  | 0 => false
  | k + 1 => el k == (i : Int) || has el i k

theorem has_iff (el : Nat → Int) (i : Nat) : ∀ k, has el i k = true ↔ ∃ j, j < k ∧ el j = (i : Int)
  | 0 => by simp [has]
  | k + 1 => by
    rw [has, Bool.or_eq_true, has_iff el i k]
    constructor
    · rintro (h | ⟨j, h1, h2⟩)
      · exact ⟨k, by omega, by simpa using h⟩
      · exact ⟨j, by omega, h2⟩
    · rintro ⟨j, h1, h2⟩
      by_cases e : j = k
      · subst e; left; simpa using h2
      · exact .inr ⟨j, by omega, h2⟩

/-- The places before i that are no elements. -/
def oth (el : Nat → Int) (ne : Nat) : Nat → List Int
  | 0 => []
  | i + 1 => if has el i ne = true then oth el ne i else oth el ne i ++ [(i : Int)]

theorem oth_yes {el : Nat → Int} {ne i : Nat} (h : has el i ne = true) : oth el ne (i + 1) = oth el ne i := by rw [oth, if_pos h]
theorem oth_no {el : Nat → Int} {ne i : Nat} (h : has el i ne = false) : oth el ne (i + 1) = oth el ne i ++ [(i : Int)] := by rw [oth, if_neg (by simp [h])]
theorem oth_le (el : Nat → Int) (ne : Nat) : ∀ i, (oth el ne i).length ≤ i
  | 0 => Nat.le_refl _
  | i + 1 => by
    have := oth_le el ne i
    rw [oth]
    split
    · omega
    · simp; omega

/-- A place that is no element stands in the list at the number of such places before it. -/
theorem oth_at {el : Nat → Int} {ne i : Nat} (h : has el i ne = false) : ∀ n, i < n → (oth el ne i).length < (oth el ne n).length ∧ (oth el ne n).getD (oth el ne i).length 0 = (i : Int)
  | 0, hn => by omega
  | n + 1, hn => by
    by_cases e : i = n
    · subst e
      rw [oth_no h]
      simp [List.getD]
    · obtain ⟨h1, h2⟩ := oth_at h n (by omega)
      cases hh : has el n ne
      · rw [oth_no hh]
        refine ⟨by simp; omega, ?_⟩
        rw [← h2]
        simp [List.getD, List.getElem?_append_left h1]
      · rw [oth_yes hh]
        exact ⟨h1, h2⟩

/-- Strictly rising places: with p of them passed and the next at least i, place i is an element just where it is the next. -/
structure Rest (el : Nat → Int) (ne p i : Nat) : Prop where
  hi : p ≤ ne
  before : ∀ j, j < p → el j < (i : Int)
  after : ∀ j, p ≤ j → j < ne → (i : Int) ≤ el j

theorem rest_has {el : Nat → Int} {ne p i : Nat} (hp : p < ne) (h : el p = (i : Int)) : has el i ne = true := (has_iff el i ne).2 ⟨p, hp, h⟩

theorem rest_no {el : Nat → Int} {ne p i : Nat} (hs : ∀ j, j + 1 < ne → el j < el (j + 1)) (r : Rest el ne p i) (h : p < ne → ¬ el p = (i : Int)) : has el i ne = false := by
  rcases hb : has el i ne with _ | _
  · rfl
  · obtain ⟨j, h1, h2⟩ := (has_iff el i ne).1 hb
    rcases Nat.lt_trichotomy j p with e | e | e
    · have := r.before j e; omega
    · subst e; exact absurd h2 (h h1)
    · have hp : p < ne := by omega
      have h3 := r.after p (Nat.le_refl _) hp
      have h4 : el p < el j := by
        have : ∀ d, p + d + 1 < ne → el p < el (p + d + 1) := by
          intro d
          induction d with
          | zero => intro hd; exact hs p hd
          | succ d ih =>
            intro hd
            have h5 := ih (by omega)
            have h6 := hs (p + d + 1) (by omega)
            rw [show p + (d + 1) + 1 = p + d + 1 + 1 by omega]
            omega
        have := this (j - p - 1) (by omega)
        rw [show p + (j - p - 1) + 1 = j by omega] at this
        exact this
      omega

theorem rest_next {el : Nat → Int} {ne p i : Nat} (hs : ∀ j, j + 1 < ne → el j < el (j + 1)) (r : Rest el ne p i) (hp : p < ne) (h : el p = (i : Int)) : Rest el ne (p + 1) (i + 1) := by
  refine ⟨hp, fun j hj => ?_, fun j h1 h2 => ?_⟩
  · by_cases e : j = p
    · subst e; omega
    · have := r.before j (by omega); omega
  · have h3 := hs (j - 1) (by omega)
    rw [show j - 1 + 1 = j by omega] at h3
    have h4 := r.after (j - 1) (by omega) (by omega)
    omega

theorem rest_skip {el : Nat → Int} {ne p i : Nat} (hs : ∀ j, j + 1 < ne → el j < el (j + 1)) (r : Rest el ne p i) (h : p < ne → ¬ el p = (i : Int)) : Rest el ne p (i + 1) := by
  refine ⟨r.hi, fun j hj => by have := r.before j hj; omega, fun j h1 h2 => ?_⟩
  have h3 := r.after j h1 h2
  by_cases e : j = p
  · subst e
    have := h h2
    omega
  · have h4 := hs (j - 1) (by omega)
    rw [show j - 1 + 1 = j by omega] at h4
    have h5 := r.after (j - 1) (by omega) (by omega)
    omega

theorem rest_start (el : Nat → Int) (ne : Nat) (h : ∀ j, j < ne → 0 ≤ el j) : Rest el ne 0 0 := ⟨Nat.zero_le _, fun j hj => by omega, fun j _ hj => h j hj⟩

end Go.Proofs.Qxb6618430a.Plain
