import Derived.Test.Qxb6618233aWalkV
namespace Go.Proofs.Qxb6618233a
open Go.RowKit

/-- A list at block l whose nodes lie in blocks of which S holds, no two in one. -/
def LB (w : World) (l m : Nat) (v : Nat → Int) (S : Nat → Prop) : Prop :=
  ∃ nb, Lst w l m nb v ∧ (∀ i j, i < j → j < m → nb i ≠ nb j) ∧ ∀ i, i < m → S (nb i)

theorem LB.kept {w w' : World} {l m : Nat} {v : Nat → Int} {S p : Nat → Prop} (h : LB w l m v S) (k : Kept w w' p) (hl : p l) (hS : ∀ j, S j → p j) : LB w' l m v S := by
  obtain ⟨nb, h1, h2, h3⟩ := h
  exact ⟨nb, h1.same (k.heap l hl) (fun i hi => k.heap _ (hS _ (h3 i hi))), h2, h3⟩

theorem LB.below {w w' : World} {l m C : Nat} {v : Nat → Int} {S : Nat → Prop} (h : LB w l m v S) (hb : Below C w w') (hl : l < C) (hS : ∀ j, S j → j < C) : LB w' l m v S := by
  obtain ⟨nb, h1, h2, h3⟩ := h
  exact ⟨nb, h1.below hb hl (fun i hi => hS _ (h3 i hi)), h2, h3⟩

theorem LB.congr {w : World} {l m : Nat} {v v' : Nat → Int} {S : Nat → Prop} (h : LB w l m v S) (hv : ∀ i, i < m → v i = v' i) : LB w l m v' S := by
  obtain ⟨nb, h1, h2, h3⟩ := h
  exact ⟨nb, h1.congr (fun _ _ => rfl) hv, h2, h3⟩

theorem new_LB (a : Option Addr) (n c : Nat) (d : Nat → Int) (w : World) (hs : Seq w.heap.size w a n (U d)) (hn : n ≤ 1048576) :
    Calls Try.prog 12 #[.slice a n c] w fun e w' => e = .returned (.pointer (some ⟨w.heap.size, 0, none⟩)) ∧ LB w' w.heap.size n d (fun j => w.heap.size < j ∧ j < w'.heap.size) ∧ w.heap.size < w'.heap.size ∧ Below w.heap.size w w' := by
  refine (newList_any a n c d w hs hn).mono fun e w' h => ?_
  obtain ⟨h1, h2, h3, h4⟩ := h
  exact ⟨h1, ⟨_, h2, fun i j hi hj => by omega, fun i hi => by show _ < _ ∧ _ < _; omega⟩, by omega, h4⟩

theorem take_LB (l o m m' : Nat) (v v' : Nat → Int) (S S' : Nat → Prop) (w : World) (h : LB w l m v S) (h' : LB w o m' v' S') (hlo : l ≠ o) (hm : m ≤ 1048576) (hm' : m' ≤ 1048576) (hd : ∀ j, S j → S' j → False) :
    Calls Try.prog 13 #[.pointer (some ⟨l, 0, none⟩), .pointer (some ⟨o, 0, none⟩)] w fun e w' => e = .returned (.tuple #[]) ∧ LB w' l (m + m') (catF v v' m) (fun j => S j ∨ S' j) ∧ LB w' o 0 v' (fun _ => False) ∧ Kept w w' (fun j => j ≠ l ∧ j ≠ o ∧ ¬ S j) := by
  obtain ⟨nb, h1, h2, h3⟩ := h
  obtain ⟨nb', g1, g2, g3⟩ := h'
  refine (zzTake_any l o m m' nb nb' v v' w h1 g1 hlo hm hm' (fun i hi => h2 i (m - 1) (by omega) (by omega)) (fun j hj h0 e => hd _ (h3 (m - 1) (by omega)) (by rw [← e]; exact g3 j hj))).mono fun e w' hh => ?_
  obtain ⟨e1, e2, e3, e4⟩ := hh
  refine ⟨e1, ⟨_, e2, ?_, ?_⟩, ⟨nb', e3, fun i j _ hj => by omega, fun i hi => by omega⟩, ⟨fun j hj => e4.heap j ⟨hj.1, hj.2.1, fun h0 e => hj.2.2 (by rw [e]; exact h3 _ (by omega))⟩, e4.os, e4.tape, e4.output, e4.size⟩⟩
  · intro i j hij hj
    by_cases e1 : j < m
    · rw [catF_lo (by omega), catF_lo e1]; exact h2 i j hij e1
    · by_cases e2 : i < m
      · rw [catF_lo e2, catF_hi (by omega)]
        exact fun e => hd _ (h3 i e2) (by rw [e]; exact g3 _ (by omega))
      · rw [catF_hi (by omega), catF_hi (by omega)]
        exact g2 _ _ (by omega) (by omega)
  · intro i hi
    by_cases e1 : i < m
    · rw [catF_lo e1]; exact .inl (h3 i e1)
    · rw [catF_hi (by omega)]; exact .inr (g3 _ (by omega))

theorem reads_LB (l m c : Nat) (a : Option Addr) (v : Nat → Int) (S : Nat → Prop) (w : World) (h : LB w l m v S) (hl : l < w.heap.size) (hS : ∀ j, S j → j < w.heap.size) (hm : m ≤ 1048576) (hs : Seq w.heap.size w a m (U v)) :
    Calls Try.prog 14 #[.pointer (some ⟨l, 0, none⟩), .slice a m c] w fun e w' => e = .returned (.bool true) ∧ Below w.heap.size w w' := by
  obtain ⟨nb, h1, h2, h3⟩ := h
  exact listReads_any l m c a nb v w h1 hl (fun i hi => hS _ (h3 i hi)) hm hs

theorem cat3_left (d0 d1 d2 : Nat → Int) (n0 n1 i : Nat) : catF (catF d0 d1 n0) d2 (n0 + n1) i = cat3 d0 d1 d2 n0 n1 i := by
  unfold catF cat3
  by_cases h1 : i < n0
  · simp [h1]; omega
  · by_cases h2 : i < n0 + n1 <;> simp [h1, h2]

theorem cat3_right (d0 d1 d2 : Nat → Int) (n0 n1 i : Nat) : catF d0 (catF d1 d2 n1) n0 i = cat3 d0 d1 d2 n0 n1 i := by
  unfold catF cat3
  by_cases h1 : i < n0
  · simp [h1]
  · by_cases h2 : i < n0 + n1
    · have h3 : i - n0 < n1 := by omega
      simp [h1, h2, h3]
    · have h3 : ¬ i - n0 < n1 := by omega
      simp [h1, h2, h3, Nat.sub_sub]

end Go.Proofs.Qxb6618233a
