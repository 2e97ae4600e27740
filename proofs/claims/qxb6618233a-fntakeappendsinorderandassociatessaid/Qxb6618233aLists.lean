/-
  LINKED LISTS OF THE CALL's OWN, AS CELLS: a header block of three cells (first, last, count) and a block of twelve cells for each node (its number in cell 3, its next in cell 6). No program of its own.
-/
import Derived.Test.Qxb6618233aKit
namespace Go.Proofs.Qxb6618233a
open Go.RowKit

/-- A pointer to the head of block b, or nil. -/
def ptr (c : Prop) [Decidable c] (b : Nat) : Value := .pointer (if c then some ⟨b, 0, none⟩ else none)
theorem ptr_yes {c : Prop} [Decidable c] (h : c) (b : Nat) : ptr c b = .pointer (some ⟨b, 0, none⟩) := by rw [ptr, if_pos h]
theorem ptr_no {c : Prop} [Decidable c] (h : ¬ c) (b : Nat) : ptr c b = .pointer none := by rw [ptr, if_neg h]

/-- The list at block l: m nodes, node i at block nb i, holding v i. -/
structure Lst (w : World) (l m : Nat) (nb : Nat → Nat) (v : Nat → Int) : Prop where
  first : w.cell? ⟨l, 0, none⟩ = some (ptr (0 < m) (nb 0))
  last : w.cell? ⟨l, 1, none⟩ = some (ptr (0 < m) (nb (m - 1)))
  count : w.cell? ⟨l, 2, none⟩ = some (.int .i64 m)
  free : ∀ o, w.frozen? ⟨l, o, none⟩ = false
  num : ∀ i, i < m → w.cell? ⟨nb i, 3, none⟩ = some (.int .u64 (v i))
  next : ∀ i, i < m → w.cell? ⟨nb i, 6, none⟩ = some (ptr (i + 1 < m) (nb (i + 1)))
  nfree : ∀ i, i < m → w.frozen? ⟨nb i, 6, none⟩ = false

theorem cell_set {w : World} {a : Addr} (h : ∃ u, w.cell? a = some u) (v : Value) (b : Addr) : (w.setCell a v).cell? b = if b = a then some v else w.cell? b := by
  obtain ⟨u, hu⟩ := h
  by_cases e : b = a
  · rw [if_pos e, e]
    exact World.cell?_setCell_same' _ _ _ (by simp [hu])
  · rw [if_neg e]
    exact World.cell?_setCell_other _ _ _ _ (fun k => e k.symm)

theorem Lst.same {w w' : World} {l m : Nat} {nb : Nat → Nat} {v : Nat → Int} (h : Lst w l m nb v) (hl : w'.heap[l]? = w.heap[l]?) (hn : ∀ i, i < m → w'.heap[nb i]? = w.heap[nb i]?) : Lst w' l m nb v := by
  have cl : ∀ o, w'.cell? ⟨l, o, none⟩ = w.cell? ⟨l, o, none⟩ := fun o => World.cell?_of_block (w := w) (a := ⟨l, o, none⟩) hl
  have cn : ∀ i, i < m → ∀ o, w'.cell? ⟨nb i, o, none⟩ = w.cell? ⟨nb i, o, none⟩ := fun i hi o => World.cell?_of_block (w := w) (a := ⟨nb i, o, none⟩) (hn i hi)
  exact ⟨(cl 0).trans h.first, (cl 1).trans h.last, (cl 2).trans h.count, fun o => (World.frozen?_of_block (w := w) (a := ⟨l, o, none⟩) hl).trans (h.free o),
    fun i hi => (cn i hi 3).trans (h.num i hi), fun i hi => (cn i hi 6).trans (h.next i hi), fun i hi => (World.frozen?_of_block (w := w) (a := ⟨nb i, 6, none⟩) (hn i hi)).trans (h.nfree i hi)⟩

theorem Lst.below {C : Nat} {w w' : World} {l m : Nat} {nb : Nat → Nat} {v : Nat → Int} (h : Lst w l m nb v) (hb : Below C w w') (hl : l < C) (hn : ∀ i, i < m → nb i < C) : Lst w' l m nb v :=
  h.same (hb.block l hl) (fun i hi => hb.block (nb i) (hn i hi))

theorem Lst.drawn {w : World} {l m : Nat} {nb : Nat → Nat} {v : Nat → Int} (h : Lst w l m nb v) (q : Nat) : Lst (w.drewN q) l m nb v := h.same rfl (fun _ _ => rfl)

theorem Lst.congr {w : World} {l m : Nat} {nb nb' : Nat → Nat} {v v' : Nat → Int} (h : Lst w l m nb v) (hn : ∀ i, i < m → nb i = nb' i) (hv : ∀ i, i < m → v i = v' i) : Lst w l m nb' v' := by
  refine ⟨?_, ?_, h.count, h.free, ?_, ?_, ?_⟩
  · rw [h.first]
    by_cases hm : 0 < m
    · rw [ptr_yes hm, ptr_yes hm, hn 0 hm]
    · rw [ptr_no hm, ptr_no hm]
  · rw [h.last]
    by_cases hm : 0 < m
    · rw [ptr_yes hm, ptr_yes hm, hn (m - 1) (by omega)]
    · rw [ptr_no hm, ptr_no hm]
  · intro i hi
    rw [← hn i hi, h.num i hi, hv i hi]
  · intro i hi
    rw [← hn i hi, h.next i hi]
    by_cases hm : i + 1 < m
    · rw [ptr_yes hm, ptr_yes hm, hn (i + 1) hm]
    · rw [ptr_no hm, ptr_no hm]
  · intro i hi
    rw [← hn i hi]; exact h.nfree i hi

theorem cell_ex {w : World} {b : Addr} (h : ∃ u, w.cell? b = some u) (a : Addr) (v : Value) : ∃ u, (w.setCell a v).cell? b = some u := by
  obtain ⟨u, hu⟩ := h
  by_cases e : b = a
  · subst e
    exact ⟨v, World.cell?_setCell_same' _ _ _ (by simp [hu])⟩
  · exact ⟨u, (World.cell?_setCell_other _ _ _ _ (fun k => e k.symm)).trans hu⟩

theorem cells3 {w : World} {a1 a2 a3 : Addr} (h1 : ∃ u, w.cell? a1 = some u) (h2 : ∃ u, w.cell? a2 = some u) (h3 : ∃ u, w.cell? a3 = some u) (v1 v2 v3 : Value) (b : Addr) :
    (((w.setCell a1 v1).setCell a2 v2).setCell a3 v3).cell? b = if b = a3 then some v3 else if b = a2 then some v2 else if b = a1 then some v1 else w.cell? b := by
  rw [cell_set (cell_ex (cell_ex h3 _ _) _ _), cell_set (cell_ex h2 _ _), cell_set h1]

/-! ### one node more -/
/-- The first node, in block g. -/
theorem lst_first {w : World} {l g : Nat} {nb : Nat → Nat} {v : Nat → Int} (h : Lst w l 0 nb v) (hg : nb 0 = g) (h3 : w.cell? ⟨g, 3, none⟩ = some (.int .u64 (v 0))) (h6 : w.cell? ⟨g, 6, none⟩ = some (.pointer none)) (hf : w.frozen? ⟨g, 6, none⟩ = false) (z : Int) (hz : z = 1) :
    Lst (((w.setCell ⟨l, 0, none⟩ (.pointer (some ⟨g, 0, none⟩))).setCell ⟨l, 1, none⟩ (.pointer (some ⟨g, 0, none⟩))).setCell ⟨l, 2, none⟩ (.int .i64 z)) l 1 nb v := by
  subst hz
  have C := cells3 (w := w) ⟨_, h.first⟩ ⟨_, h.last⟩ ⟨_, h.count⟩ (.pointer (some ⟨g, 0, none⟩)) (.pointer (some ⟨g, 0, none⟩)) (.int .i64 1)
  refine ⟨?_, ?_, ?_, ?_, ?_, ?_, ?_⟩
  · rw [C]; simp [ptr, hg]
  · rw [C]; simp [ptr, hg]
  · rw [C]; simp
  · intro o; simpa using h.free o
  · intro i hi
    obtain rfl : i = 0 := by omega
    rw [C, hg]; simp [h3]
  · intro i hi
    obtain rfl : i = 0 := by omega
    rw [C, hg]; simp [h6, ptr]
  · intro i hi
    obtain rfl : i = 0 := by omega
    rw [hg]; simpa using hf

/-- A node behind the last, in block g. -/
theorem lst_more {w : World} {l g m k : Nat} {nb : Nat → Nat} {v : Nat → Int} (h : Lst w l (m + 1) nb v) (hg : nb (m + 1) = g) (hk : nb m = k) (hgn : nb m ≠ g) (hinj : ∀ i, i < m → nb i ≠ nb m)
    (h3 : w.cell? ⟨g, 3, none⟩ = some (.int .u64 (v (m + 1)))) (h6 : w.cell? ⟨g, 6, none⟩ = some (.pointer none)) (hf : w.frozen? ⟨g, 6, none⟩ = false) (z : Int) (hz : z = (m : Int) + 1 + 1) :
    Lst (((w.setCell ⟨k, 6, none⟩ (.pointer (some ⟨g, 0, none⟩))).setCell ⟨l, 1, none⟩ (.pointer (some ⟨g, 0, none⟩))).setCell ⟨l, 2, none⟩ (.int .i64 z)) l (m + 1 + 1) nb v := by
  subst hz; subst hk
  have C := cells3 (w := w) ⟨_, h.next m (by omega)⟩ ⟨_, h.last⟩ ⟨_, h.count⟩ (.pointer (some ⟨g, 0, none⟩)) (.pointer (some ⟨g, 0, none⟩)) (.int .i64 ((m : Int) + 1 + 1))
  refine ⟨?_, ?_, ?_, ?_, ?_, ?_, ?_⟩
  · rw [C, if_neg (by simp), if_neg (by simp), if_neg (by simp), h.first, ptr_yes (by omega), ptr_yes (by omega)]
  · rw [C, if_neg (by simp), if_pos rfl, ptr_yes (by omega), show m + 1 + 1 - 1 = m + 1 by omega, hg]
  · rw [C, if_pos rfl]; simp
  · intro o; simpa using h.free o
  · intro i hi
    rw [C, if_neg (by simp), if_neg (by simp), if_neg (by simp)]
    by_cases e : i = m + 1
    · subst e; rw [hg]; exact h3
    · exact h.num i (by omega)
  · intro i hi
    by_cases e : i = m + 1
    · subst e
      rw [hg, C, if_neg (by simp), if_neg (by simp), if_neg (fun e => hgn (congrArg Addr.block e).symm), ptr_no (by omega)]
      exact h6
    · by_cases e' : i = m
      · subst e'
        rw [C, if_neg (by simp), if_neg (by simp), if_pos rfl, ptr_yes (by omega), hg]
      · rw [C, if_neg (by simp), if_neg (by simp), if_neg (by simp; exact hinj i (by omega)), h.next i (by omega), ptr_yes (by omega), ptr_yes (by omega)]
  · intro i hi
    by_cases e : i = m + 1
    · subst e; rw [hg]; simpa using hf
    · simpa using h.nfree i (by omega)

end Go.Proofs.Qxb6618233a
