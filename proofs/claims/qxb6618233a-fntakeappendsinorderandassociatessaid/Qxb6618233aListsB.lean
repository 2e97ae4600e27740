/-
  ONE LIST TAKEN TO THE END OF ANOTHER, AS CELLS.
-/
import Derived.Test.Qxb6618233aLists
namespace Go.Proofs.Qxb6618233a
open Go.RowKit

/-- What take writes: cell a (the first list's head, or its last node's next), then that list's last and count, then the other's three cells. -/
structure Six (w w' : World) (a : Addr) (g k : Nat) (z : Int) (l o : Nat) : Prop where
  cell : ∀ b, w'.cell? b = if b = ⟨o, 2, none⟩ then some (.int .i64 0) else if b = ⟨o, 1, none⟩ then some (.pointer none) else if b = ⟨o, 0, none⟩ then some (.pointer none) else
    if b = ⟨l, 2, none⟩ then some (.int .i64 z) else if b = ⟨l, 1, none⟩ then some (.pointer (some ⟨k, 0, none⟩)) else if b = a then some (.pointer (some ⟨g, 0, none⟩)) else w.cell? b
  frozen : ∀ b, w'.frozen? b = w.frozen? b
  heap : ∀ j, j ≠ l → j ≠ o → j ≠ a.block → w'.heap[j]? = w.heap[j]?
  os : w'.os = w.os
  tape : w'.tape = w.tape
  output : w'.output = w.output
  size : w'.heap.size = w.heap.size

theorem Six.drawn {w w' : World} {a : Addr} {g k : Nat} {z : Int} {l o : Nat} (h : Six w w' a g k z l o) (q : Nat) : Six w (w'.drewN q) a g k z l o := ⟨h.cell, h.frozen, h.heap, h.os, h.tape, h.output, h.size⟩
theorem Six.drawn1 {w w' : World} {a : Addr} {g k : Nat} {z : Int} {l o : Nat} (h : Six w w' a g k z l o) : Six w w'.drew a g k z l o := ⟨h.cell, h.frozen, h.heap, h.os, h.tape, h.output, h.size⟩

/-- One cell written. -/
structure One (w w' : World) (a : Addr) (v : Value) : Prop where
  cell : ∀ b, w'.cell? b = if b = a then some v else w.cell? b
  frozen : ∀ b, w'.frozen? b = w.frozen? b
  heap : ∀ j, j ≠ a.block → w'.heap[j]? = w.heap[j]?
  os : w'.os = w.os
  tape : w'.tape = w.tape
  output : w'.output = w.output
  size : w'.heap.size = w.heap.size

theorem one_mk {w : World} {a : Addr} (h : ∃ u, w.cell? a = some u) (v : Value) : One w (w.setCell a v) a v :=
  ⟨cell_set h v, fun b => by simp, fun j hj => Below.heap_setCell w a v j hj, rfl, rfl, rfl, by simp⟩

theorem One.ex {w w' : World} {a : Addr} {v : Value} (h : One w w' a v) {b : Addr} (hb : ∃ u, w.cell? b = some u) : ∃ u, w'.cell? b = some u := by
  rw [h.cell]
  split
  · exact ⟨_, rfl⟩
  · exact hb

theorem six_of {w w1 w2 w3 w4 w5 w6 : World} {a : Addr} {g k : Nat} {z : Int} {l o : Nat} (h1 : One w w1 a (.pointer (some ⟨g, 0, none⟩))) (h2 : One w1 w2 ⟨l, 1, none⟩ (.pointer (some ⟨k, 0, none⟩))) (h3 : One w2 w3 ⟨l, 2, none⟩ (.int .i64 z))
    (h4 : One w3 w4 ⟨o, 0, none⟩ (.pointer none)) (h5 : One w4 w5 ⟨o, 1, none⟩ (.pointer none)) (h6 : One w5 w6 ⟨o, 2, none⟩ (.int .i64 0)) : Six w w6 a g k z l o :=
  ⟨fun b => by rw [h6.cell, h5.cell, h4.cell, h3.cell, h2.cell, h1.cell], fun b => by rw [h6.frozen, h5.frozen, h4.frozen, h3.frozen, h2.frozen, h1.frozen],
    fun j k1 k2 k3 => by rw [h6.heap j k2, h5.heap j k2, h4.heap j k2, h3.heap j k1, h2.heap j k1, h1.heap j k3],
    by rw [h6.os, h5.os, h4.os, h3.os, h2.os, h1.os], by rw [h6.tape, h5.tape, h4.tape, h3.tape, h2.tape, h1.tape], by rw [h6.output, h5.output, h4.output, h3.output, h2.output, h1.output], by rw [h6.size, h5.size, h4.size, h3.size, h2.size, h1.size]⟩

theorem six_mk {w : World} {a : Addr} {l o : Nat} (ha : ∃ u, w.cell? a = some u) (l1 : ∃ u, w.cell? ⟨l, 1, none⟩ = some u) (l2 : ∃ u, w.cell? ⟨l, 2, none⟩ = some u) (o0 : ∃ u, w.cell? ⟨o, 0, none⟩ = some u) (o1 : ∃ u, w.cell? ⟨o, 1, none⟩ = some u) (o2 : ∃ u, w.cell? ⟨o, 2, none⟩ = some u) (g k : Nat) (z : Int) :
    Six w ((((((w.setCell a (.pointer (some ⟨g, 0, none⟩))).setCell ⟨l, 1, none⟩ (.pointer (some ⟨k, 0, none⟩))).setCell ⟨l, 2, none⟩ (.int .i64 z)).setCell ⟨o, 0, none⟩ (.pointer none)).setCell ⟨o, 1, none⟩ (.pointer none)).setCell ⟨o, 2, none⟩ (.int .i64 0)) a g k z l o := by
  have h1 := one_mk ha (.pointer (some ⟨g, 0, none⟩))
  have h2 := one_mk (h1.ex l1) (.pointer (some ⟨k, 0, none⟩))
  have h3 := one_mk (h2.ex (h1.ex l2)) (.int .i64 z)
  have h4 := one_mk (h3.ex (h2.ex (h1.ex o0))) (.pointer none)
  have h5 := one_mk (h4.ex (h3.ex (h2.ex (h1.ex o1)))) (.pointer none)
  have h6 := one_mk (h5.ex (h4.ex (h3.ex (h2.ex (h1.ex o2))))) (.int .i64 0)
  exact six_of h1 h2 h3 h4 h5 h6

def catF {α : Type} (f g : Nat → α) (m i : Nat) : α := if i < m then f i else g (i - m)
theorem catF_lo {α : Type} {f g : Nat → α} {m i : Nat} (h : i < m) : catF f g m i = f i := if_pos h
theorem catF_hi {α : Type} {f g : Nat → α} {m i : Nat} (h : m ≤ i) : catF f g m i = g (i - m) := if_neg (by omega)

theorem six_empty {w w' : World} {a : Addr} {g k : Nat} {z : Int} {l o m' : Nat} {nb' : Nat → Nat} {v' : Nat → Int} (S : Six w w' a g k z l o) (h' : Lst w o m' nb' v') (nb : Nat → Nat) (v : Nat → Int) : Lst w' o 0 nb v := by
  refine ⟨?_, ?_, ?_, fun i => (S.frozen _).trans (h'.free i), fun i hi => by omega, fun i hi => by omega, fun i hi => by omega⟩
  · rw [S.cell]; simp [ptr]
  · rw [S.cell]; simp [ptr]
  · rw [S.cell]; simp

theorem six_first {w w' : World} {g k : Nat} {z : Int} {l o m' : Nat} {nb nb' : Nat → Nat} {v v' : Nat → Int} (S : Six w w' ⟨l, 0, none⟩ g k z l o) (h : Lst w l 0 nb v) (h' : Lst w o m' nb' v') (hlo : l ≠ o) (hm : 0 < m') (hg : g = nb' 0) (hk : k = nb' (m' - 1)) (hz : z = (m' : Int)) : Lst w' l m' nb' v' := by
  subst hg; subst hk; subst hz
  refine ⟨?_, ?_, ?_, fun i => (S.frozen _).trans (h.free i), ?_, ?_, fun i hi => (S.frozen _).trans (h'.nfree i hi)⟩
  · rw [S.cell]; simp [ptr, hm]
  · rw [S.cell]; simp [ptr, hm]
  · rw [S.cell]; simp
  · intro i hi
    rw [S.cell]; simp [h'.num i hi]
  · intro i hi
    rw [S.cell]; simp [h'.next i hi]

theorem six_more {w w' : World} {g k : Nat} {z : Int} {l o m m' e : Nat} {nb nb' : Nat → Nat} {v v' : Nat → Int} (S : Six w w' ⟨e, 6, none⟩ g k z l o) (h : Lst w l (m + 1) nb v) (h' : Lst w o m' nb' v') (hlo : l ≠ o) (hm : 0 < m') (he : e = nb m) (hg : g = nb' 0) (hk : k = nb' (m' - 1)) (hz : z = (m : Int) + 1 + (m' : Int))
    (s1 : ∀ i, i < m → nb i ≠ nb m) (s2 : ∀ j, j < m' → nb' j ≠ nb m) : Lst w' l (m + 1 + m') (catF nb nb' (m + 1)) (catF v v' (m + 1)) := by
  subst he; subst hg; subst hk; subst hz
  refine ⟨?_, ?_, ?_, fun i => (S.frozen _).trans (h.free i), ?_, ?_, ?_⟩
  · rw [S.cell]
    have h0 := h.first
    rw [ptr_yes (by omega)] at h0
    rw [ptr_yes (by omega), catF_lo (by omega)]
    simp [h0]
  · rw [S.cell, ptr_yes (by omega), catF_hi (by omega), show m + 1 + m' - 1 - (m + 1) = m' - 1 by omega]
    simp
  · rw [S.cell]
    simp
  · intro i hi
    rw [S.cell]
    by_cases e : i < m + 1
    · rw [catF_lo e, catF_lo e]
      simp [h.num i e]
    · rw [catF_hi (by omega), catF_hi (by omega)]
      simp [h'.num (i - (m + 1)) (by omega)]
  · intro i hi
    rw [S.cell]
    by_cases e : i < m + 1
    · rw [catF_lo e]
      by_cases e2 : i = m
      · subst e2
        rw [ptr_yes (by omega), catF_hi (by omega), show i + 1 - (i + 1) = 0 by omega]
        simp
      · have hn := h.next i e
        rw [ptr_yes (by omega)] at hn
        rw [ptr_yes (by omega), catF_lo (by omega)]
        simp [s1 i (by omega), hn]
    · rw [catF_hi (by omega), catF_hi (by omega)]
      have hn := h'.next (i - (m + 1)) (by omega)
      have hs := s2 (i - (m + 1)) (by omega)
      rw [show i + 1 - (m + 1) = i - (m + 1) + 1 by omega]
      by_cases e3 : i - (m + 1) + 1 < m'
      · rw [ptr_yes e3] at hn
        rw [ptr_yes (by omega)]
        simp [hn]
      · rw [ptr_no e3] at hn
        rw [ptr_no (by omega)]
        simp [hn]
  · intro i hi
    rw [S.frozen]
    by_cases e : i < m + 1
    · rw [catF_lo e]; exact h.nfree i e
    · rw [catF_hi (by omega)]; exact h'.nfree _ (by omega)

end Go.Proofs.Qxb6618233a
