import Derived.Test.Qxb6618233aWalkT
namespace Go.Proofs.Qxb6618233a
open Go.RowKit

/-! ### ZZTake -/
/-- Blocks of which p holds are as they were; nothing is new. -/
structure Kept (w w' : World) (p : Nat → Prop) : Prop where
  heap : ∀ j, p j → w'.heap[j]? = w.heap[j]?
  os : w'.os = w.os
  tape : w'.tape = w.tape
  output : w'.output = w.output
  size : w'.heap.size = w.heap.size

theorem Kept.below {w w' : World} {p : Nat → Prop} (h : Kept w w' p) {B : Nat} (hB : ∀ j, j < B → p j) : Below B w w' :=
  ⟨h.os, h.tape, h.output, by rw [h.size]; exact Nat.le_refl _, fun j hj => h.heap j (hB j hj)⟩

theorem catF_zero {α : Type} (f g : Nat → α) (i : Nat) : catF f g 0 i = g i := by rw [catF_hi (Nat.zero_le _), Nat.sub_zero]

theorem take_any (l o m m' : Nat) (nb nb' : Nat → Nat) (v v' : Nat → Int) (w : World) (h : Lst w l m nb v) (h' : Lst w o m' nb' v') (hlo : l ≠ o) (hm : m ≤ 1048576) (hm' : m' ≤ 1048576)
    (s1 : ∀ i, i + 1 < m → nb i ≠ nb (m - 1)) (s2 : ∀ j, j < m' → 0 < m → nb' j ≠ nb (m - 1)) :
    Calls Try.prog 16 #[.pointer (some ⟨l, 0, none⟩), .pointer (some ⟨o, 0, none⟩)] w fun e w' => e = .returned (.tuple #[]) ∧ Lst w' l (m + m') (catF nb nb' m) (catF v v' m) ∧ Lst w' o 0 nb' v' ∧ Kept w w' (fun j => j ≠ l ∧ j ≠ o ∧ (0 < m → j ≠ nb (m - 1))) := by
  rcases Nat.eq_zero_or_pos m' with e' | e'
  · subst e'
    refine (take_none l o w h'.count).mono fun e w' hh => ?_
    obtain ⟨h1, rfl⟩ := hh
    exact ⟨h1, h.congr (fun i hi => (catF_lo hi).symm) (fun i hi => (catF_lo hi).symm), h', ⟨fun _ _ => rfl, rfl, rfl, rfl, rfl⟩⟩
  obtain ⟨k', rfl⟩ : ∃ k', m' = k' + 1 := ⟨m' - 1, by omega⟩
  have o0 := h'.first
  have o1 := h'.last
  have o2 := h'.count
  rw [ptr_yes e'] at o0 o1
  rw [show k' + 1 - 1 = k' by omega] at o1
  rcases Nat.eq_zero_or_pos m with e0 | e0
  · subst e0
    have l0 := h.first
    have l1 := h.last
    rw [ptr_no (by omega)] at l0 l1
    refine (take_first l o k' (nb' 0) (nb' k') w hlo (by omega) l0 l1 h.count h.free o0 o1 (by simpa using o2) h'.free).mono fun e w' hh => ?_
    obtain ⟨h1, S⟩ := hh
    refine ⟨h1, ?_, six_empty S h' _ _, ⟨fun j hj => S.heap j hj.1 hj.2.1 hj.1, S.os, S.tape, S.output, S.size⟩⟩
    have hL := six_first S h h' hlo e' rfl (by rw [show k' + 1 - 1 = k' by omega]) (by simp)
    rw [Nat.zero_add]
    exact hL.congr (fun i _ => (catF_zero _ _ i).symm) (fun i _ => (catF_zero _ _ i).symm)
  · obtain ⟨k, rfl⟩ : ∃ k, m = k + 1 := ⟨m - 1, by omega⟩
    have l1 := h.last
    rw [ptr_yes e0, show k + 1 - 1 = k by omega] at l1
    have e6 := h.next k (by omega)
    rw [ptr_no (by omega)] at e6
    simp only [show k + 1 - 1 = k by omega] at s1 s2
    refine (take_more l o k k' (nb k) (nb' 0) (nb' k') w hlo (by omega) (by omega) l1 (by simpa using h.count) h.free e6 (h.nfree k (by omega)) o0 o1 (by simpa using o2) h'.free).mono fun e w' hh => ?_
    obtain ⟨h1, S⟩ := hh
    refine ⟨h1, six_more S h h' hlo e' rfl rfl (by rw [show k' + 1 - 1 = k' by omega]) (by simp) (fun i hi => s1 i (by omega)) (fun j hj => s2 j hj e0), six_empty S h' _ _, ⟨fun j hj => S.heap j hj.1 hj.2.1 (by have := hj.2.2 e0; rwa [show k + 1 - 1 = k by omega] at this), S.os, S.tape, S.output, S.size⟩⟩

theorem zzTake_any (l o m m' : Nat) (nb nb' : Nat → Nat) (v v' : Nat → Int) (w : World) (h : Lst w l m nb v) (h' : Lst w o m' nb' v') (hlo : l ≠ o) (hm : m ≤ 1048576) (hm' : m' ≤ 1048576)
    (s1 : ∀ i, i + 1 < m → nb i ≠ nb (m - 1)) (s2 : ∀ j, j < m' → 0 < m → nb' j ≠ nb (m - 1)) :
    Calls Try.prog 13 #[.pointer (some ⟨l, 0, none⟩), .pointer (some ⟨o, 0, none⟩)] w fun e w' => e = .returned (.tuple #[]) ∧ Lst w' l (m + m') (catF nb nb' m) (catF v v' m) ∧ Lst w' o 0 nb' v' ∧ Kept w w' (fun j => j ≠ l ∧ j ≠ o ∧ (0 < m → j ≠ nb (m - 1))) := by
  have T := hide (take_any l o m m' nb nb' v v' w h h' hlo hm hm' s1 s2)
  clear h h' s1 s2
  go_enter Try.func13, Try.ntmps13
  go_wp2_with fail
  refine T.out.mono ?_
  rintro e w' ⟨rfl, h1, h2, h3⟩
  go_wp2
  go_end0
  exact ⟨rfl, h1, h2, h3⟩

/-! ### the readers -/
theorem listCount_any (l m : Nat) (nb : Nat → Nat) (v : Nat → Int) (w : World) (h : Lst w l m nb v) :
    Calls Try.prog 18 #[.pointer (some ⟨l, 0, none⟩)] w fun e w' => e = .returned (.int .i64 m) ∧ w = w' := by
  have h2 := h.count
  clear h
  go_enter Try.func18, Try.ntmps18
  go_wp2
  go_ret
  exact ⟨rfl, rfl⟩

theorem listHeadSet_any (l m : Nat) (nb : Nat → Nat) (v : Nat → Int) (w : World) (h : Lst w l m nb v) (r : Bool) (hr : decide (0 < m) = r) :
    Calls Try.prog 19 #[.pointer (some ⟨l, 0, none⟩)] w fun e w' => e = .returned (.bool r) ∧ w = w' := by
  have h0 := h.first
  clear h
  by_cases hm : 0 < m
  · rw [ptr_yes hm] at h0
    rw [decide_eq_true hm] at hr
    subst hr
    go_enter Try.func19, Try.ntmps19
    go_wp2
    go_ret
    exact ⟨rfl, rfl⟩
  · rw [ptr_no hm] at h0
    rw [decide_eq_false hm] at hr
    subst hr
    go_enter Try.func19, Try.ntmps19
    go_wp2
    go_ret
    exact ⟨rfl, rfl⟩

theorem listTail_no (l : Nat) (nb : Nat → Nat) (v : Nat → Int) (w : World) (h : Lst w l 0 nb v) :
    Calls Try.prog 20 #[.pointer (some ⟨l, 0, none⟩)] w fun e w' => e = .returned (.tuple #[.bool false, .int .u64 0, .bool true]) ∧ ∃ q, w' = w.drewN q := by
  have h1 := h.last
  rw [ptr_no (by omega)] at h1
  clear h
  go_enter Try.func20, Try.ntmps20
  go_wp2
  go_ret3
  exact ⟨rfl, 0, rfl⟩

theorem listTail_yes (l m : Nat) (nb : Nat → Nat) (v : Nat → Int) (w : World) (h : Lst w l (m + 1) nb v) :
    Calls Try.prog 20 #[.pointer (some ⟨l, 0, none⟩)] w fun e w' => e = .returned (.tuple #[.bool true, .int .u64 (v m), .bool true]) ∧ ∃ q, w' = w.drewN q := by
  have h1 := h.last
  rw [ptr_yes (by omega), show m + 1 - 1 = m by omega] at h1
  have h3 := h.num m (by omega)
  have h6 := h.next m (by omega)
  rw [ptr_no (by omega)] at h6
  clear h
  go_enter Try.func20, Try.ntmps20
  go_wp2
  go_quiet (fail)
  go_wp2
  go_ret3
  exact ⟨rfl, _, rfl⟩

/-! ### ZZListNumbers -/
theorem one_new {w : World} {e : TypeId} {v : Value} (hv : v.oneCell' = true) : (∀ j u, [v][j]? = some u → (w.alloc (.cells #[v] e)).cell? ((⟨w.heap.size, 0, none⟩ : Addr).add j) = some u) ∧ ∀ u ∈ [v], u.oneCell' = true := by
  refine ⟨fun j u hj => ?_, fun u hu => ?_⟩
  · match j, hj with
    | 0, hj => simp at hj; subst hj; simp [Addr.add]
  · simp at hu; subst hu; exact hv

theorem owns_next {B : Nat} {w wr w1 : World} {e : TypeId} {x x' : Value} {p : Nat} {F : Nat → Value} {o : Obj} (hO : wr.ownsRow B e 1 x p ((List.range p).map F)) (hB : Below B w wr) (hs : B ≤ wr.heap.size)
    (hO' : w1.ownsRow B e 1 x' (p + 1) ((List.range p).map F ++ [F p])) (hg : (wr.alloc o).grownBy w1 x.ownBlock) : w1.ownsRow B e 1 x' (p + 1) ((List.range (p + 1)).map F) ∧ Below B w w1 := by
  refine ⟨by rw [List.range_succ, List.map_append]; simpa using hO', (hB.alloc hs o).grown hg (by simp; omega) (fun j hj => (hO.lt j hj).1)⟩

theorem owns_seq {B : Nat} {w : World} {e : TypeId} {x : Value} {n : Nat} {F : Nat → Value} (h : w.ownsRow B e 1 x n ((List.range n).map F)) : ∃ a c, x = .slice a n c ∧ Seq w.heap.size w a n F := by
  rcases h.2 with ⟨rfl, rfl⟩ | ⟨g, cap, cur, rfl, _, hg, _⟩
  · exact ⟨none, 0, rfl, fun h => by omega⟩
  · refine ⟨_, _, rfl, fun hn => ⟨g, 0, rfl, lt_of_block hg, fun i hi => ?_⟩⟩
    rw [Nat.zero_add, h.cellAt i (by omega)]
    simp [hi]

set_option maxHeartbeats 1600000 in
theorem listNumbers_any (l m : Nat) (nb : Nat → Nat) (v : Nat → Int) (w : World) (h : Lst w l m nb v) (hnb : ∀ i, i < m → nb i < w.heap.size) (hm : m ≤ 1048576) :
    Calls Try.prog 17 #[.pointer (some ⟨l, 0, none⟩), .int .i64 ((m : Int) + 1)] w fun e w' => ∃ a c, e = .returned (.slice a m c) ∧ Seq w'.heap.size w' a m (U v) ∧ Below w.heap.size w w' := by
  obtain ⟨i0, hi, hz0, hz1, hz2⟩ := info_parts Try.info34
  have h0 := h.first
  go_enter Try.func17, Try.ntmps17
  go_wp2
  go_loopg [5, 6, 7] m (fun k x y z wr => ∃ p : Nat, p + k = m ∧ z = .int .i64 p ∧ y = ptr (p < m) (nb p) ∧ wr.ownsRow w.heap.size 34 1 x p ((List.range p).map (U v)) ∧ Below w.heap.size w wr)
  case atStart => exact ⟨0, by omega, rfl, rfl, World.ownsRow_nil _ _ _ _, Below.refl _ _⟩
  case round =>
    obtain ⟨p, hpk, rfl, rfl, hO, hB⟩ := hrel
    by_cases hlt : p < m
    · have h3 : wr.cell? ⟨nb p, 3, none⟩ = some (.int .u64 (v p)) := (hB.cell (p := ⟨nb p, 3, none⟩) (hnb p hlt)).trans (h.num p hlt)
      have h6 : wr.cell? ⟨nb p, 6, none⟩ = some (ptr (p + 1 < m) (nb (p + 1))) := (hB.cell (p := ⟨nb p, 6, none⟩) (hnb p hlt)).trans (h.next p hlt)
      have hpm : (p : Int) < (m : Int) + 1 := by omega
      rw [ptr_yes hlt]
      have o1 := one_new (w := wr) (e := 34) (v := .int .u64 (v p)) rfl
      have hBs := hB.size
      clear h h0
      go_wp2_with (at_builtin; refine wpList_append_own _ rfl _ _ 27 rfl w.heap.size 34 i0 (.int .u64 0) 1 8 Try.underlying27 hi hz0 hz1 hz2 rfl (by decide) _ _ _ rfl (hO.alloc _) ⟨wr.heap.size, 0, none⟩ 1 1 [.int .u64 (v p)] rfl rfl ?c1 ?c2 ?c3 ?c4 ?c5 ?_)
      case c1 => exact o1.1
      case c2 => exact o1.2
      case c3 => unfold maxLen; omega
      case c4 => omega
      case c5 => simp; omega
      intro x' w1 hO' hg _
      obtain ⟨hO1, hB1⟩ := owns_next hO hB hBs hO' hg
      have h6' : w1.cell? ⟨nb p, 6, none⟩ = some (ptr (p + 1 < m) (nb (p + 1))) := by
        have e1 := hB.cell (p := ⟨nb p, 6, none⟩) (hnb p hlt)
        have e2 := hB1.cell (p := ⟨nb p, 6, none⟩) (hnb p hlt)
        rw [e2, ← e1]; exact h6
      clear hO' hg hO hB h6 h3 o1
      go_wp2_with fail
      go_roundg (gk - 1)
      case measure => omega
      case rel => exact ⟨p + 1, by omega, by go_num, rfl, hO1, hB1⟩
    · obtain rfl : m = p := by omega
      rw [ptr_no hlt]
      have hpm : (m : Int) < (m : Int) + 1 := by omega
      obtain ⟨a, c, hx, hs⟩ := owns_seq hO
      clear h hO
      go_wp2
      go_ret
      exact ⟨a, c, by rw [← hx]; rfl, hs, hB⟩
end Go.Proofs.Qxb6618233a
