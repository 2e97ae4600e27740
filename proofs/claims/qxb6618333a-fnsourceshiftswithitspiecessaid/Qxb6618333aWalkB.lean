import Derived.Test.Qxb6618333aWalkA
namespace Go.Proofs.Qxb6618333a
open Go.RowKit

/-! ### (*Joined).Source -/
theorem Jn.at_cell {w : World} {J g n : Nat} {d0 d1 : Nat → Int} (h : Jn w J g n d0 d1) (i : Nat) (hi : i < n) : w.cell? ⟨g, i * 2, none⟩ = some (.int .i64 (d0 i)) ∧ w.cell? ⟨g, i * 2 + 1, none⟩ = some (.int .i64 (d1 i)) := by
  have h1 := h.row.cell (i * 2) (by omega)
  have h2 := h.row.cell (i * 2 + 1) (by omega)
  rw [pr_0] at h1
  rw [pr_1] at h2
  exact ⟨h1, h2⟩

theorem sel_unique {at0 : Nat → Int} {n j k : Nat} {x : Int} (h : Plain.Sel at0 n x j) (h' : Plain.Sel at0 n x k) : j = k := by
  have a1 := h.hi
  have a2 := h'.hi
  rcases Nat.lt_trichotomy j k with e | e | e
  · have := h.stop (by omega)
    have := h'.upto (j + 1) (by omega) (by omega)
    omega
  · exact e
  · have := h'.stop (by omega)
    have := h.upto (k + 1) (by omega) (by omega)
    omega

/-- The variable p: its two cells. -/
structure Pv (w : World) (P : Nat) (a s : Int) : Prop where
  at0 : w.cell? ⟨P, 0, none⟩ = some (.int .i64 a)
  src : w.cell? ⟨P, 1, none⟩ = some (.int .i64 s)
  free : ∀ o, w.frozen? ⟨P, o, none⟩ = false

theorem pv_step {w : World} {P : Nat} {a s a' s' : Int} {o : Obj} (h : Pv w P a s) (hP : P < w.heap.size) : Pv (((w.setCell ⟨P, 0, none⟩ (.int .i64 a')).setCell ⟨P, 1, none⟩ (.int .i64 s')).alloc o) P a' s' := by
  have hb := below_new ((w.setCell ⟨P, 0, none⟩ (.int .i64 a')).setCell ⟨P, 1, none⟩ (.int .i64 s')) o
  have hP' : P < ((w.setCell ⟨P, 0, none⟩ (.int .i64 a')).setCell ⟨P, 1, none⟩ (.int .i64 s')).heap.size := by simpa using hP
  refine ⟨?_, ?_, ?_⟩
  · rw [hb.cell (p := ⟨P, 0, none⟩) hP', World.cell?_setCell_other _ _ _ _ (by simp)]
    exact World.cell?_setCell_same' _ _ _ (by simp [h.at0])
  · rw [hb.cell (p := ⟨P, 1, none⟩) hP']
    refine World.cell?_setCell_same' _ _ _ ?_
    rw [World.cell?_setCell_other _ _ _ _ (by simp)]
    simp [h.src]
  · intro i
    rw [hb.frozen (p := ⟨P, i, none⟩) hP']
    simpa using h.free i

theorem pv_new (w : World) (a s : Int) : Pv (w.alloc (.cells #[.int .i64 a, .int .i64 s] 32)) w.heap.size a s := ⟨by simp, by simp, fun o => by simp⟩

set_option maxHeartbeats 1600000 in
theorem source_any (J g n k : Nat) (d0 d1 : Nat → Int) (x : Int) (w : World) (h : Jn w J g n d0 d1) (hJ : J < w.heap.size) (hn : 1 < n) (hnn : n ≤ 1048576) (hk : Plain.Sel d0 n x k)
    (hb0 : ∀ i, i < n → -2305843009213693952 ≤ d0 i ∧ d0 i ≤ 2305843009213693952) (hb1 : ∀ i, i < n → -2305843009213693952 ≤ d1 i ∧ d1 i ≤ 2305843009213693952) (hx : -2305843009213693952 ≤ x ∧ x ≤ 2305843009213693952) :
    Calls Try.prog 9 #[.pointer (some ⟨J, 0, none⟩), .int .i64 x] w fun e w' => e = .returned (.int .i64 (d1 k + x - d0 k)) ∧ Below w.heap.size w w' := by
  have hp := h.pieces
  have hg := h.row.lt
  obtain ⟨c0, c1⟩ := h.at_cell 0 (by omega)
  rw [Nat.zero_mul] at c0 c1
  have hne : ¬ n = 1 := by omega
  have hni : (0 : Int) < (n : Int) := by omega
  have h1i : (1 : Int) ≤ (n : Int) := by omega
  go_enter Try.func9, Try.ntmps9
  go_wp2
  go_loopg [20] (n - 1) (fun kk i wr => ∃ r : Nat, r + kk = n - 1 ∧ i = .int .i64 r ∧ Pv wr w.heap.size (d0 r) (d1 r) ∧ (∀ i, 0 < i → i ≤ r → d0 i ≤ x) ∧ w.heap.size < wr.heap.size ∧ Below w.heap.size w wr)
  case atStart => exact ⟨0, by omega, rfl, pv_new w _ _, fun i h1 h2 => by omega, by simp, below_new w _⟩
  case round =>
    obtain ⟨r, hrk, rfl, hP, hup, hsz, hB⟩ := hrel
    obtain ⟨p0, p1, pf⟩ := id hP
    have HU := hide hup
    clear hup c0 c1 hp
    by_cases hlt : r < n - 1
    · obtain ⟨q0, q1⟩ := h.at_cell (r + 1) (by omega)
      rw [show (r + 1) * 2 = 2 + r * 2 by omega] at q0 q1
      replace q0 := (hB.cell (p := ⟨g, 2 + r * 2, none⟩) hg).trans q0
      replace q1 := (hB.cell (p := ⟨g, 2 + r * 2 + 1, none⟩) hg).trans q1
      have hri : (r : Int) < ((n - 1 : Nat) : Int) := by omega
      have hgw : g < wr.heap.size := by omega
      by_cases hgt : x < d0 (r + 1)
      · have hk' : r = k := sel_unique ⟨by omega, HU.out, fun _ => hgt⟩ hk
        have b0 := hb0 r (by omega)
        have b1 := hb1 r (by omega)
        have HK := hide hk'
        clear hk' hb0 hb1 h hk hP
        go_wp2
        go_ret
        refine ⟨?_, hB.alloc hB.size _⟩
        rw [← HK.out]
        rfl
      · have hP' := pv_step (o := .cells #[.int .i64 (d0 (r + 1)), .int .i64 (d1 (r + 1))] 32) (a' := d0 (r + 1)) (s' := d1 (r + 1)) hP hsz
        have HP' := hide hP'
        clear hb0 hb1 h hk hP hP'
        go_wp2
        go_roundg (gk - 1)
        case measure => omega
        case rel =>
          refine ⟨r + 1, by omega, by go_num, HP'.out, fun i h1 h2 => ?_, by simp; omega, ?_⟩
          · by_cases e : i = r + 1
            · rw [e]; omega
            · exact HU.out i h1 (by omega)
          · exact ((hB.setCell (p := ⟨w.heap.size, 0, none⟩) (Nat.le_refl _) _).setCell (p := ⟨w.heap.size, 1, none⟩) (Nat.le_refl _) _).alloc (by simp; omega) _
    · have hk' : r = k := sel_unique ⟨by omega, HU.out, fun h => by omega⟩ hk
      have b0 := hb0 r (by omega)
      have b1 := hb1 r (by omega)
      have HK := hide hk'
      clear hk' hb0 hb1 h hk hP
      go_wp2
      go_ret
      refine ⟨?_, hB⟩
      rw [← HK.out]
      rfl

set_option maxHeartbeats 800000 in
theorem source_one (J g : Nat) (d0 d1 : Nat → Int) (x : Int) (w : World) (h : Jn w J g 1 d0 d1) (hJ : J < w.heap.size)
    (hb0 : -2305843009213693952 ≤ d0 0 ∧ d0 0 ≤ 2305843009213693952) (hb1 : -2305843009213693952 ≤ d1 0 ∧ d1 0 ≤ 2305843009213693952) (hx : -2305843009213693952 ≤ x ∧ x ≤ 2305843009213693952) :
    Calls Try.prog 9 #[.pointer (some ⟨J, 0, none⟩), .int .i64 x] w fun e w' => e = .returned (.int .i64 (d1 0 + x - d0 0)) ∧ Below w.heap.size w w' := by
  have hp := h.pieces
  have hg := h.row.lt
  obtain ⟨c0, c1⟩ := h.at_cell 0 (by omega)
  rw [Nat.zero_mul] at c0 c1
  go_enter Try.func9, Try.ntmps9
  go_wp2
  go_loopg [20] 0 (fun kk i wr => i = .int .i64 0 ∧ Pv wr w.heap.size (d0 0) (d1 0) ∧ Below w.heap.size w wr)
  case atStart => exact ⟨rfl, pv_new w _ _, below_new w _⟩
  case round =>
    obtain ⟨rfl, hP, hB⟩ := hrel
    obtain ⟨p0, p1, pf⟩ := id hP
    clear c0 c1 hp h hP
    go_wp2
    go_ret
    exact ⟨rfl, hB⟩

theorem source_is (J g n k : Nat) (d0 d1 : Nat → Int) (x r : Int) (w : World) (h : Jn w J g n d0 d1) (hJ : J < w.heap.size) (hn : 0 < n) (hnn : n ≤ 1048576) (hk : Plain.Sel d0 n x k)
    (hb0 : ∀ i, i < n → -2305843009213693952 ≤ d0 i ∧ d0 i ≤ 2305843009213693952) (hb1 : ∀ i, i < n → -2305843009213693952 ≤ d1 i ∧ d1 i ≤ 2305843009213693952) (hx : -2305843009213693952 ≤ x ∧ x ≤ 2305843009213693952) (hr : d1 k + x - d0 k = r) :
    Calls Try.prog 9 #[.pointer (some ⟨J, 0, none⟩), .int .i64 x] w fun e w' => e = .returned (.int .i64 r) ∧ Below w.heap.size w w' := by
  subst hr
  by_cases e : n = 1
  · subst e
    obtain rfl : k = 0 := by have := hk.hi; omega
    exact source_one J g d0 d1 x w h hJ (hb0 0 (by omega)) (hb1 0 (by omega)) hx
  · exact source_any J g n k d0 d1 x w h hJ (by omega) hnn hk hb0 hb1 hx
end Go.Proofs.Qxb6618333a
