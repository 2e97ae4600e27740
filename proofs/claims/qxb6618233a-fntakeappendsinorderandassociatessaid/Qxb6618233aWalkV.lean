import Derived.Test.Qxb6618233aWalkU
namespace Go.Proofs.Qxb6618233a
open Go.RowKit

theorem listTail_pos (l m : Nat) (nb : Nat → Nat) (v : Nat → Int) (w : World) (h : Lst w l m nb v) (hm : 0 < m) :
    Calls Try.prog 20 #[.pointer (some ⟨l, 0, none⟩)] w fun e w' => e = .returned (.tuple #[.bool true, .int .u64 (v (m - 1)), .bool true]) ∧ ∃ q, w' = w.drewN q := by
  obtain ⟨k, rfl⟩ : ∃ k, m = k + 1 := ⟨m - 1, by omega⟩
  exact listTail_yes l k nb v w h

/-! ### listReadsAs -/
set_option maxHeartbeats 1600000 in
theorem listReads_any (l m c : Nat) (a : Option Addr) (nb : Nat → Nat) (v : Nat → Int) (w : World) (h : Lst w l m nb v) (hl : l < w.heap.size) (hnb : ∀ i, i < m → nb i < w.heap.size) (hm : m ≤ 1048576) (hs : Seq w.heap.size w a m (U v)) :
    Calls Try.prog 14 #[.pointer (some ⟨l, 0, none⟩), .slice a m c] w fun e w' => e = .returned (.bool true) ∧ Below w.heap.size w w' := by
  have hmm : ((m : Int) != (m : Int)) = false := by simp
  go_enter Try.func14, Try.ntmps14
  go_wp2_with fail
  refine (listNumbers_any l m nb v w h hnb hm).mono ?_
  rintro e w1 ⟨ga, gc, rfl, gs, hB⟩
  have h := h.below hB hl hnb
  have hs := (hs.below hB (Nat.le_refl _)).mono hB.size
  go_wp2_with fail
  go_loopg [6] m (fun k i wr => ∃ p q : Nat, p + k = m ∧ i = .int .i64 p ∧ wr = w1.drewN q)
  case atStart => exact ⟨0, 0, by omega, rfl, rfl⟩
  case round =>
    obtain ⟨p, q, hpk, rfl, rfl⟩ := hrel
    by_cases hlt : p < m
    · obtain ⟨b, off, rfl, hbs, hc⟩ := hs (by omega)
      obtain ⟨b', off', rfl, hbs', hc'⟩ := gs (by omega)
      have hcp : w1.cell? ⟨b, off + p, none⟩ = some (.int .u64 (v p)) := hc p hlt
      have hcp' : w1.cell? ⟨b', off' + p, none⟩ = some (.int .u64 (v p)) := hc' p hlt
      have hpn : (p : Int) < (m : Int) := by omega
      have hdd : (v p != v p) = false := by simp
      clear hc hc' hs gs h
      go_wp2
      go_quiet (fail)
      go_wp2
      go_roundg (gk - 1)
      case measure => omega
      case rel => exact ⟨p + 1, _, by omega, by go_num, rfl⟩
    · obtain rfl : m = p := by omega
      have h := h.drawn q
      have hs : Seq w1.heap.size (w1.drewN q) a m (U v) := hs
      clear gs
      by_cases hm0 : 0 < m
      · obtain ⟨b, off, rfl, hbs, hc⟩ := hs (by omega)
        have hcl : w1.cell? ⟨b, off + (m - 1), none⟩ = some (.int .u64 (v (m - 1))) := hc (m - 1) (by omega)
        have hmi : (0 : Int) < (m : Int) := by omega
        have hvv : (v (m - 1) != v (m - 1)) = false := by simp
        clear hc hs
        go_wp2_with fail
        refine (listCount_any l m nb v _ h).mono ?_
        rintro e w' ⟨rfl, hw⟩
        subst hw
        go_wp2_with fail
        refine (listHeadSet_any l m nb v _ h true (decide_eq_true hm0)).mono ?_
        rintro e w' ⟨rfl, hw⟩
        subst hw
        go_wp2_with fail
        refine (listTail_pos l m nb v _ h hm0).mono ?_
        rintro e w' ⟨rfl, q2, hw⟩
        subst hw
        go_wp2_with fail
        go_ret
        exact ⟨rfl, below_drewN' hB _⟩
      · obtain rfl : m = 0 := by omega
        go_wp2_with fail
        refine (listCount_any l 0 nb v _ h).mono ?_
        rintro e w' ⟨rfl, hw⟩
        subst hw
        go_wp2_with fail
        refine (listHeadSet_any l 0 nb v _ h false rfl).mono ?_
        rintro e w' ⟨rfl, hw⟩
        subst hw
        go_wp2_with fail
        refine (listTail_no l nb v _ h).mono ?_
        rintro e w' ⟨rfl, q2, hw⟩
        subst hw
        go_wp2_with fail
        go_ret
        exact ⟨rfl, below_drewN' hB _⟩

/-! ### zzBytes_FnTake.. -/
theorem bytes10 (a0 a1 a2 : Option Addr) (n0 c0 n1 c1 n2 c2 : Nat) (w : World) (h0 : n0 ≤ 9223372036854775807) (h1 : n1 ≤ 9223372036854775807) (h2 : n2 ≤ 9223372036854775807) :
    Calls Try.prog 10 #[.slice a0 n0 c0, .slice a1 n1 c1, .slice a2 n2 c2] w fun e w' => (∃ b, e = .returned (.bool b)) ∧ w = w' := by
  go_enter Try.func10, Try.ntmps10
  go_wp2
  all_goals
    go_ret
    exact ⟨⟨_, rfl⟩, rfl⟩

/-! ### joined -/
/-- Three rows laid end to end. -/
def cat3 (d0 d1 d2 : Nat → Int) (n0 n1 : Nat) (i : Nat) : Int := if i < n0 then d0 i else if i < n0 + n1 then d1 (i - n0) else d2 (i - (n0 + n1))
theorem cat3_0 {d0 d1 d2 : Nat → Int} {n0 n1 i : Nat} (h : i < n0) : cat3 d0 d1 d2 n0 n1 i = d0 i := by rw [cat3, if_pos h]
theorem cat3_1 {d0 d1 d2 : Nat → Int} {n0 n1 i : Nat} (h : i < n1) : cat3 d0 d1 d2 n0 n1 (n0 + i) = d1 i := by
  rw [cat3, if_neg (by omega), if_pos (by omega), show n0 + i - n0 = i by omega]
theorem cat3_2 {d0 d1 d2 : Nat → Int} {n0 n1 i : Nat} : cat3 d0 d1 d2 n0 n1 (n0 + n1 + i) = d2 i := by
  rw [cat3, if_neg (by omega), if_neg (by omega), show n0 + n1 + i - (n0 + n1) = i by omega]

theorem Row.set' {w : World} {g : Nat} {e : TypeId} {n : Nat} {f : Nat → Value} {k : Nat} (h : Row w g e n f k) (hk : k < n) {u : Value} (hu : f k = u) : Row (w.setCell ⟨g, k, none⟩ u) g e n f (k + 1) := by
  subst hu; exact h.set hk

set_option maxHeartbeats 1600000 in
theorem joined_any (a0 a1 a2 : Option Addr) (n0 c0 n1 c1 n2 c2 : Nat) (d0 d1 d2 : Nat → Int) (w : World) (h0 : Seq w.heap.size w a0 n0 (U d0)) (h1 : Seq w.heap.size w a1 n1 (U d1)) (h2 : Seq w.heap.size w a2 n2 (U d2))
    (hn0 : n0 ≤ 1048576) (hn1 : n1 ≤ 1048576) (hn2 : n2 ≤ 1048576) :
    Calls Try.prog 11 #[.slice a0 n0 c0, .slice a1 n1 c1, .slice a2 n2 c2] w fun e w' => ∃ a, e = .returned (.slice a (n0 + n1 + n2) (n0 + n1 + n2)) ∧ Seq w'.heap.size w' a (n0 + n1 + n2) (U (cat3 d0 d1 d2 n0 n1)) ∧ Below w.heap.size w w' := by
  obtain ⟨i0, hi, hz0, hz1, hz2⟩ := info_parts Try.info34
  go_enter Try.func11, Try.ntmps11
  go_wp2_with (at_make; refine wpList_make_full _ rfl _ _ 27 rfl w.heap.size 34 i0 (.int .u64 0) 1 Try.underlying27 hi hz0 hz1 _ _ _ _ (n0 + n1 + n2) rfl rfl (by omega) (by omega) ?b1 ?b2 ?b3 ?_)
  case b1 => rw [hz2]; omega
  case b2 => unfold maxLen; omega
  case b3 => exact Nat.le_refl _
  intro w1 hown hgrow
  have hB : Below w.heap.size w w1 := (Below.refl _ _).grown hgrow (Nat.le_refl _) (fun k h => by cases h)
  have hR : Row w1 w.heap.size 34 (n0 + n1 + n2) (U (cat3 d0 d1 d2 n0 n1)) 0 := row_of_owns _ hown
  clear hown hgrow
  go_wp2
  go_loopg [8, 9] n0 (fun k x i wr => ∃ p : Nat, p + k = n0 ∧ i = .int .i64 p ∧ x = .int .i64 ((p : Int)) ∧ Row wr w.heap.size 34 (n0 + n1 + n2) (U (cat3 d0 d1 d2 n0 n1)) (p) ∧ Below w.heap.size w wr)
  case atStart => exact ⟨0, by omega, rfl, by go_num, hR, hB⟩
  case round =>
    clear hR hB
    obtain ⟨p, hpk, rfl, rfl, hR, hB⟩ := hrel
    by_cases hlt : p < n0
    · obtain ⟨b, off, rfl, hbs, hc⟩ := h0 (by omega)
      have hcp : wr.cell? ⟨b, off + p, none⟩ = some (.int .u64 (d0 p)) := (hB.cell (p := ⟨b, off + p, none⟩) hbs).trans (hc p hlt)
      have hR' := hR.set' (by omega) (u := .int .u64 (d0 p)) (by rw [U, cat3_0 hlt])
      have hB' : Below w.heap.size w (wr.setCell ⟨w.heap.size, p, none⟩ (.int .u64 (d0 p))) := hB.setCell (by exact Nat.le_refl _) _
      obtain ⟨ov, hov⟩ := hR.old (p) (by omega)
      have hf := hR.free (p)
      clear hc h0 h1 h2 hR hB
      go_wp2
      go_roundg (gk - 1)
      case measure => omega
      case rel => exact ⟨p + 1, by omega, by go_num, by go_num, hR', hB'⟩
    · obtain rfl : n0 = p := by omega
      clear hlt hpk
      go_wp2
      go_loopg [8, 10] n1 (fun k x i wr => ∃ p : Nat, p + k = n1 ∧ i = .int .i64 p ∧ x = .int .i64 ((n0 : Int) + (p : Int)) ∧ Row wr w.heap.size 34 (n0 + n1 + n2) (U (cat3 d0 d1 d2 n0 n1)) (n0 + p) ∧ Below w.heap.size w wr)
      case atStart => exact ⟨0, by omega, rfl, by go_num, hR, hB⟩
      case round =>
        clear hR hB
        obtain ⟨p, hpk, rfl, rfl, hR, hB⟩ := hrel
        by_cases hlt : p < n1
        · obtain ⟨b, off, rfl, hbs, hc⟩ := h1 (by omega)
          have hcp : wr.cell? ⟨b, off + p, none⟩ = some (.int .u64 (d1 p)) := (hB.cell (p := ⟨b, off + p, none⟩) hbs).trans (hc p hlt)
          have hR' := hR.set' (by omega) (u := .int .u64 (d1 p)) (by rw [U, cat3_1 hlt])
          have hB' : Below w.heap.size w (wr.setCell ⟨w.heap.size, n0 + p, none⟩ (.int .u64 (d1 p))) := hB.setCell (by exact Nat.le_refl _) _
          obtain ⟨ov, hov⟩ := hR.old (n0 + p) (by omega)
          have hf := hR.free (n0 + p)
          clear hc h1 h2 hR hB
          go_wp2
          go_roundg (gk - 1)
          case measure => omega
          case rel => exact ⟨p + 1, by omega, by go_num, by go_num, hR', hB'⟩
        · obtain rfl : n1 = p := by omega
          clear hlt hpk
          go_wp2
          go_loopg [8, 11] n2 (fun k x i wr => ∃ p : Nat, p + k = n2 ∧ i = .int .i64 p ∧ x = .int .i64 ((n0 : Int) + (n1 : Int) + (p : Int)) ∧ Row wr w.heap.size 34 (n0 + n1 + n2) (U (cat3 d0 d1 d2 n0 n1)) (n0 + n1 + p) ∧ Below w.heap.size w wr)
          case atStart => exact ⟨0, by omega, rfl, by go_num, hR, hB⟩
          case round =>
            clear hR hB
            obtain ⟨p, hpk, rfl, rfl, hR, hB⟩ := hrel
            by_cases hlt : p < n2
            · obtain ⟨b, off, rfl, hbs, hc⟩ := h2 (by omega)
              have hcp : wr.cell? ⟨b, off + p, none⟩ = some (.int .u64 (d2 p)) := (hB.cell (p := ⟨b, off + p, none⟩) hbs).trans (hc p hlt)
              have hR' := hR.set' (by omega) (u := .int .u64 (d2 p)) (by rw [U, cat3_2])
              have hB' : Below w.heap.size w (wr.setCell ⟨w.heap.size, n0 + n1 + p, none⟩ (.int .u64 (d2 p))) := hB.setCell (by exact Nat.le_refl _) _
              obtain ⟨ov, hov⟩ := hR.old (n0 + n1 + p) (by omega)
              have hf := hR.free (n0 + n1 + p)
              clear hc h2 hR hB
              go_wp2
              go_roundg (gk - 1)
              case measure => omega
              case rel => exact ⟨p + 1, by omega, by go_num, by go_num, hR', hB'⟩
            · obtain rfl : n2 = p := by omega
              go_wp2
              go_ret
              exact ⟨_, rfl, hR.seq hR.lt, hB⟩
end Go.Proofs.Qxb6618233a
