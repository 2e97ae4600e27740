import Derived.Test.Qxb6618116aWalkA
namespace Go.Proofs.Qxb6618116a
open Go.RowKit


/-! ### zzSame -/
set_option maxHeartbeats 800000 in
theorem same_any (a a' : Option Addr) (n c c' : Nat) (d : Nat → Int) (w : World) (hs : Seq w.heap.size w a n (By d)) (hs' : Seq w.heap.size w a' n (By d)) (hn : n ≤ 1048576) :
    Calls Try.prog 10 #[.slice a n c, .slice a' n c'] w fun e w' => e = .returned (.bool true) ∧ ∃ q, w' = w.drewN q := by
  have hnn : ((n : Int) != (n : Int)) = false := by simp
  go_enter Try.func10, Try.ntmps10
  go_wp2
  go_loopg [5] n (fun k i wr => ∃ p q : Nat, p + k = n ∧ i = .int .i64 p ∧ wr = w.drewN q)
  case atStart => exact ⟨0, 0, by omega, rfl, rfl⟩
  case round =>
    obtain ⟨p, q, hpk, rfl, rfl⟩ := hrel
    by_cases hlt : p < n
    · obtain ⟨b, off, rfl, hbs, hc⟩ := hs (by omega)
      obtain ⟨b', off', rfl, hbs', hc'⟩ := hs' (by omega)
      have hcp : w.cell? ⟨b, off + p, none⟩ = some (.int .u8 (d p)) := hc p hlt
      have hcp' : w.cell? ⟨b', off' + p, none⟩ = some (.int .u8 (d p)) := hc' p hlt
      have hpn : (p : Int) < (n : Int) := by omega
      have hdd : (d p != d p) = false := by simp
      clear hc hc' hs hs'
      go_wp2
      go_quiet (fail)
      go_wp2
      go_roundg (gk - 1)
      case measure => omega
      case rel => exact ⟨p + 1, _, by omega, by go_num, rfl⟩
    · go_wp2
      go_ret
      exact ⟨rfl, _, rfl⟩

/-! ### zzJoin3 -/
/-- The bytes of three rows laid end to end. -/
def cat3 (d0 d1 d2 : Nat → Int) (n0 n1 : Nat) (i : Nat) : Int := if i < n0 then d0 i else if i < n0 + n1 then d1 (i - n0) else d2 (i - (n0 + n1))

theorem cat3_0 {d0 d1 d2 : Nat → Int} {n0 n1 i : Nat} (h : i < n0) : cat3 d0 d1 d2 n0 n1 i = d0 i := by rw [cat3, if_pos h]
theorem cat3_1 {d0 d1 d2 : Nat → Int} {n0 n1 i : Nat} (h : i < n1) : cat3 d0 d1 d2 n0 n1 (n0 + i) = d1 i := by
  rw [cat3, if_neg (by omega), if_pos (by omega), show n0 + i - n0 = i by omega]
theorem cat3_2 {d0 d1 d2 : Nat → Int} {n0 n1 i : Nat} : cat3 d0 d1 d2 n0 n1 (n0 + n1 + i) = d2 i := by
  rw [cat3, if_neg (by omega), if_neg (by omega), show n0 + n1 + i - (n0 + n1) = i by omega]

/-- A row of the call's own with room, of which the first K cells are F's. -/
structure Outs (w0 wr : World) (g K cap : Nat) (F : Nat → Value) : Prop where
  own : wr.ownsRow w0.heap.size 5 1 (.slice (some ⟨g, 0, none⟩) K cap) K ((List.range K).map F)
  below : Below w0.heap.size w0 wr

theorem Outs.next {w0 wr w' : World} {g K cap : Nat} {F : Nat → Value} {u : Value} {o : Obj} (h : Outs w0 wr g K cap F) (hg : w0.heap.size ≤ g) (hu : F K = u)
    (ho : w'.ownsRow w0.heap.size 5 1 (.slice (some ⟨g, 0, none⟩) (K + 1) cap) (K + 1) ((List.range K).map F ++ [u])) (hgr : (wr.alloc o).grownBy w' (some g)) : Outs w0 w' g (K + 1) cap F := by
  refine ⟨?_, ?_⟩
  · rw [List.range_succ, List.map_append]
    simpa [hu] using ho
  · exact (h.below.alloc h.below.size o).grown hgr (by have := h.below.size; simp; omega) (fun k hk => by cases hk; exact hg)

theorem Outs.seq {w0 wr : World} {g K cap : Nat} {F : Nat → Value} (h : Outs w0 wr g K cap F) : Seq wr.heap.size wr (some ⟨g, 0, none⟩) K F := fun hK => by
  have h0 := h.own.cellAt
  refine ⟨g, 0, rfl, ?_, fun i hi => ?_⟩
  · rcases h.own.2 with ⟨h', _⟩ | ⟨g', cap', cur, h', _, hg, _⟩
    · simp at h'
    · simp only [Value.slice.injEq, Option.some.injEq, Addr.mk.injEq, and_true, true_and] at h'
      obtain ⟨rfl, rfl⟩ := h'
      exact lt_of_block hg
  · rw [Nat.zero_add, h0 i (by omega)]
    simp [hi]

theorem one_new {w : World} {v : Value} (hv : ∀ b, v.oneCell' = b → b = true) : (∀ j u, [v][j]? = some u → (w.alloc (.cells #[v] 5)).cell? ((⟨w.heap.size, 0, none⟩ : Addr).add j) = some u) ∧ ∀ u ∈ [v], u.oneCell' = true := by
  refine ⟨fun j u hj => ?_, fun u hu => ?_⟩
  · match j, hj with
    | 0, hj => simp at hj; subst hj; simp [Addr.add]
  · simp at hu; subst hu; exact hv _ rfl

set_option maxHeartbeats 1600000 in
theorem join3_any (a0 a1 a2 : Option Addr) (n0 c0 n1 c1 n2 c2 : Nat) (d0 d1 d2 : Nat → Int) (w : World) (h0 : Seq w.heap.size w a0 n0 (By d0)) (h1 : Seq w.heap.size w a1 n1 (By d1)) (h2 : Seq w.heap.size w a2 n2 (By d2))
    (hn0 : n0 ≤ 1048576) (hn1 : n1 ≤ 1048576) (hn2 : n2 ≤ 1048576) :
    Calls Try.prog 11 #[.slice a0 n0 c0, .slice a1 n1 c1, .slice a2 n2 c2] w fun e w' => ∃ a, e = .returned (.slice a (n0 + n1 + n2) (n0 + n1 + n2)) ∧ Seq w'.heap.size w' a (n0 + n1 + n2) (By (cat3 d0 d1 d2 n0 n1)) ∧ Below w.heap.size w w' := by
  obtain ⟨i0, hi, hz0, hz1, hz2⟩ := info_parts Try.info5
  go_enter Try.func11, Try.ntmps11
  go_wp2_with (at_make; refine wpList_make_own _ rfl _ _ 22 rfl w.heap.size 5 i0 (.int .u8 0) 1 Try.underlying22 hi hz0 hz1 _ _ _ (n0 + n1 + n2) rfl rfl (by omega) ?b1 ?b2 ?b3 ?_)
  case b1 => rw [hz2]; omega
  case b2 => unfold maxLen; omega
  case b3 => exact Nat.le_refl _
  intro w1 hown hgrow
  have hO : Outs w w1 w.heap.size 0 (n0 + n1 + n2) (By (cat3 d0 d1 d2 n0 n1)) := ⟨by simpa using hown, (Below.refl _ _).grown hgrow (Nat.le_refl _) (fun k h => by cases h)⟩
  clear hown hgrow
  go_wp2
  go_loopg [7, 8] n0 (fun k o i wr => ∃ p : Nat, p + k = n0 ∧ i = .int .i64 p ∧ o = .slice (some ⟨w.heap.size, 0, none⟩) (p) (n0 + n1 + n2) ∧ Outs w wr w.heap.size (p) (n0 + n1 + n2) (By (cat3 d0 d1 d2 n0 n1)))
  case atStart => exact ⟨0, by omega, rfl, rfl, hO⟩
  case round =>
    clear hO
    obtain ⟨p, hpk, rfl, rfl, hO⟩ := hrel
    by_cases hlt : p < n0
    · obtain ⟨b, off, rfl, hbs, hc⟩ := h0 (by omega)
      have hcp : wr.cell? ⟨b, off + p, none⟩ = some (.int .u8 (d0 p)) := (hO.below.cell (p := ⟨b, off + p, none⟩) hbs).trans (hc p hlt)
      have HU : Hid (By (cat3 d0 d1 d2 n0 n1) (p) = .int .u8 (d0 p)) := by show _ = _; rw [By, cat3_0 hlt]
      clear hc h0 h1 h2
      have o1 := one_new (w := wr) (v := .int .u8 (d0 p)) (fun b h => by rw [← h]; rfl)
      go_wp2_with (at_builtin; refine wpList_append_fits _ rfl _ _ 22 rfl w.heap.size 5 i0 1 Try.underlying22 hi hz1 w.heap.size (p) (n0 + n1 + n2) _ rfl (hO.own.alloc _) ⟨wr.heap.size, 0, none⟩ 1 1 [.int .u8 (d0 p)] rfl rfl ?c1 ?c2 ?c3 ?_)
      case c1 => exact o1.1
      case c2 => exact o1.2
      case c3 => omega
      intro w' ho hg
      have hO' := hO.next (Nat.le_refl _) HU.out ho hg
      clear ho hg hO o1
      go_wp2
      go_roundg (gk - 1)
      case measure => omega
      case rel => exact ⟨p + 1, by omega, by go_num, rfl, hO'⟩
    · obtain rfl : n0 = p := by omega
      clear hlt hpk
      go_wp2
      go_loopg [7, 9] n1 (fun k o i wr => ∃ p : Nat, p + k = n1 ∧ i = .int .i64 p ∧ o = .slice (some ⟨w.heap.size, 0, none⟩) (n0 + p) (n0 + n1 + n2) ∧ Outs w wr w.heap.size (n0 + p) (n0 + n1 + n2) (By (cat3 d0 d1 d2 n0 n1)))
      case atStart => exact ⟨0, by omega, rfl, rfl, hO⟩
      case round =>
        clear hO
        obtain ⟨p, hpk, rfl, rfl, hO⟩ := hrel
        by_cases hlt : p < n1
        · obtain ⟨b, off, rfl, hbs, hc⟩ := h1 (by omega)
          have hcp : wr.cell? ⟨b, off + p, none⟩ = some (.int .u8 (d1 p)) := (hO.below.cell (p := ⟨b, off + p, none⟩) hbs).trans (hc p hlt)
          have HU : Hid (By (cat3 d0 d1 d2 n0 n1) (n0 + p) = .int .u8 (d1 p)) := by show _ = _; rw [By, cat3_1 hlt]
          clear hc h1 h2
          have o1 := one_new (w := wr) (v := .int .u8 (d1 p)) (fun b h => by rw [← h]; rfl)
          go_wp2_with (at_builtin; refine wpList_append_fits _ rfl _ _ 22 rfl w.heap.size 5 i0 1 Try.underlying22 hi hz1 w.heap.size (n0 + p) (n0 + n1 + n2) _ rfl (hO.own.alloc _) ⟨wr.heap.size, 0, none⟩ 1 1 [.int .u8 (d1 p)] rfl rfl ?c1 ?c2 ?c3 ?_)
          case c1 => exact o1.1
          case c2 => exact o1.2
          case c3 => omega
          intro w' ho hg
          have hO' := hO.next (Nat.le_refl _) HU.out ho hg
          clear ho hg hO o1
          go_wp2
          go_roundg (gk - 1)
          case measure => omega
          case rel => exact ⟨p + 1, by omega, by go_num, rfl, hO'⟩
        · obtain rfl : n1 = p := by omega
          clear hlt hpk
          go_wp2
          go_loopg [7, 10] n2 (fun k o i wr => ∃ p : Nat, p + k = n2 ∧ i = .int .i64 p ∧ o = .slice (some ⟨w.heap.size, 0, none⟩) (n0 + n1 + p) (n0 + n1 + n2) ∧ Outs w wr w.heap.size (n0 + n1 + p) (n0 + n1 + n2) (By (cat3 d0 d1 d2 n0 n1)))
          case atStart => exact ⟨0, by omega, rfl, rfl, hO⟩
          case round =>
            clear hO
            obtain ⟨p, hpk, rfl, rfl, hO⟩ := hrel
            by_cases hlt : p < n2
            · obtain ⟨b, off, rfl, hbs, hc⟩ := h2 (by omega)
              have hcp : wr.cell? ⟨b, off + p, none⟩ = some (.int .u8 (d2 p)) := (hO.below.cell (p := ⟨b, off + p, none⟩) hbs).trans (hc p hlt)
              have HU : Hid (By (cat3 d0 d1 d2 n0 n1) (n0 + n1 + p) = .int .u8 (d2 p)) := by show _ = _; rw [By, cat3_2]
              clear hc h2
              have o1 := one_new (w := wr) (v := .int .u8 (d2 p)) (fun b h => by rw [← h]; rfl)
              go_wp2_with (at_builtin; refine wpList_append_fits _ rfl _ _ 22 rfl w.heap.size 5 i0 1 Try.underlying22 hi hz1 w.heap.size (n0 + n1 + p) (n0 + n1 + n2) _ rfl (hO.own.alloc _) ⟨wr.heap.size, 0, none⟩ 1 1 [.int .u8 (d2 p)] rfl rfl ?c1 ?c2 ?c3 ?_)
              case c1 => exact o1.1
              case c2 => exact o1.2
              case c3 => omega
              intro w' ho hg
              have hO' := hO.next (Nat.le_refl _) HU.out ho hg
              clear ho hg hO o1
              go_wp2
              go_roundg (gk - 1)
              case measure => omega
              case rel => exact ⟨p + 1, by omega, by go_num, rfl, hO'⟩
            · obtain rfl : n2 = p := by omega
              go_wp2
              go_ret
              exact ⟨_, rfl, hO.seq, hO.below⟩
end Go.Proofs.Qxb6618116a
