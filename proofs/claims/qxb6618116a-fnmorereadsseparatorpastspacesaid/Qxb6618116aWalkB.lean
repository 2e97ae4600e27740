import Derived.Test.Qxb6618116aWalkA
namespace Go.Proofs.Qxb6618116a
open Go.RowKit

/-! ### (*walker).skipString, ZZSkipString -/
/-- The walker's four cells at block g. -/
structure Wk (w : World) (g : Nat) (a : Option Addr) (n c : Nat) (p : Nat) (mx : Int) (l : Bool) : Prop where
  data : w.cell? ⟨g, 0, none⟩ = some (.slice a n c)
  place : w.cell? ⟨g, 1, none⟩ = some (.int .i64 p)
  items : w.cell? ⟨g, 2, none⟩ = some (.int .i64 mx)
  lines : w.cell? ⟨g, 3, none⟩ = some (.bool l)
  free : w.frozen? ⟨g, 1, none⟩ = false

theorem Wk.step {w : World} {g : Nat} {a : Option Addr} {n c p : Nat} {mx : Int} {l : Bool} (h : Wk w g a n c p mx l) (q : Nat) : Wk (w.setCell ⟨g, 1, none⟩ (.int .i64 q)) g a n c q mx l := by
  refine ⟨?_, ?_, ?_, ?_, ?_⟩
  · rw [World.cell?_setCell_other _ _ _ _ (by simp)]; exact h.data
  · exact World.cell?_setCell_same' _ _ _ (by simp [h.place])
  · rw [World.cell?_setCell_other _ _ _ _ (by simp)]; exact h.items
  · rw [World.cell?_setCell_other _ _ _ _ (by simp)]; exact h.lines
  · simp [h.free]

theorem Wk.drawn {w : World} {g : Nat} {a : Option Addr} {n c p : Nat} {mx : Int} {l : Bool} (h : Wk w g a n c p mx l) (q : Nat) : Wk (w.drewN q) g a n c p mx l :=
  ⟨h.data, h.place, h.items, h.lines, h.free⟩

theorem Wk.stepI {w : World} {g : Nat} {a : Option Addr} {n c p : Nat} {mx : Int} {l : Bool} (h : Wk w g a n c p mx l) {q : Nat} {z : Int} (hz : z = (q : Int)) : Wk (w.setCell ⟨g, 1, none⟩ (.int .i64 z)) g a n c q mx l := by
  subst hz; exact h.step q

theorem below_drewN' {B : Nat} {a w : World} (h : Below B a w) (q : Nat) : Below B a (w.drewN q) := ⟨h.os, h.tape, h.output, h.size, h.block⟩

set_option maxHeartbeats 800000 in
theorem skipString_any (g : Nat) (a : Option Addr) (n c s Q : Nat) (mx : Int) (l : Bool) (d : Nat → Int) (w : World) (hs : Seq g w a n (By d)) (hn : n ≤ 1048576) (hq : Plain.FirstQ d n s Q) (hw : Wk w g a n c s mx l) :
    Calls Try.prog 18 #[.pointer (some ⟨g, 0, none⟩)] w fun e w' => e = .returned (.tuple #[]) ∧ Wk w' g a n c (Q + 1) mx l ∧ Below g w w' := by
  have hQ1 := hq.lo
  have hQ2 := hq.hi
  obtain ⟨b, off, rfl, hbs, hc⟩ := hs (by omega)
  replace hc : ∀ i, i < n → w.cell? ⟨b, off + i, none⟩ = some (.int .u8 (d i)) := hc
  clear hs
  obtain ⟨h0, h1, h2, h3, h4⟩ := id hw
  go_enter Try.func18, Try.ntmps18
  go_wp2
  go_loopg [] (Q + 1) (fun k wr => ∃ p : Nat, p + k = Q + 2 + s ∧ Plain.Reads d s Q p ∧ Wk wr g (some ⟨b, off, none⟩) n c p mx l ∧ Below g w wr)
  case atStart => exact ⟨s + 1, by omega, Plain.reads_start hq, by have := hw.step (s + 1); simpa using this, (Below.refl _ _).setCell (by exact Nat.le_refl _) _⟩
  case round =>
    clear h0 h1 h2 h3 h4 hw
    obtain ⟨p, hpk, hR, hW, hB⟩ := hrel
    have hp1 := hR.lo
    have hp2 := hR.hi
    replace hc : ∀ i, i < n → wr.cell? ⟨b, off + i, none⟩ = some (.int .u8 (d i)) := fun i hi => (hB.cell (p := ⟨b, off + i, none⟩) hbs).trans (hc i hi)
    obtain ⟨h0, h1, h2, h3, h4⟩ := id hW
    have hpn : (p : Int) < (n : Int) := by omega
    have hcp := hc p (by omega)
    by_cases hp : d p = 34
    · have hpb : (d p != 34) = false := by simp [hp]
      have HQ : Hid (p = Q) := Plain.reads_end hq hR hp
      clear hp
      go_wp2
      go_quiet (fail)
      go_wp2
      go_end0
      refine ⟨rfl, ?_, ?_⟩
      · exact (hW.drawn nq).stepI (by have := HQ.out; omega)
      · exact (below_drewN' hB nq).setCell (by exact Nat.le_refl _) _
    · have hpb : (d p != 34) = true := by simp [hp]
      have hlt := Plain.reads_lt hq hR hp
      by_cases hb : d p = 92
      · have hbb : (d p == 92) = true := by simp [hb]
        have hR' := Plain.reads_escaped hq hR hb
        clear hp hb
        go_wp2
        go_quiet (fail)
        go_wp2
        go_quiet (fail)
        go_wp2
        go_roundg (gk - 2)
        case measure => omega
        case rel =>
          refine ⟨p + 1 + 1, by omega, hR', ?_, ?_⟩
          · exact ((hW.drawn _).stepI (q := p + 1) (by omega)).stepI (by omega)
          · exact ((below_drewN' hB _).setCell (by exact Nat.le_refl _) _).setCell (by exact Nat.le_refl _) _
      · have hbb : (d p == 92) = false := by simp [hb]
        have hR' := Plain.reads_plain hq hR hp hb
        clear hp hb
        go_wp2
        go_quiet (fail)
        go_wp2
        go_quiet (fail)
        go_wp2
        go_roundg (gk - 1)
        case measure => omega
        case rel =>
          refine ⟨p + 1, by omega, hR', ?_, ?_⟩
          · exact (hW.drawn _).stepI (by omega)
          · exact (below_drewN' hB _).setCell (by exact Nat.le_refl _) _

/-! ### ZZSkipString -/
theorem below_new (w : World) (o : Obj) : Below w.heap.size w (w.alloc o) := (Below.refl _ _).alloc (Nat.le_refl _) o

theorem wk_new (w : World) (a : Option Addr) (n c s : Nat) (mx : Int) (l : Bool) : Wk (w.alloc (.cells #[.slice a n c, .int .i64 s, .int .i64 mx, .bool l] 37)) w.heap.size a n c s mx l :=
  ⟨by simp, by simp, by simp, by simp, by simp⟩

set_option maxHeartbeats 800000 in
theorem zzSkipString_any (a : Option Addr) (n c s Q : Nat) (mx : Int) (l : Bool) (d : Nat → Int) (w : World) (hs : Seq w.heap.size w a n (By d)) (hn : n ≤ 1048576) (hq : Plain.FirstQ d n s Q) :
    Calls Try.prog 9 #[.slice a n c, .int .i64 s, .int .i64 mx, .bool l] w fun e w' => e = .returned (.tuple #[.int .i64 ((Q : Int) + 1), .int .i64 mx, .bool l]) ∧ Below w.heap.size w w' := by
  go_enter Try.func9, Try.ntmps9
  go_wp2_with fail
  refine (skipString_any w.heap.size a n c s Q mx l d _ (hs.below (below_new w _) (Nat.le_refl _)) hn hq (wk_new w a n c s mx l)).mono ?_
  rintro e w' ⟨rfl, hW, hB⟩
  obtain ⟨h0, h1, h2, h3, h4⟩ := hW
  go_wp2
  go_quiet (fail)
  go_wp2
  go_ret3
  exact ⟨by simp, (below_new w _).trans (below_drewN' hB _)⟩

theorem zzSkipString_at (a : Option Addr) (n c s Q : Nat) (z zQ : Int) (hz : z = (s : Int)) (hQ : zQ = (Q : Int) + 1) (mx : Int) (l : Bool) (d : Nat → Int) (w : World) (hs : Seq w.heap.size w a n (By d)) (hn : n ≤ 1048576) (hq : Plain.FirstQ d n s Q) :
    Calls Try.prog 9 #[.slice a n c, .int .i64 z, .int .i64 mx, .bool l] w fun e w' => e = .returned (.tuple #[.int .i64 zQ, .int .i64 mx, .bool l]) ∧ Below w.heap.size w w' := by
  subst hz; subst hQ
  exact zzSkipString_any a n c s Q mx l d w hs hn hq
end Go.Proofs.Qxb6618116a
