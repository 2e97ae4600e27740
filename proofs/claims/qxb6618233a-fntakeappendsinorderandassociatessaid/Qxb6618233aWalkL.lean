import Derived.Test.Qxb6618233aWalkA
import Derived.Test.Qxb6618233aLists
import Derived.RegionTactic
import Derived.BigRegion
namespace Go.Proofs.Qxb6618233a
open Go.RowKit

theorem Try.info34 : (Try.prog.info? 34).map (fun i => (i.zero, i.size, i.bytes)) = some (some (.int .u64 0), 1, 8) := by kernel_rfl
theorem Try.size34 : (Try.prog.info? 34).map (·.size) = some 1 := by kernel_rfl

/-- A row of numbers. -/
def U (d : Nat → Int) (i : Nat) : Value := .int .u64 (d i)
theorem u_one (d : Nat → Int) (i : Nat) : (U d i).oneCell' = true := rfl

/-! ### ZZNewList -/
/-- A new node's block. -/
abbrev node (x : Int) : Obj := .cells #[.slice none 0 0, .slice none 0 0, .slice none 0 0, .int .u64 x, .int .i64 0, .int .u64 0, .pointer none, .pointer none, .int .u16 0, .int .u16 0, .bool false, .bool false] 44

theorem sets_alloc (w : World) (o : Obj) (b1 i1 b2 i2 b3 i3 : Nat) (v1 v2 v3 : Value) (h1 : b1 < w.heap.size) (h2 : b2 < w.heap.size) (h3 : b3 < w.heap.size) :
    ((((w.setCell ⟨b1, i1, none⟩ v1).setCell ⟨b2, i2, none⟩ v2).setCell ⟨b3, i3, none⟩ v3).alloc o) = ((((w.alloc o).setCell ⟨b1, i1, none⟩ v1).setCell ⟨b2, i2, none⟩ v2).setCell ⟨b3, i3, none⟩ v3) := by
  rw [World.setCell_alloc_past o b1 i1 v1 h1, World.setCell_alloc_past o b2 i2 v2 (by simpa using h2), World.setCell_alloc_past o b3 i3 v3 (by simpa using h3)]

theorem node_first {w : World} {l : Nat} {d : Nat → Int} {z : Int} (h : Lst w l 0 (fun i => l + 1 + i) d) (hsz : w.heap.size = l + 1 + 0) (hz : z = 1) :
    Lst ((((w.setCell ⟨l, 0, none⟩ (.pointer (some ⟨w.heap.size, 0, none⟩))).setCell ⟨l, 1, none⟩ (.pointer (some ⟨w.heap.size, 0, none⟩))).setCell ⟨l, 2, none⟩ (.int .i64 z)).alloc (node (d 0))) l 1 (fun i => l + 1 + i) d := by
  rw [sets_alloc _ _ _ _ _ _ _ _ _ _ _ (by omega) (by omega) (by omega)]
  refine lst_first (h.below (below_new w _) (by omega) (fun i hi => by omega)) (by omega) ?_ ?_ ?_ z hz
  · simp
  · simp
  · simp

theorem node_more {w : World} {l m : Nat} {d : Nat → Int} {z : Int} (h : Lst w l (m + 1) (fun i => l + 1 + i) d) (hsz : w.heap.size = l + 1 + (m + 1)) (hz : z = (m : Int) + 1 + 1) :
    Lst ((((w.setCell ⟨l + 1 + m, 6, none⟩ (.pointer (some ⟨w.heap.size, 0, none⟩))).setCell ⟨l, 1, none⟩ (.pointer (some ⟨w.heap.size, 0, none⟩))).setCell ⟨l, 2, none⟩ (.int .i64 z)).alloc (node (d (m + 1)))) l (m + 1 + 1) (fun i => l + 1 + i) d := by
  rw [sets_alloc _ _ _ _ _ _ _ _ _ _ _ (by omega) (by omega) (by omega)]
  refine lst_more (h.below (below_new w _) (by omega) (fun i hi => by omega)) (by omega) rfl (by omega) (fun i hi => by omega) ?_ ?_ ?_ z hz
  · simp
  · simp
  · simp

theorem below_sets {w w0 : World} {B b1 i1 b2 i2 b3 i3 : Nat} {v1 v2 v3 : Value} {o : Obj} (h : Below B w0 w) (hB : B ≤ w.heap.size) (h1 : B ≤ b1) (h2 : B ≤ b2) (h3 : B ≤ b3) : Below B w0 ((((w.setCell ⟨b1, i1, none⟩ v1).setCell ⟨b2, i2, none⟩ v2).setCell ⟨b3, i3, none⟩ v3).alloc o) :=
  (((h.setCell (p := ⟨b1, i1, none⟩) h1 _).setCell (p := ⟨b2, i2, none⟩) h2 _).setCell (p := ⟨b3, i3, none⟩) h3 _).alloc (by simpa using hB) _

theorem lst_new (w : World) (d : Nat → Int) : Lst (w.alloc (.cells #[.pointer none, .pointer none, .int .i64 0] 37)) w.heap.size 0 (fun i => w.heap.size + 1 + i) d :=
  ⟨by simp [ptr], by simp [ptr], by simp, fun o => by simp, fun i hi => by omega, fun i hi => by omega, fun i hi => by omega⟩

set_option maxHeartbeats 1600000 in
theorem newList_any (a : Option Addr) (n c : Nat) (d : Nat → Int) (w : World) (hs : Seq w.heap.size w a n (U d)) (hn : n ≤ 1048576) :
    Calls Try.prog 12 #[.slice a n c] w fun e w' => e = .returned (.pointer (some ⟨w.heap.size, 0, none⟩)) ∧ Lst w' w.heap.size n (fun i => w.heap.size + 1 + i) d ∧ w'.heap.size = w.heap.size + 1 + n ∧ Below w.heap.size w w' := by
  go_enter Try.func12, Try.ntmps12
  go_wp2
  go_loopg [4] n (fun k i wr => ∃ p : Nat, p + k = n ∧ i = .int .i64 p ∧ Lst wr w.heap.size p (fun i => w.heap.size + 1 + i) d ∧ wr.heap.size = w.heap.size + 1 + p ∧ Below w.heap.size w wr)
  case atStart => exact ⟨0, by omega, rfl, lst_new w d, by simp, below_new w _⟩
  case round =>
    obtain ⟨p, hpk, rfl, hL, hsz, hB⟩ := hrel
    have HZ := hide hsz
    clear hsz
    by_cases hlt : p < n
    · obtain ⟨b, off, rfl, hbs, hc⟩ := hs (by omega)
      have hcp : wr.cell? ⟨b, off + p, none⟩ = some (.int .u64 (d p)) := (hB.cell (p := ⟨b, off + p, none⟩) hbs).trans (hc p hlt)
      have hBs : w.heap.size < wr.heap.size := by have := HZ.out; omega
      clear hc hs
      cases p with
      | zero =>
        rw [Nat.add_zero] at hcp
        have h1 : wr.cell? ⟨w.heap.size, 1, none⟩ = some (.pointer none) := hL.last
        have h0 : wr.cell? ⟨w.heap.size, 0, none⟩ = some (.pointer none) := hL.first
        have h2 : wr.cell? ⟨w.heap.size, 2, none⟩ = some (.int .i64 0) := hL.count
        have hf := hL.free
        go_wp2
        go_roundg (gk - 1)
        case measure => omega
        case rel =>
          refine ⟨1, by omega, by go_num, ?_, ?_, ?_⟩
          · exact node_first hL HZ.out (by omega)
          · simp [HZ.out]
          · exact below_sets hB (by omega) (by omega) (by omega) (by omega)
      | succ q =>
        have h1 : wr.cell? ⟨w.heap.size, 1, none⟩ = some (.pointer (some ⟨w.heap.size + 1 + q, 0, none⟩)) := hL.last
        have h2 : wr.cell? ⟨w.heap.size, 2, none⟩ = some (.int .i64 ((q : Int) + 1)) := hL.count
        have h6 : wr.cell? ⟨w.heap.size + 1 + q, 6, none⟩ = some (ptr (q + 1 < q + 1) (w.heap.size + 1 + (q + 1))) := hL.next q (by omega)
        have hq : w.heap.size + 1 + q < wr.heap.size := by have := HZ.out; omega
        have hf := hL.free
        have hf6 := hL.nfree q (by omega)
        go_wp2
        go_roundg (gk - 1)
        case measure => omega
        case rel =>
          refine ⟨q + 1 + 1, by omega, by go_num, ?_, ?_, ?_⟩
          · exact node_more hL HZ.out (by omega)
          · simp [HZ.out]; omega
          · exact below_sets hB (by omega) (by omega) (by omega) (by omega)
    · obtain rfl : n = p := by omega
      go_wp2
      go_ret
      exact ⟨rfl, hL, HZ.out, hB⟩
end Go.Proofs.Qxb6618233a
