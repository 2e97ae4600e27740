import Derived.Test.Qxb6618233aWalkL
import Derived.Test.Qxb6618233aListsB
namespace Go.Proofs.Qxb6618233a
open Go.RowKit

/-! ### (*unicastList).take -/
theorem take_none (l o : Nat) (w : World) (h2 : w.cell? ⟨o, 2, none⟩ = some (.int .i64 0)) :
    Calls Try.prog 16 #[.pointer (some ⟨l, 0, none⟩), .pointer (some ⟨o, 0, none⟩)] w fun e w' => e = .returned (.tuple #[]) ∧ w = w' := by
  go_enter Try.func16, Try.ntmps16
  go_wp2
  refine bodyPost_ret (results_none rfl _ _ _) rfl ?_
  exact ⟨rfl, rfl⟩

set_option maxHeartbeats 1600000 in
theorem take_first (l o m' g k : Nat) (w : World) (hlo : l ≠ o) (hm : m' ≤ 1048576) (l0 : w.cell? ⟨l, 0, none⟩ = some (.pointer none)) (l1 : w.cell? ⟨l, 1, none⟩ = some (.pointer none)) (l2 : w.cell? ⟨l, 2, none⟩ = some (.int .i64 0)) (lf : ∀ i, w.frozen? ⟨l, i, none⟩ = false)
    (o0 : w.cell? ⟨o, 0, none⟩ = some (.pointer (some ⟨g, 0, none⟩))) (o1 : w.cell? ⟨o, 1, none⟩ = some (.pointer (some ⟨k, 0, none⟩))) (o2 : w.cell? ⟨o, 2, none⟩ = some (.int .i64 ((m' : Int) + 1))) (of : ∀ i, w.frozen? ⟨o, i, none⟩ = false) :
    Calls Try.prog 16 #[.pointer (some ⟨l, 0, none⟩), .pointer (some ⟨o, 0, none⟩)] w fun e w' => e = .returned (.tuple #[]) ∧ Six w w' ⟨l, 0, none⟩ g k ((m' : Int) + 1) l o := by
  have hb : ((m' : Int) + 1 == 0) = false := by simp; omega
  have hol : o ≠ l := fun e => hlo e.symm
  go_enter Try.func16, Try.ntmps16
  go_wp2
  go_region
  all_goals go_wp2
  all_goals go_end0
  all_goals exact ⟨rfl, (six_mk ⟨_, l0⟩ ⟨_, l1⟩ ⟨_, l2⟩ ⟨_, o0⟩ ⟨_, o1⟩ ⟨_, o2⟩ g k _).drawn1⟩

set_option maxHeartbeats 1600000 in
theorem take_more (l o m m' e0 g k : Nat) (w : World) (hlo : l ≠ o) (hm0 : m ≤ 1048576) (hm : m' ≤ 1048576) (l1 : w.cell? ⟨l, 1, none⟩ = some (.pointer (some ⟨e0, 0, none⟩))) (l2 : w.cell? ⟨l, 2, none⟩ = some (.int .i64 ((m : Int) + 1))) (lf : ∀ i, w.frozen? ⟨l, i, none⟩ = false)
    (e6 : w.cell? ⟨e0, 6, none⟩ = some (.pointer none)) (ef : w.frozen? ⟨e0, 6, none⟩ = false)
    (o0 : w.cell? ⟨o, 0, none⟩ = some (.pointer (some ⟨g, 0, none⟩))) (o1 : w.cell? ⟨o, 1, none⟩ = some (.pointer (some ⟨k, 0, none⟩))) (o2 : w.cell? ⟨o, 2, none⟩ = some (.int .i64 ((m' : Int) + 1))) (of : ∀ i, w.frozen? ⟨o, i, none⟩ = false) :
    Calls Try.prog 16 #[.pointer (some ⟨l, 0, none⟩), .pointer (some ⟨o, 0, none⟩)] w fun e w' => e = .returned (.tuple #[]) ∧ Six w w' ⟨e0, 6, none⟩ g k ((m : Int) + 1 + ((m' : Int) + 1)) l o := by
  have hb : ((m' : Int) + 1 == 0) = false := by simp; omega
  have hol : o ≠ l := fun e => hlo e.symm
  go_enter Try.func16, Try.ntmps16
  go_wp2
  go_region
  all_goals go_wp2
  all_goals go_region
  all_goals go_wp2
  all_goals go_end0
  all_goals exact ⟨rfl, (six_mk ⟨_, e6⟩ ⟨_, l1⟩ ⟨_, l2⟩ ⟨_, o0⟩ ⟨_, o1⟩ ⟨_, o2⟩ g k _).drawn1.drawn1⟩
end Go.Proofs.Qxb6618233a
