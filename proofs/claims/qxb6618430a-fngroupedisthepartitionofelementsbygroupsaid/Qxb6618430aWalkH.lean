import Derived.Test.Qxb6618430aWalkG
namespace Go.Proofs.Qxb6618430a
open Go.RowKit
attribute [local go_sem ↓] Go.wp_at_zero Go.wp_at_succ

set_option maxRecDepth 100000 in
set_option maxHeartbeats 3200000 in
theorem zz_any (a0 a1 a2 a3 : Option Addr) (n0 c0 ne c1 nd c2 n3 c3 n : Nat) (s3 : ByteArray) (vs : Nat → ByteArray) (el gr : Nat → Int) (w : World) (hn : n ≤ 65536) (hne : ne ≤ 65536) (hnd : nd ≤ 65536) (hg3 : ne ≤ n3) (hc1 : ne ≤ c1)
    (s0 : Seq w.heap.size w a0 n0 (St vs)) (s1 : Seq w.heap.size w a1 ne (In el)) (s2 : Seq w.heap.size w a3 n3 (In gr))
    (hel : ∀ k, k < ne → 0 ≤ el k ∧ el k < (n0 : Int)) (hup : ∀ k, k + 1 < ne → el k < el (k + 1)) (hgr : ∀ k, k < ne → 0 ≤ gr k ∧ gr k < (n : Int)) :
    Calls Try.prog 5 #[.slice a0 n0 c0, .slice a1 ne c1, .slice a2 nd c2, .string s3, .slice a3 n3 c3, .int .i64 n] w fun e w' => (∃ m v ws o, e = .returned (.tuple #[m, v, ws, o]) ∧ Answer w' n ne nd gr el vs m v ws o) ∧ Below w.heap.size w w' := by
  have KEY := hide (grouped_any a0 a1 a2 a3 n0 c0 ne c1 nd c2 n3 c3 n s3 vs el gr w hn hne hnd hg3 hc1 s0 s1 s2 hel hup hgr)
  clear s0 s1 s2 hel hup hgr
  go_enter Try.func5, Try.ntmps5
  go_wp2_with fail
  refine KEY.out.mono ?_
  rintro _ w1 ⟨⟨m, v, ws, o, rfl, hA⟩, hB⟩
  have HA := hide hA
  obtain ⟨gm, gv, gw, Mv, ao, co, rfl, rfl, rfl, rfl, _⟩ := hA.at_
  clear hA
  go_wp2
  go_quiet (fail)
  go_wp2
  refine bodyPost_ret (v := .tuple #[.slice (some ⟨gm, 0, none⟩) (Plain.top gr ne n) n, .slice (some ⟨gv, 0, none⟩) (Plain.top gr ne n) n, .slice (some ⟨gw, 0, none⟩) (Plain.top gr ne n) n, .slice ao (Plain.oth el ne nd).length co]) (by simp [results, Try.results5, go_sem]) rfl ?_
  have hb2 := below_drewN' (below_new w1 (.cells #[.slice (some ⟨gm, 0, none⟩) (Plain.top gr ne n) n, .slice (some ⟨gv, 0, none⟩) (Plain.top gr ne n) n, .slice (some ⟨gw, 0, none⟩) (Plain.top gr ne n) n, .slice ao (Plain.oth el ne nd).length co] 30))
  refine ⟨⟨_, _, _, _, rfl, HA.out.below (hb2 _)⟩, hB.trans ?_⟩
  exact (hb2 _).mono hB.size
end Go.Proofs.Qxb6618430a
