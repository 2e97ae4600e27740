import Derived.Test.Qxb6618430aWalkA
import Derived.Test.Qxb6618430aGroupsB
namespace Go.Proofs.Qxb6618430a
open Go.RowKit
attribute [local go_sem ↓] Go.wp_at_zero Go.wp_at_succ

/-- The append, held: so that the walk takes it by the run equation that is laid in the context. -/
def held (ts : Array TypeId) (t : TypeId) (vs : Array Value) : Sem Value := Builtin.append_ ts t vs
theorem held_append (ts : Array TypeId) (t : TypeId) (vs : Array Value) : Builtin.append_ ts t vs = held ts t vs := rfl
attribute [local go_sem ↓] held_append

theorem wrap_ok (x : Int) (h : -9223372036854775808 ≤ x ∧ x ≤ 9223372036854775807) : IntKind.i64.wrap x = x := by
  rw [IntKind.wrap_i64]
  omega
theorem GT.set {w : World} {base gm gv gw n b i : Nat} {Mv : Nat → Value} {gr el : Nat → Int} {vs : Nat → ByteArray} {ne : Nat} (h : GT w base gm gv gw n Mv gr el vs ne) (hb : b < base) (h1 : gm ≠ b) (h2 : gv ≠ b) (h3 : gw ≠ b) (u : Value) : GT (w.setCell ⟨b, i, none⟩ u) base gm gv gw n Mv gr el vs ne :=
  ⟨h.row.other h1 u, fun m hm => ownsRow_setCell_below (h.own m hm) (a := ⟨b, i, none⟩) hb u, h.vals.other h2 u, h.ws.other h3 u⟩
def lastEmpty (gr : Nat → Int) (ne n : Nat) : Bool := decide (0 < n ∧ Plain.cnt gr (n - 1) ne = 0)
theorem size6 (w : World) (a b c d e f : Obj) : ((((((w.alloc a).alloc b).alloc c).alloc d).alloc e).alloc f).drew.heap.size = w.heap.size + 6 := by
  show ((((((w.alloc a).alloc b).alloc c).alloc d).alloc e).alloc f).heap.size = _
  simp
theorem below6 (w : World) (a b c d e f : Obj) : Below w.heap.size w ((((((w.alloc a).alloc b).alloc c).alloc d).alloc e).alloc f).drew :=
  (((((((Below.refl _ _).alloc (Nat.le_refl _) a).alloc (by simp) b).alloc (by simp; omega) c).alloc (by simp; omega) d).alloc (by simp; omega) e).alloc (by simp; omega) f).drew
theorem hp_at (w : World) (o : Obj) {k : Nat} (h : k = w.heap.size) : (w.alloc o).heap[k]? = some o := by
  subst h; exact heap_alloc_new w o
theorem hp_past (w : World) (o : Obj) {k : Nat} (h : k < w.heap.size) : (w.alloc o).heap[k]? = w.heap[k]? := (below_new w o).block k h
theorem hp_drew (w : World) (k : Nat) : w.drew.heap[k]? = w.heap[k]? := rfl
theorem row_blk {w : World} {g : Nat} {e : TypeId} {n : Nat} {f : Nat → Value} {cs : Array Value} (h : w.heap[g]? = some (.cells cs e (0, 0))) (hc : cs.size = n ∧ ∀ i, i < n → cs[i]? = some (f i)) : Row w g e n f n := ⟨cs, h, hc.1, hc.2⟩

set_option maxRecDepth 100000 in
set_option maxHeartbeats 3200000 in
theorem grouped_any (a0 a1 a2 a3 : Option Addr) (n0 c0 ne c1 nd c2 n3 c3 n : Nat) (s3 : ByteArray) (vs : Nat → ByteArray) (el gr : Nat → Int) (w : World) (hn : n ≤ 65536) (hne : ne ≤ 65536) (hnd : nd ≤ 65536) (hg3 : ne ≤ n3) (hc1 : ne ≤ c1)
    (s0 : Seq w.heap.size w a0 n0 (St vs)) (s1 : Seq w.heap.size w a1 ne (In el)) (s2 : Seq w.heap.size w a3 n3 (In gr))
    (hel : ∀ k, k < ne → 0 ≤ el k ∧ el k < (n0 : Int)) (hup : ∀ k, k + 1 < ne → el k < el (k + 1)) (hgr : ∀ k, k < ne → 0 ≤ gr k ∧ gr k < (n : Int)) :
    Calls Try.prog 6 #[.slice a0 n0 c0, .slice a1 ne c1, .agg #[.slice a2 nd c2, .string s3], .slice a3 n3 c3, .int .i64 n] w fun e w' => (∃ m v ws o, e = .returned (.agg #[m, v, ws, o]) ∧ Answer w' n ne nd gr el vs m v ws o) ∧ Below w.heap.size w w' := by
  obtain ⟨i3, hi3, hz3, hs3, hy3⟩ := info_parts Try.info3
  obtain ⟨i9, hi9, hz9, hs9, hy9⟩ := info_parts Try.info9
  obtain ⟨i23, hi23, hz23, hs23, hy23⟩ := info_parts Try.info23
  obtain ⟨RM, hRM⟩ : ∃ RM, RM = madeCells (Value.slice none 0 0).cells n := ⟨_, rfl⟩
  obtain ⟨RV, hRV⟩ : ∃ RV, RV = madeCells (Value.string ByteArray.empty).cells n := ⟨_, rfl⟩
  obtain ⟨RW, hRW⟩ : ∃ RW, RW = madeCells (Value.int .i64 0).cells n := ⟨_, rfl⟩
  have m25 : ∀ w, (Instr.makeSlice 25 (.int .i64 n) (.int .i64 n)).run Try.prog w = .ok (.slice (some ⟨w.heap.size, 0, none⟩) n n) (w.alloc (.cells RM 23)) := fun w => by
    rw [run_make w 25 23 i23 _ Try.underlying25 hi23 hz23 .i64 .i64 n n (by omega) (by omega) (by rw [hy23]; omega) (by omega), hRM, hs23]; simp
  have m22 : ∀ w, (Instr.makeSlice 22 (.int .i64 n) (.int .i64 n)).run Try.prog w = .ok (.slice (some ⟨w.heap.size, 0, none⟩) n n) (w.alloc (.cells RV 9)) := fun w => by
    rw [run_make w 22 9 i9 _ Try.underlying22 hi9 hz9 .i64 .i64 n n (by omega) (by omega) (by rw [hy9]; omega) (by omega), hRV, hs9]; simp
  have m23 : ∀ w, (Instr.makeSlice 23 (.int .i64 n) (.int .i64 n)).run Try.prog w = .ok (.slice (some ⟨w.heap.size, 0, none⟩) n n) (w.alloc (.cells RW 3)) := fun w => by
    rw [run_make w 23 3 i3 _ Try.underlying23 hi3 hz3 .i64 .i64 n n (by omega) (by omega) (by rw [hy3]; omega) (by omega), hRW, hs3]; simp
  have HM : Hid (RM.size = n ∧ ∀ i, i < n → RM[i]? = some (.slice none 0 0)) := by rw [hRM]; exact made_row rfl n
  have HV : Hid (RV.size = n ∧ ∀ i, i < n → RV[i]? = some (.string ByteArray.empty)) := by rw [hRV]; exact made_row rfl n
  have HW : Hid (RW.size = n ∧ ∀ i, i < n → RW[i]? = some (.int .i64 0)) := by rw [hRW]; exact made_row rfl n
  have I3 := hide (And.intro hi3 (And.intro hz3 (And.intro hs3 hy3)))
  have HEL := hide hel
  have HUP := hide hup
  have HGR := hide hgr
  have HS0 := hide s0
  have HS1 := hide s1
  have HS2 := hide s2
  clear hRM hRV hRW hz3 hs3 hy3 hi9 hz9 hs9 hy9 hi23 hz23 hs23 hy23 hel hup hgr s0 s1 s2 hi3
  go_enter Try.func6, Try.ntmps6
  go_upto_region 1 with fail
  go_cut [11, 18, 20, 22] (fun x y z u wr => ∃ G gm gv gw : Nat, x = .pointer (some ⟨G, 0, none⟩) ∧ y = .slice (some ⟨gm, 0, none⟩) n n ∧ z = .slice (some ⟨gv, 0, none⟩) n n ∧ u = .slice (some ⟨gw, 0, none⟩) n n ∧ wr.heap.size = w.heap.size + 6 ∧ Geo (w.heap.size + 2) (w.heap.size + 6) G gm gv gw ∧ GI wr (w.heap.size + 6) G gm gv gw n (fun _ => .slice none 0 0) gr el vs 0 0 ∧
    Row wr w.heap.size 33 2 (f2 (.slice a2 nd c2) (.string s3)) 2 ∧ Row wr (w.heap.size + 1) 30 4 (f4 (.slice none 0 0) (.slice none 0 0) (.slice none 0 0) (.slice none 0 0)) 4 ∧ Below w.heap.size w wr)
  case first =>
    clear HEL HUP HGR HS0 HS1 HS2
    go_region
    all_goals
      go_wp2_with fail
      go_meet
      refine ⟨_, _, _, _, rfl, rfl, rfl, rfl, size6 w _ _ _ _ _ _, ⟨⟨?_, ?_, ?_, ?_⟩, ⟨?_, ?_, ?_, ?_⟩, ⟨?_, ?_, ?_, ?_, ?_, ?_⟩⟩, gi_start gr el vs (f4 := f4 (.slice (some ⟨_, 0, none⟩) n n) (.slice (some ⟨_, 0, none⟩) n n) (.slice (some ⟨_, 0, none⟩) n n) (.slice none 0 0)) (row_blk ?_ (f4_row _ _ _ _)) rfl rfl rfl rfl (row_blk ?_ HM.out) (row_blk ?_ HV.out) (row_blk ?_ HW.out), row_blk ?_ (f2_row _ _), row_blk ?_ (f4_row _ _ _ _), below6 w _ _ _ _ _ _⟩
      iterate 14 omega
      all_goals
        rw [hp_drew]
        repeat (first | (refine hp_at _ _ ?_; (simp; done)) | (refine (hp_past _ _ ?_).trans ?_; (focus (simp; done))) | (refine (hp_past _ _ ?_).trans ?_; (focus (simp; omega))))
  case rest =>
    obtain ⟨G, gm, gv, gw, rfl, rfl, rfl, rfl, hsz, ge, gi, rD, rR, hB⟩ := hcut
    clear m25 m22 m23 HM HV HW
    have hsz' : w.heap.size + 6 ≤ wc.heap.size := by omega
    obtain ⟨⟨glo1, glo2, glo3, glo4⟩, ⟨ghi1, ghi2, ghi3, ghi4⟩, ⟨gn1, gn2, gn3, gn4, gn5, gn6⟩⟩ := id ge
    clear hsz
    go_wp2_with fail
    go_loopg [26] ne (fun kk i wr => ∃ k : Nat, ∃ Mv : Nat → Value, k + kk = ne ∧ i = .int .i64 k ∧ GI wr (w.heap.size + 6) G gm gv gw n Mv gr el vs k k ∧ Row wr w.heap.size 33 2 (f2 (.slice a2 nd c2) (.string s3)) 2 ∧ Row wr (w.heap.size + 1) 30 4 (f4 (.slice none 0 0) (.slice none 0 0) (.slice none 0 0) (.slice none 0 0)) 4 ∧ w.heap.size + 6 ≤ wr.heap.size ∧ Below w.heap.size w wr)
    case atStart => exact ⟨0, _, by omega, rfl, gi, rD, rR, hsz', hB⟩
    case round =>
      clear gi rD rR hsz' hB
      obtain ⟨k, Mv, hkk, rfl, gi, rD, rR, hsz, hB⟩ := hrel
      by_cases hlt : k < ne
      · obtain ⟨eb, eo, rfl, heb, hec⟩ := HS1.out (by omega)
        obtain ⟨gb, go, rfl, hgb, hgc⟩ := HS2.out (by omega)
        have he : wr.cell? ⟨eb, eo + k, none⟩ = some (.int .i64 (el k)) := (hB.cell (p := ⟨eb, eo + k, none⟩) heb).trans (hec k hlt)
        have hg : wr.cell? ⟨gb, go + k, none⟩ = some (.int .i64 (gr k)) := (hB.cell (p := ⟨gb, go + k, none⟩) hgb).trans (hgc k (by omega))
        obtain ⟨q1, q2⟩ := HEL.out k hlt
        obtain ⟨q3, q4⟩ := HGR.out k hlt
        obtain ⟨m, hm⟩ := Int.eq_ofNat_of_zero_le q3
        obtain ⟨x, hx⟩ := Int.eq_ofNat_of_zero_le q1
        rw [hm] at hg q4
        rw [hx] at he q2
        have hmn : m < n := by omega
        have hxn : x < n0 := by omega
        have hk3 : (k : Int) < (n3 : Int) := by omega
        have HM := hide hm
        have HX := hide hx
        obtain ⟨vb, vo, rfl, hvb, hvc⟩ := HS0.out (by omega)
        have hv : wr.cell? ⟨vb, vo + x, none⟩ = some (.string (vs x)) := (hB.cell (p := ⟨vb, vo + x, none⟩) hvb).trans (hvc x hxn)
        have hw := gi.ws.cell m hmn
        replace hw : wr.cell? ⟨gw, m, none⟩ = some (.int .i64 (Plain.cnt gr m k : Int)) := hw
        obtain ⟨C, hC⟩ : ∃ C, Plain.cnt gr m k = C := ⟨_, rfl⟩
        rw [hC] at hw
        have hCk : C ≤ k := by have := Plain.cnt_le gr m k; omega
        have HC := hide hC
        obtain ⟨g0, g1, g2, g3, gf, gms, gvr, gwr⟩ := id gi
        have hvo := gi.vals.cell m hmn
        have hvf := gi.vals.free m
        clear hec hgc hvc hm hx hC q1 q3 gms gvr gwr g3
        go_upto_if 40 with fail
        go_cut [] (fun wr => GI wr (w.heap.size + 6) G gm gv gw n Mv gr el vs (k + 1) k ∧ Row wr w.heap.size 33 2 (f2 (.slice a2 nd c2) (.string s3)) 2 ∧ Row wr (w.heap.size + 1) 30 4 (f4 (.slice none 0 0) (.slice none 0 0) (.slice none 0 0) (.slice none 0 0)) 4 ∧ w.heap.size + 6 ≤ wr.heap.size ∧ Below w.heap.size w wr)
        case first =>
          by_cases h0 : C = 0
          · have h0' : ((C : Int) == 0) = true := by simp [h0]
            have H0 := hide h0
            clear h0
            go_wp2_with fail
            go_region
            all_goals
              go_wp2_with fail
              go_meet
              have hval := gi.setval ge HM.out (by rw [HC.out]; exact H0.out)
              rw [show (el k).toNat = x by rw [HX.out]; simp] at hval
              exact ⟨hval, (rD.other (by omega) _).drawn, (rR.other (by omega) _).drawn, by simpa using hsz, (hB.setCell (by show w.heap.size ≤ gv; omega) _).drew⟩
          · have h0' : ((C : Int) == 0) = false := by simp [h0]
            go_wp2_with fail
            go_meet
            exact ⟨gi.keepval HM.out (by rw [HC.out]; exact h0), rD, rR, hsz, hB⟩
        case rest =>
          clear gi rD rR hsz hB hvo hvf hv hw he hg g0 g1 g2 gf
          obtain ⟨gi, rD, rR, hsz, hB⟩ := hcut
          obtain ⟨k3, kz3, ks3, ky3⟩ := I3.out
          have hc := HC.out
          have hown := gi.ms.own m hmn
          have hlt2 := hown.lt
          obtain ⟨W1, hW1⟩ : ∃ W1, W1 = (wc.alloc (.cells #[.int .i64 x] 3)).drew := ⟨_, rfl⟩
          have hW1s : W1.heap.size = wc.heap.size + 1 := by rw [hW1]; show (wc.alloc _).heap.size = _; simp
          have hnews : W1.heap[wc.heap.size]? = some (.cells #[.int .i64 x] 3 (0, 0)) := by rw [hW1]; exact heap_alloc_new wc _
          obtain ⟨g, cap, W2, hrun, hown2, hgrow, hat, hg2⟩ := run_append_lies (P := Try.prog) W1 23 23 (w.heap.size + 6) 3 i3 (.int .i64 0) 1 8 Try.underlying23 k3 kz3 ks3 ky3 rfl (by omega) (Mv m) C ((Plain.mem gr el m k).map (Value.int .i64)) (by rw [hW1]; have := (hown.alloc (.cells #[.int .i64 x] 3)).drew; rw [Plain.mem_length, hc] at this; exact this) ⟨wc.heap.size, 0, none⟩ 1 1 [.int .i64 x] rfl (World.news_of_block hnews) (by simp [Value.oneCell']) (by omega) (by unfold maxLen; omega) (by omega) (by omega) (wc.heap.size + 1) hW1s
          have far : ∀ b, b < w.heap.size + 6 → W2.heap[b]? = wc.heap[b]? := fun b hb => (hgrow.block b (by omega) (fun e => by have := (hlt2 b e.symm).1; omega)).trans (by rw [hW1]; exact (below_new wc _).block b (by omega))
          have fc : ∀ b o, b < w.heap.size + 6 → W2.cell? ⟨b, o, none⟩ = wc.cell? ⟨b, o, none⟩ := fun b o hb => World.cell?_of_block (w := wc) (a := ⟨b, o, none⟩) (far b hb)
          have ff : ∀ b o, b < w.heap.size + 6 → W2.frozen? ⟨b, o, none⟩ = wc.frozen? ⟨b, o, none⟩ := fun b o hb => World.frozen?_of_block (w := wc) (a := ⟨b, o, none⟩) (far b hb)
          have e0 := gi.c0
          have e2 := gi.c2
          have em : wc.cell? ⟨gm, m, none⟩ = some (Mv m) := gi.ms.row.cell m hmn
          have ew : wc.cell? ⟨gw, m, none⟩ = some (.int .i64 (C : Int)) := by rw [← hc]; exact gi.ws.cell m hmn
          have ac : ∀ b o, b < w.heap.size + 6 → W1.cell? ⟨b, o, none⟩ = wc.cell? ⟨b, o, none⟩ := fun b o hb => by rw [hW1]; exact (below_new wc _).cell (p := ⟨b, o, none⟩) (by show b < wc.heap.size; omega)
          have a0 := (ac G 0 (by omega)).trans e0
          have a2 := (ac G 2 (by omega)).trans e2
          have am := (ac gm m (by omega)).trans em
          have aw := (ac gw m (by omega)).trans ew
          rw [hW1] at a0 a2 am aw
          have f0 := (fc G 0 (by omega)).trans e0
          have f2' := (fc G 2 (by omega)).trans e2
          have fm := (fc gm m (by omega)).trans em
          have fw := (fc gw m (by omega)).trans ew
          have rm := gi.ms.row.free m
          have rw' := gi.ws.free m
          have rm2 := (ff gm m (by omega)).trans rm
          have rw2 := (ff gw m (by omega)).trans rw'
          have hadd : IntKind.i64.wrap ((C : Int) + 1) = (C : Int) + 1 := wrap_ok _ (by omega)
          have FAR := hide far
          have GI' := hide gi
          have RD := hide rD
          have RR := hide rR
          have HB := hide hB
          have OWN := hide hown2
          have GROW := hide hgrow
          have HAT := hide hat
          have HC1 := hide hc
          have HLT2 := hide hlt2
          have HSZ := hide hsz
          have HW1 := hide hW1
          rw [hW1, held_append] at hrun
          clear far fc ff ac gi rD rR hB hown2 hgrow hat hg2 hc hown hlt2 hnews hW1s hsz k3 kz3 ks3 ky3 hW1
          go_wp2_with fail
          go_region
          all_goals
            go_wp2_with fail
            have hst := GI'.out.step (z := (C : Int) + 1) ge hmn HM.out HSZ.out (by rw [HC1.out, HX.out]; exact OWN.out) (by rw [← HW1.out]; exact GROW.out) HAT.out (by rw [HC1.out])
            rw [HC1.out] at hst
            go_roundg (gk - 1)
            case measure => omega
            case rel =>
              refine ⟨k + 1, _, by omega, by simp, hst, ((RD.out.same (FAR.out _ (by omega))).other (by omega) _).other (by omega) _, ((RR.out.same (FAR.out _ (by omega))).other (by omega) _).other (by omega) _, ?_, ?_⟩
              · have h1 := GROW.out.size
                rw [HW1.out] at h1
                have h2 : (wc.alloc (.cells #[.int .i64 x] 3)).drew.heap.size = wc.heap.size + 1 := by show (wc.alloc _).heap.size = _; simp
                have h3 := HSZ.out
                simp
                omega
              · refine ((Below.grown (row := (Mv m).ownBlock) ?_ GROW.out ?_ ?_).setCell (by show w.heap.size ≤ gm; omega) _).setCell (by show w.heap.size ≤ gw; omega) _
                · rw [HW1.out]; exact (HB.out.alloc (by have := HSZ.out; omega) _).drew
                · have h2 : W1.heap.size = wc.heap.size + 1 := by rw [HW1.out]; show (wc.alloc _).heap.size = _; simp
                  have h3 := HSZ.out
                  omega
                · intro b hb
                  have h4 := (HLT2.out b hb).1
                  omega
      · clear HS0 HS2 HGR
        have hk : ne = k := by omega
        subst hk
        go_upto_region 10 with fail
        go_cut [82] (fun x wr' => wr' = wr ∧ x = .bool (lastEmpty gr ne n))
        case first =>
          clear HS1 HEL HUP
          have e2 := gi.c2
          by_cases h0 : n = 0
          · have h0' : ¬ (0 : Int) < (n : Int) := by omega
            have H0 := hide h0
            clear h0
            go_wp2_with fail
            go_meet
            exact ⟨rfl, by simp [lastEmpty, H0.out]⟩
          · obtain ⟨m, rfl⟩ : ∃ m, n = m + 1 := ⟨n - 1, by omega⟩
            have hw : wr.cell? ⟨gw, m, none⟩ = some (.int .i64 (Plain.cnt gr m ne : Int)) := gi.ws.cell m (by omega)
            obtain ⟨C, hC⟩ : ∃ C, Plain.cnt gr m ne = C := ⟨_, rfl⟩
            rw [hC] at hw
            have HC := hide hC
            by_cases hz : C = 0
            · have hz' : ((C : Int) == 0) = true := by simp [hz]
              go_wp2_with fail
              go_meet
              exact ⟨rfl, by simp [lastEmpty, HC.out, hz]⟩
            · have hz' : ((C : Int) == 0) = false := by simp [hz]
              go_wp2_with fail
              go_meet
              exact ⟨rfl, by simp [lastEmpty, HC.out, hz]⟩
        case rest =>
          obtain ⟨rfl, rfl⟩ := hcut
          go_upto_if 82 with fail
          go_cut [] (fun wr' => wc.grownBy wr' (some G) ∧ wr'.cell? ⟨G, 0, none⟩ = some (.slice (some ⟨gm, 0, none⟩) (Plain.top gr ne n) n) ∧ wr'.cell? ⟨G, 1, none⟩ = some (.slice (some ⟨gv, 0, none⟩) (Plain.top gr ne n) n) ∧ wr'.cell? ⟨G, 2, none⟩ = some (.slice (some ⟨gw, 0, none⟩) (Plain.top gr ne n) n) ∧ wr'.cell? ⟨G, 3, none⟩ = some (.slice none 0 0) ∧ (∀ o, wr'.frozen? ⟨G, o, none⟩ = false))
          case first =>
            clear HS1 HEL HUP rD rR hB
            have e0 := gi.c0
            have e1 := gi.c1
            have e2 := gi.c2
            have e3 := gi.c3
            have gf := gi.free
            cases hb : lastEmpty gr ne n
            · have ht : Plain.top gr ne n = n := Plain.top_no (by simpa [lastEmpty] using hb)
              go_wp2_with fail
              go_meet
              rw [ht]
              exact ⟨World.grownBy.refl _ _, e0, e1, e2, e3, gf⟩
            · have hb' : 0 < n ∧ Plain.cnt gr (n - 1) ne = 0 := by simpa [lastEmpty] using hb
              obtain ⟨m, rfl⟩ : ∃ m, n = m + 1 := ⟨n - 1, by omega⟩
              have ht : Plain.top gr ne (m + 1) = m := Plain.top_yes (by simpa using hb'.2)
              have HT := hide ht
              clear hb' ht gi
              go_wp2_with fail
              go_region
              all_goals
                go_wp2_with fail
                go_meet
                rw [HT.out]
                refine ⟨?_, ?_, ?_, ?_, ?_, ?_⟩
                · repeat (first | exact World.grownBy.refl _ _ | refine grown_set ?_ _ | refine grown_drew ?_)
                · simp [go_sem, e0]
                · simp [go_sem, e1]
                · simp [go_sem, e2]
                · simp [go_sem, e3]
                · intro o
                  simpa using gf o
          case rest =>
            obtain ⟨hgr0, c0', c1', c2', c3', cf⟩ := hcut
            have gt := gi.gt.kept ge hgr0
            have hsz1 : w.heap.size + 6 ≤ wc.heap.size := by have := hgr0.size; omega
            have rD1 := rD.same (hgr0.block w.heap.size (by omega) (by simp; omega))
            have rR1 := rR.same (hgr0.block (w.heap.size + 1) (by omega) (by simp; omega))
            have hB1 : Below w.heap.size w wc := hB.grown hgr0 (by omega) (by simp; omega)
            have GT0 := hide gt
            have RD0 := hide rD1
            have RR0 := hide rR1
            have HB0 := hide hB1
            have HS := hide hsz1
            clear gt rD1 rR1 hB1 gi rD rR hB hsz hsz1 hgr0 hkk hlt
            obtain ⟨N, hN⟩ : ∃ N, Plain.top gr ne n = N := ⟨_, rfl⟩
            rw [hN] at c0' c1' c2'
            have HN := hide hN
            clear hN
            go_wp2_with fail
            go_loopg [15, 16] nd (fun kk i r wr => ∃ ii p L c : Nat, ∃ a : Option Addr, ∃ Ov : Value, ii + kk = nd ∧ p + L = ne ∧ L ≤ c ∧ i = .int .i64 ii ∧ r = .slice a L c ∧ Seq w.heap.size w a L (fun j => In el (p + j)) ∧ Plain.Rest el ne p ii ∧ wc.grownBy wr (some G) ∧ wr.cell? ⟨G, 0, none⟩ = some (.slice (some ⟨gm, 0, none⟩) N n) ∧ wr.cell? ⟨G, 1, none⟩ = some (.slice (some ⟨gv, 0, none⟩) N n) ∧ wr.cell? ⟨G, 2, none⟩ = some (.slice (some ⟨gw, 0, none⟩) N n) ∧ wr.cell? ⟨G, 3, none⟩ = some Ov ∧ (∀ o, wr.frozen? ⟨G, o, none⟩ = false) ∧ wr.ownsRow wc.heap.size 3 1 Ov (Plain.oth el ne ii).length ((Plain.oth el ne ii).map (Value.int .i64)))
            case atStart => exact ⟨0, 0, ne, c1, a1, _, by omega, by omega, hc1, rfl, rfl, HS1.out.congr (fun i _ => by rw [Nat.zero_add]), Plain.rest_start el ne (fun j hj => (HEL.out j hj).1), World.grownBy.refl _ _, c0', c1', c2', c3', cf, World.ownsRow_nil _ _ _ _⟩
            case round =>
              clear c0' c1' c2' c3' cf
              obtain ⟨ii, p, L, c, a, Ov, hkk, hpL, hLc, rfl, rfl, hsq, hrs, hgw, d0, d1, d2, d3, df, hown⟩ := hrel
              have hd : wr.cell? ⟨w.heap.size, 0, none⟩ = some (.slice a2 nd c2) := (RD0.out.same (hgw.block w.heap.size (by have := HS.out; omega) (by simp; omega))).cell 0 (by omega)
              have hBr : Below w.heap.size w wr := HB0.out.grown hgw (by have := HS.out; omega) (by simp; omega)
              have HR := hide hrs
              have HQ := hide hsq
              have HW := hide hgw
              have HO := hide hown
              have HBr := hide hBr
              by_cases hlt : ii < nd
              · by_cases hA : p < ne ∧ el p = (ii : Int)
                · obtain ⟨hp, he⟩ := hA
                  obtain ⟨q, rfl⟩ : ∃ q, L = q + 1 := ⟨L - 1, by omega⟩
                  obtain ⟨c', rfl⟩ : ∃ c', c = c' + 1 := ⟨c - 1, by omega⟩
                  obtain ⟨rb, ro, rfl, hrb, hrc⟩ := hsq (by omega)
                  have hr0 : wr.cell? ⟨rb, ro, none⟩ = some (.int .i64 ii) := by
                    have := (hBr.cell (p := ⟨rb, ro + 0, none⟩) hrb).trans (hrc 0 (by omega))
                    simpa [In, he] using this
                  have HE := hide he
                  clear hsq hrs hgw hown hBr hrc he
                  go_wp2_with fail
                  · go_roundg (gk - 1)
                    case measure => omega
                    exact ⟨ii + 1, p + 1, q, 0, _, Ov, by omega, by omega, by omega, by simp, rfl, fun hq => absurd hq (by omega), Plain.rest_next HUP.out HR.out hp HE.out, HW.out, d0, d1, d2, d3, df, by rw [Plain.oth_yes (Plain.rest_has hp HE.out)]; exact HO.out⟩
                  · go_roundg (gk - 1)
                    case measure => omega
                    refine ⟨ii + 1, p + 1, q, c', _, Ov, by omega, by omega, by omega, by simp, rfl, fun hq => ?_, Plain.rest_next HUP.out HR.out hp HE.out, HW.out, d0, d1, d2, d3, df, by rw [Plain.oth_yes (Plain.rest_has hp HE.out)]; exact HO.out⟩
                    obtain ⟨rb', ro', e, hrb', hrc'⟩ := HQ.out (by omega)
                    simp only [Option.some.injEq, Addr.mk.injEq, and_true] at e
                    obtain ⟨rfl, rfl⟩ := e
                    refine ⟨rb, ro + 1, rfl, hrb', fun i hi => ?_⟩
                    have h9 := hrc' (i + 1) (by omega)
                    have e1 : ro + (i + 1) = ro + 1 + i := by omega
                    have e2 : p + (i + 1) = p + 1 + i := by omega
                    rw [e1] at h9
                    show _ = some (In el (p + 1 + i))
                    rw [← e2]
                    exact h9
                · obtain ⟨k3, kz3, ks3, ky3⟩ := I3.out
                  have hno : p < ne → ¬ el p = (ii : Int) := fun h e => hA ⟨h, e⟩
                  have hlen := Plain.oth_le el ne ii
                  obtain ⟨X, hX⟩ : ∃ X, (Plain.oth el ne ii).length = X := ⟨_, rfl⟩
                  rw [hX] at hown hlen
                  obtain ⟨W1, hW1⟩ : ∃ W1, W1 = wr.alloc (.cells #[.int .i64 ii] 3) := ⟨_, rfl⟩
                  have hW1s : W1.heap.size = wr.heap.size + 1 := by rw [hW1]; simp
                  have hnews : W1.heap[wr.heap.size]? = some (.cells #[.int .i64 ii] 3 (0, 0)) := by rw [hW1]; exact heap_alloc_new wr _
                  have hws := hgw.size
                  have hs0 := HS.out
                  obtain ⟨g, cap, W2, hrun, hown2, hgrow, hat, hg2⟩ := run_append_lies (P := Try.prog) W1 23 23 wc.heap.size 3 i3 (.int .i64 0) 1 8 Try.underlying23 k3 kz3 ks3 ky3 rfl (by omega) Ov X ((Plain.oth el ne ii).map (Value.int .i64)) (by rw [hW1]; exact hown.alloc (.cells #[.int .i64 ii] 3)) ⟨wr.heap.size, 0, none⟩ 1 1 [.int .i64 ii] rfl (World.news_of_block hnews) (by simp [Value.oneCell']) (by omega) (by unfold maxLen; omega) (by omega) (by omega) (wr.heap.size + 1) hW1s
                  have hlt2 := hown.lt
                  have far : ∀ b, b < w.heap.size + 6 → W2.heap[b]? = wr.heap[b]? := fun b hb => (hgrow.block b (by omega) (fun e => by have := (hlt2 b e.symm).1; omega)).trans (by rw [hW1]; exact (below_new wr _).block b (by omega))
                  have fc : ∀ o, W2.cell? ⟨G, o, none⟩ = wr.cell? ⟨G, o, none⟩ := fun o => World.cell?_of_block (w := wr) (a := ⟨G, o, none⟩) (far G ghi1)
                  have ff : ∀ o, W2.frozen? ⟨G, o, none⟩ = false := fun o => (World.frozen?_of_block (w := wr) (a := ⟨G, o, none⟩) (far G ghi1)).trans (df o)
                  have f0 := (fc 0).trans d0
                  have f1 := (fc 1).trans d1
                  have f2' := (fc 2).trans d2
                  have f3 := (fc 3).trans d3
                  have hnew : W2.grownBy W2 none := World.grownBy.refl _ _
                  have hgr2 : wc.grownBy W2 (some G) := grown_on hgw hown (by rw [← hW1]; exact hgrow)
                  have ho2 : W2.ownsRow wc.heap.size 3 1 (.slice (some ⟨g, 0, none⟩) (X + 1) cap) (Plain.oth el ne (ii + 1)).length ((Plain.oth el ne (ii + 1)).map (Value.int .i64)) := by
                    rw [Plain.oth_no (Plain.rest_no HUP.out hrs hno)]
                    simpa [hX] using hown2
                  rw [hW1, held_append] at hrun
                  have HG2 := hide hgr2
                  have HO2 := hide ho2
                  have HNO := hide hno
                  clear hsq hrs hgw hown hBr hnews hown2 hgrow hat hg2 hlt2 far fc hnew hgr2 ho2 hno hW1 hW1s k3 kz3 ks3 ky3
                  by_cases hp : p < ne
                  · obtain ⟨q, rfl⟩ : ∃ q, L = q + 1 := ⟨L - 1, by omega⟩
                    obtain ⟨rb, ro, rfl, hrb, hrc⟩ := HQ.out (by omega)
                    have hr0 : wr.cell? ⟨rb, ro, none⟩ = some (.int .i64 (el p)) := by
                      have := (HBr.out.cell (p := ⟨rb, ro + 0, none⟩) hrb).trans (hrc 0 (by omega))
                      simpa [In] using this
                    have hne' : (el p == (ii : Int)) = false := by simpa using HNO.out hp
                    clear hrc
                    go_wp2_with fail
                    go_roundg (gk - 1)
                    case measure => omega
                    refine ⟨ii + 1, p, q + 1, c, _, .slice (some ⟨g, 0, none⟩) (X + 1) cap, by omega, by omega, by omega, by simp, rfl, HQ.out, Plain.rest_skip HUP.out HR.out HNO.out, grown_set HG2.out _, ?_, ?_, ?_, ?_, ?_, ?_⟩
                    · simp [go_sem, f0]
                    · simp [go_sem, f1]
                    · simp [go_sem, f2']
                    · simp [go_sem, f3]
                    · intro o
                      simpa using ff o
                    · exact ownsRow_setCell_below HO2.out (a := ⟨G, 3, none⟩) (by show G < wc.heap.size; omega) _
                  · obtain rfl : L = 0 := by omega
                    go_wp2_with fail
                    go_roundg (gk - 1)
                    case measure => omega
                    refine ⟨ii + 1, p, 0, c, _, .slice (some ⟨g, 0, none⟩) (X + 1) cap, by omega, by omega, by omega, by simp, rfl, HQ.out, Plain.rest_skip HUP.out HR.out HNO.out, grown_set HG2.out _, ?_, ?_, ?_, ?_, ?_, ?_⟩
                    · simp [go_sem, f0]
                    · simp [go_sem, f1]
                    · simp [go_sem, f2']
                    · simp [go_sem, f3]
                    · intro o
                      simpa using ff o
                    · exact ownsRow_setCell_below HO2.out (a := ⟨G, 3, none⟩) (by show G < wc.heap.size; omega) _
              · have hend : ii = nd := by omega
                have rRr := RR0.out.same (hgw.block (w.heap.size + 1) (by have := HS.out; omega) (by simp; omega))
                have t0 : wr.cell? ⟨w.heap.size + 1, 0, none⟩ = some (.slice none 0 0) := rRr.cell 0 (by omega)
                have t1 : wr.cell? ⟨w.heap.size + 1, 1, none⟩ = some (.slice none 0 0) := rRr.cell 1 (by omega)
                have t2 : wr.cell? ⟨w.heap.size + 1, 2, none⟩ = some (.slice none 0 0) := rRr.cell 2 (by omega)
                have t3 : wr.cell? ⟨w.heap.size + 1, 3, none⟩ = some (.slice none 0 0) := rRr.cell 3 (by omega)
                have tf := rRr.free
                have HEND := hide hend
                have hgtr := GT0.out.kept ge hgw
                have HGT := hide hgtr
                obtain ⟨ao, co, rfl, _⟩ := own_seq hown
                clear hsq hrs hgw hown hBr hend rRr hgtr
                go_wp2_with fail
                have hO := HO.out
                obtain rfl := HEND.out
                refine bodyPost_ret (v := .agg #[.slice (some ⟨gm, 0, none⟩) N n, .slice (some ⟨gv, 0, none⟩) N n, .slice (some ⟨gw, 0, none⟩) N n, .slice ao (Plain.oth el ne ii).length co]) (by simp [results, Try.results6, go_sem, t0, t1, t2, t3]) rfl ?_
                have hs1 := HS.out
                refine ⟨⟨_, _, _, _, rfl, ?_⟩, ?_⟩
                · rw [← HN.out]
                  refine Answer.of (Mv := Mv) (base := w.heap.size + 6) (T := wc.heap.size) ?_ ?_
                  · repeat (first | exact HGT.out | refine GT.set ?_ (by omega) (by omega) (by omega) (by omega) _)
                  · repeat (first | exact hO | refine ownsRow_setCell_below ?_ (a := ⟨w.heap.size + 1, _, none⟩) (by show w.heap.size + 1 < wc.heap.size; omega) _)
                · repeat (first | exact HBr.out | refine Below.setCell ?_ (by show w.heap.size ≤ w.heap.size + 1; omega) _)
end Go.Proofs.Qxb6618430a
