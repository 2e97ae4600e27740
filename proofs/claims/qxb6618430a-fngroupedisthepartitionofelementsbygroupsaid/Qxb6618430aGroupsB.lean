/-
  THE GROUPING BEHIND THE FIRST LOOP: its last empty group dropped, its others gathered. No program of its own.
-/
import Derived.Test.Qxb6618430aGroups
namespace Go.Proofs.Qxb6618430a
open Go.RowKit

/-- How many groups are kept. -/
def Plain.top (gr : Nat → Int) (ne n : Nat) : Nat := if 0 < n ∧ Plain.cnt gr (n - 1) ne = 0 then n - 1 else n

theorem Plain.top_yes {gr : Nat → Int} {ne m : Nat} (h : Plain.cnt gr m ne = 0) : Plain.top gr ne (m + 1) = m := by
  rw [Plain.top, if_pos ⟨by omega, by simpa using h⟩]; rfl
theorem Plain.top_no {gr : Nat → Int} {ne n : Nat} (h : ¬ (0 < n ∧ Plain.cnt gr (n - 1) ne = 0)) : Plain.top gr ne n = n := by rw [Plain.top, if_neg h]
theorem Plain.top_le (gr : Nat → Int) (ne n : Nat) : Plain.top gr ne n ≤ n := by rw [Plain.top]; split <;> omega

/-- The grouping as it is answered, but for its others. -/
structure GT (w : World) (base gm gv gw n : Nat) (Mv : Nat → Value) (gr el : Nat → Int) (vs : Nat → ByteArray) (ne : Nat) : Prop where
  row : Row w gm 23 n Mv n
  own : ∀ m, m < n → w.ownsRow base 3 1 (Mv m) (Plain.cnt gr m ne) ((Plain.mem gr el m ne).map (Value.int .i64))
  vals : Row w gv 9 n (St (fun m => Plain.val ByteArray.empty gr el vs m ne)) n
  ws : Row w gw 3 n (In (fun m => (Plain.cnt gr m ne : Int))) n

theorem GI.gt {w : World} {base G gm gv gw n : Nat} {Mv : Nat → Value} {gr el : Nat → Int} {vs : Nat → ByteArray} {ne : Nat} (h : GI w base G gm gv gw n Mv gr el vs ne ne) : GT w base gm gv gw n Mv gr el vs ne :=
  ⟨h.ms.row, fun m hm => by have := h.ms.own m hm; rwa [Plain.mem_length] at this, h.vals, h.ws⟩

/-- Carried over whatever leaves all but the header's block. -/
theorem GT.kept {B : Nat} {w w' : World} {base G gm gv gw n : Nat} {Mv : Nat → Value} {gr el : Nat → Int} {vs : Nat → ByteArray} {ne : Nat} (h : GT w base gm gv gw n Mv gr el vs ne) (ge : Geo B base G gm gv gw) (hg : w.grownBy w' (some G)) : GT w' base gm gv gw n Mv gr el vs ne := by
  obtain ⟨n1, n2, n3, n4, n5, n6⟩ := ge.ne
  have bl : ∀ b, b < w.heap.size → G ≠ b → w'.heap[b]? = w.heap[b]? := fun b hb hne => hg.block b hb (fun e => hne (by simpa using e.symm))
  refine ⟨h.row.same (bl gm h.row.lt n1), fun m hm => (h.own m hm).kept hg ?_, h.vals.same (bl gv h.vals.lt n2), h.ws.same (bl gw h.ws.lt n3)⟩
  cases hv : (Mv m).ownBlock with
  | none => exact .inl rfl
  | some b =>
    right
    intro e
    have := ((h.own m hm).lt b hv).1
    have := ge.hi.1
    simp at e
    omega

theorem grown_set {w w1 : World} {G i : Nat} (h : w.grownBy w1 (some G)) (u : Value) : w.grownBy (w1.setCell ⟨G, i, none⟩ u) (some G) :=
  ⟨h.os, h.tape, h.output, by simpa using h.size, fun b hb hne => (Below.heap_setCell w1 ⟨G, i, none⟩ u b (fun e => hne (by rw [e]))).trans (h.block b hb hne)⟩
theorem grown_drew {w w1 : World} {r : Option Nat} (h : w.grownBy w1 r) : w.grownBy w1.drew r := ⟨h.os, h.tape, h.output, h.size, h.block⟩

/-- One more gathered, its row above all that stood at first. -/
theorem grown_on {w w1 w2 : World} {G : Nat} {v : Value} {o : Obj} {n : Nat} {xs : List Value} (h : w.grownBy w1 (some G)) (hown : w1.ownsRow w.heap.size 3 1 v n xs) (hg : (w1.alloc o).grownBy w2 v.ownBlock) : w.grownBy w2 (some G) := by
  refine ⟨hg.os.trans h.os, hg.tape.trans h.tape, hg.output.trans h.output, ?_, fun b hb hne => ?_⟩
  · have := hg.size
    have := h.size
    simp at *
    omega
  · have hs := h.size
    refine ((hg.block b (by simp; omega) (fun e => ?_)).trans ((below_new w1 o).block b (by omega))).trans (h.block b hb hne)
    have := (hown.lt b e.symm).1
    omega

/-- What a value that owns a row of numbers reads as. -/
theorem own_seq {w : World} {base n : Nat} {v : Value} {xs : List Int} (h : w.ownsRow base 3 1 v n (xs.map (Value.int .i64))) : ∃ a c, v = .slice a n c ∧ Seq w.heap.size w a n (In (fun j => xs.getD j 0)) := by
  obtain ⟨hl, h2⟩ := h
  rcases h2 with ⟨h', h0⟩ | ⟨g, cap, cur, hv, _, hg, hcap, _, hs, ht⟩
  · subst h0
    exact ⟨_, _, h', fun h => by omega⟩
  · refine ⟨_, _, hv, fun _ => ⟨g, 0, rfl, lt_of_block hg, fun i hi => ?_⟩⟩
    have h3 := congrArg (fun l : List Value => l[i]?) ht
    simp only [Nat.mul_one, List.getElem?_take, hi, if_true, List.getElem?_map] at h3
    have hlen : i < xs.length := by simp at hl; omega
    have h4 : cur[i]? = some (.int .i64 xs[i]) := by simpa [hlen] using h3
    simp [World.cell?, hg, h4, In, List.getD, hlen]

/-- What the call answers. -/
structure Answer (w : World) (n ne nd : Nat) (gr el : Nat → Int) (vs : Nat → ByteArray) (m v ws o : Value) : Prop where
  at_ : ∃ gm gv gw Mv ao co, m = .slice (some ⟨gm, 0, none⟩) (Plain.top gr ne n) n ∧ v = .slice (some ⟨gv, 0, none⟩) (Plain.top gr ne n) n ∧ ws = .slice (some ⟨gw, 0, none⟩) (Plain.top gr ne n) n ∧ o = .slice ao (Plain.oth el ne nd).length co ∧
    Row w gm 23 n Mv n ∧ (∀ j, j < n → ∃ a c, Mv j = .slice a (Plain.cnt gr j ne) c ∧ Seq w.heap.size w a (Plain.cnt gr j ne) (In (fun r => (Plain.mem gr el j ne).getD r 0))) ∧
    Row w gv 9 n (St (fun j => Plain.val ByteArray.empty gr el vs j ne)) n ∧ Row w gw 3 n (In (fun j => (Plain.cnt gr j ne : Int))) n ∧ Seq w.heap.size w ao (Plain.oth el ne nd).length (In (fun r => (Plain.oth el ne nd).getD r 0))

theorem Answer.of {w : World} {base gm gv gw n ne nd T : Nat} {Mv : Nat → Value} {gr el : Nat → Int} {vs : Nat → ByteArray} {o : Value} (h : GT w base gm gv gw n Mv gr el vs ne) (ho : w.ownsRow T 3 1 o (Plain.oth el ne nd).length ((Plain.oth el ne nd).map (Value.int .i64))) :
    Answer w n ne nd gr el vs (.slice (some ⟨gm, 0, none⟩) (Plain.top gr ne n) n) (.slice (some ⟨gv, 0, none⟩) (Plain.top gr ne n) n) (.slice (some ⟨gw, 0, none⟩) (Plain.top gr ne n) n) o := by
  obtain ⟨a, c, rfl, hs⟩ := own_seq ho
  exact ⟨gm, gv, gw, Mv, a, c, rfl, rfl, rfl, rfl, h.row, fun j hj => own_seq (h.own j hj), h.vals, h.ws, hs⟩

theorem Seq.now {B : Nat} {w w' : World} {a : Option Addr} {n : Nat} {f : Nat → Value} (h : Seq w.heap.size w a n f) (hb : Below w.heap.size w w') (hB : w.heap.size ≤ B) : Seq B w' a n f := (h.below hb (Nat.le_refl _)).mono hB

theorem Answer.below {w w' : World} {n ne nd : Nat} {gr el : Nat → Int} {vs : Nat → ByteArray} {m v ws o : Value} (h : Answer w n ne nd gr el vs m v ws o) (hb : Below w.heap.size w w') : Answer w' n ne nd gr el vs m v ws o := by
  obtain ⟨gm, gv, gw, Mv, ao, co, h1, h2, h3, h4, r1, ms, r2, r3, s⟩ := h.at_
  refine ⟨gm, gv, gw, Mv, ao, co, h1, h2, h3, h4, r1.below hb r1.lt, fun j hj => ?_, r2.below hb r2.lt, r3.below hb r3.lt, s.now hb hb.size⟩
  obtain ⟨a, c, e, hs⟩ := ms j hj
  exact ⟨a, c, e, hs.now hb hb.size⟩

end Go.Proofs.Qxb6618430a
