/-
  THE GROUPING IN MEMORY: a header block of four slices, a row of values, a row of weights, a row of slices that each own their members. No program of its own.
-/
import Derived.Test.Qxb6618430aKit
import Derived.Test.Qxb6618430aPlain
import Derived.Deep.AppendLies
namespace Go.Proofs.Qxb6618430a
open Go.RowKit

def In (d : Nat → Int) (i : Nat) : Value := .int .i64 (d i)
theorem in_one (d : Nat → Int) (i : Nat) : (In d i).oneCell' = true := rfl
def St (s : Nat → ByteArray) (i : Nat) : Value := .string (s i)
theorem st_one (s : Nat → ByteArray) (i : Nat) : (St s i).oneCell' = true := rfl

def upd {α : Type} (f : Nat → α) (m : Nat) (v : α) (j : Nat) : α := if j = m then v else f j
theorem upd_same {α : Type} (f : Nat → α) (m : Nat) (v : α) : upd f m v m = v := if_pos rfl
theorem upd_other {α : Type} (f : Nat → α) {m j : Nat} (v : α) (h : j ≠ m) : upd f m v j = f j := if_neg h

theorem Row.other {w : World} {g : Nat} {e : TypeId} {n : Nat} {f : Nat → Value} {k : Nat} (h : Row w g e n f k) {b i : Nat} (hb : g ≠ b) (u : Value) : Row (w.setCell ⟨b, i, none⟩ u) g e n f k :=
  h.same (Below.heap_setCell w ⟨b, i, none⟩ u g hb)
theorem Row.upd {w : World} {g : Nat} {e : TypeId} {n : Nat} {f : Nat → Value} {k : Nat} (h : Row w g e n f k) (m : Nat) (u : Value) : Row (w.setCell ⟨g, m, none⟩ u) g e n (upd f m u) k := h.put m u
theorem Row.alloc {w : World} {g : Nat} {e : TypeId} {n : Nat} {f : Nat → Value} {k : Nat} (h : Row w g e n f k) (o : Obj) : Row (w.alloc o) g e n f k := h.below (below_new w o) h.lt
theorem Row.drawn {w : World} {g : Nat} {e : TypeId} {n : Nat} {f : Nat → Value} {k : Nat} (h : Row w g e n f k) : Row w.drew g e n f k := h.same rfl
theorem row_new (w : World) (e : TypeId) {n g : Nat} {f : Nat → Value} {cs : Array Value} (hs : cs.size = n) (hc : ∀ i, i < n → cs[i]? = some (f i)) (hg : g = w.heap.size) : Row (w.alloc (.cells cs e)) g e n f n := by
  subst hg
  exact ⟨cs, heap_alloc_new w _, hs, hc⟩

/-- The row of members: the m-th slice owns the numbers xs m; no two of them own one row. -/
structure MS (w : World) (base gm n : Nat) (Mv : Nat → Value) (xs : Nat → List Int) : Prop where
  row : Row w gm 23 n Mv n
  own : ∀ m, m < n → w.ownsRow base 3 1 (Mv m) (xs m).length ((xs m).map (Value.int .i64))
  apart : ∀ m m', m < n → m' < n → m ≠ m' → ∀ b, (Mv m).ownBlock = some b → (Mv m').ownBlock ≠ some b

theorem MS.same {w w' : World} {base gm n : Nat} {Mv : Nat → Value} {xs : Nat → List Int} (h : MS w base gm n Mv xs) (hh : w'.heap = w.heap) : MS w' base gm n Mv xs := by
  refine ⟨h.row.same (by rw [hh]), fun m hm => ?_, h.apart⟩
  have := h.own m hm
  unfold World.ownsRow at this ⊢
  rw [hh]; exact this

theorem MS.setBelow {w : World} {base gm n : Nat} {Mv : Nat → Value} {xs : Nat → List Int} (h : MS w base gm n Mv xs) {b i : Nat} (hb : b < base) (hne : gm ≠ b) (u : Value) : MS (w.setCell ⟨b, i, none⟩ u) base gm n Mv xs :=
  ⟨h.row.other hne u, fun m hm => ownsRow_setCell_below (h.own m hm) (a := ⟨b, i, none⟩) hb u, h.apart⟩

theorem MS.step {wr w1 : World} {base gm gw n m g cap : Nat} {Mv : Nat → Value} {xs : Nat → List Int} {o : Obj} {i : Int} {u : Value} (h : MS wr base gm n Mv xs) (hm : m < n) (hgm : gm < base) (hgw : gw < base) (hne : gm ≠ gw)
    (hown : w1.ownsRow base 3 1 (.slice (some ⟨g, 0, none⟩) ((xs m).length + 1) cap) ((xs m).length + 1) ((xs m).map (Value.int .i64) ++ [.int .i64 i])) (hgrow : (wr.alloc o).drew.grownBy w1 (Mv m).ownBlock) (hat : (Mv m).ownBlock = some g ∨ g = wr.heap.size + 1) :
    MS ((w1.setCell ⟨gm, m, none⟩ (.slice (some ⟨g, 0, none⟩) ((xs m).length + 1) cap)).setCell ⟨gw, m, none⟩ u) base gm n (upd Mv m (.slice (some ⟨g, 0, none⟩) ((xs m).length + 1) cap)) (upd xs m (xs m ++ [i])) := by
  have hlt := (h.own m hm).lt
  have hrow1 : Row w1 gm 23 n Mv n := by
    have r1 := (h.row.alloc o).drawn
    refine r1.same (hgrow.block gm r1.lt (fun e => ?_))
    have := (hlt gm e.symm).1
    omega
  refine ⟨(hrow1.upd m _).other hne u, fun j hj => ?_, fun j j' hj hj' hjj b hb hb' => ?_⟩
  · refine ownsRow_setCell_below (ownsRow_setCell_below ?_ (a := ⟨gm, m, none⟩) hgm _) (a := ⟨gw, m, none⟩) hgw u
    by_cases e : j = m
    · subst e
      rw [upd_same, upd_same]
      simpa using hown
    · rw [upd_other _ _ e, upd_other _ _ e]
      refine (((h.own j hj).alloc o).drew).kept hgrow ?_
      cases hv : (Mv j).ownBlock with
      | none => exact .inl rfl
      | some b => exact .inr (fun e' => h.apart j m hj hm e b hv (e'.symm))
  · have old : ∀ t, t < n → ∀ c, (Mv t).ownBlock = some c → c < wr.heap.size := fun t ht c hc => ((h.own t ht).lt c hc).2
    have key : ∀ t, t < n → t ≠ m → ∀ c, (Mv t).ownBlock = some c → c ≠ g := by
      intro t ht htm c hc e
      subst e
      rcases hat with h1 | h1
      · exact h.apart t m ht hm htm c hc h1
      · have := old t ht c hc; omega
    by_cases e : j = m
    · subst e
      rw [upd_same] at hb
      rw [upd_other _ _ (fun e => hjj e.symm)] at hb'
      simp [Value.ownBlock] at hb
      exact key j' hj' (fun e => hjj e.symm) b hb' hb.symm
    · rw [upd_other _ _ e] at hb
      by_cases e' : j' = m
      · subst e'
        rw [upd_same] at hb'
        simp [Value.ownBlock] at hb'
        exact key j hj e b hb hb'.symm
      · rw [upd_other _ _ e'] at hb'
        exact h.apart j j' hj hj' hjj b hb hb'

/-- The grouping g: its header, its rows. -/
structure GI (w : World) (base G gm gv gw n : Nat) (Mv : Nat → Value) (gr el : Nat → Int) (vs : Nat → ByteArray) (kv k : Nat) : Prop where
  c0 : w.cell? ⟨G, 0, none⟩ = some (.slice (some ⟨gm, 0, none⟩) n n)
  c1 : w.cell? ⟨G, 1, none⟩ = some (.slice (some ⟨gv, 0, none⟩) n n)
  c2 : w.cell? ⟨G, 2, none⟩ = some (.slice (some ⟨gw, 0, none⟩) n n)
  c3 : w.cell? ⟨G, 3, none⟩ = some (.slice none 0 0)
  free : ∀ o, w.frozen? ⟨G, o, none⟩ = false
  ms : MS w base gm n Mv (fun m => Plain.mem gr el m k)
  vals : Row w gv 9 n (St (fun m => Plain.val ByteArray.empty gr el vs m kv)) n
  ws : Row w gw 3 n (In (fun m => (Plain.cnt gr m k : Int))) n

/-- Where the blocks lie. -/
structure Geo (B base G gm gv gw : Nat) : Prop where
  lo : B ≤ G ∧ B ≤ gm ∧ B ≤ gv ∧ B ≤ gw
  hi : G < base ∧ gm < base ∧ gv < base ∧ gw < base
  ne : G ≠ gm ∧ G ≠ gv ∧ G ≠ gw ∧ gm ≠ gv ∧ gm ≠ gw ∧ gv ≠ gw

theorem cell_set {w : World} {a b : Addr} (hb : a.block ≠ b.block) (v : Value) : (w.setCell a v).cell? b = w.cell? b := World.cell?_setCell_other _ _ _ _ (fun e => hb (congrArg Addr.block e))

/-- The value of a group's first element is laid. -/
theorem GI.setval {w : World} {B base G gm gv gw n m k : Nat} {Mv : Nat → Value} {gr el : Nat → Int} {vs : Nat → ByteArray} (h : GI w base G gm gv gw n Mv gr el vs k k) (g : Geo B base G gm gv gw) (hk : gr k = (m : Int)) (h0 : Plain.cnt gr m k = 0) :
    GI (w.setCell ⟨gv, m, none⟩ (.string (vs (el k).toNat))).drew base G gm gv gw n Mv gr el vs (k + 1) k := by
  obtain ⟨n1, n2, n3, n4, n5, n6⟩ := g.ne
  have hc : ∀ o, (w.setCell ⟨gv, m, none⟩ (.string (vs (el k).toNat))).drew.cell? ⟨G, o, none⟩ = w.cell? ⟨G, o, none⟩ := fun o => cell_set (a := ⟨gv, m, none⟩) (b := ⟨G, o, none⟩) (fun e => n2 e.symm) _
  refine ⟨(hc 0).trans h.c0, (hc 1).trans h.c1, (hc 2).trans h.c2, (hc 3).trans h.c3, fun o => by simpa using h.free o, (h.ms.setBelow g.hi.2.2.1 n4 _).same rfl, ?_, (h.ws.other (fun e => n6 e.symm) _).drawn⟩
  refine ((h.vals.upd m _).drawn).congr (fun j hj => ?_)
  by_cases e : j = m
  · subst e
    rw [upd_same, St, Plain.val, if_pos ⟨hk, h0⟩]
  · rw [upd_other _ _ e, St, St, Plain.val, if_neg (fun e' => e (by have := hk.symm.trans e'.1; omega))]

theorem GI.keepval {w : World} {base G gm gv gw n m k : Nat} {Mv : Nat → Value} {gr el : Nat → Int} {vs : Nat → ByteArray} (h : GI w base G gm gv gw n Mv gr el vs k k) (hk : gr k = (m : Int)) (h0 : ¬ Plain.cnt gr m k = 0) :
    GI w base G gm gv gw n Mv gr el vs (k + 1) k := by
  refine ⟨h.c0, h.c1, h.c2, h.c3, h.free, h.ms, h.vals.congr (fun j hj => ?_), h.ws⟩
  rw [St, St, Plain.val, if_neg (fun e' => by
    have : j = m := by have := hk.symm.trans e'.1; omega
    subst this
    exact h0 e'.2)]

/-- A member more. -/
theorem GI.step {wr w1 : World} {B base G gm gv gw n m k g cap : Nat} {Mv : Nat → Value} {gr el : Nat → Int} {vs : Nat → ByteArray} {o : Obj} {z : Int} (h : GI wr base G gm gv gw n Mv gr el vs (k + 1) k) (ge : Geo B base G gm gv gw) (hm : m < n) (hk : gr k = (m : Int)) (hbs : base ≤ wr.heap.size)
    (hown : w1.ownsRow base 3 1 (.slice (some ⟨g, 0, none⟩) (Plain.cnt gr m k + 1) cap) (Plain.cnt gr m k + 1) ((Plain.mem gr el m k).map (Value.int .i64) ++ [.int .i64 (el k)])) (hgrow : (wr.alloc o).drew.grownBy w1 (Mv m).ownBlock) (hat : (Mv m).ownBlock = some g ∨ g = wr.heap.size + 1) (hz : z = (Plain.cnt gr m k : Int) + 1) :
    GI ((w1.setCell ⟨gm, m, none⟩ (.slice (some ⟨g, 0, none⟩) (Plain.cnt gr m k + 1) cap)).setCell ⟨gw, m, none⟩ (.int .i64 z)) base G gm gv gw n (upd Mv m (.slice (some ⟨g, 0, none⟩) (Plain.cnt gr m k + 1) cap)) gr el vs (k + 1) (k + 1) := by
  subst hz
  obtain ⟨n1, n2, n3, n4, n5, n6⟩ := ge.ne
  have hlt := (h.ms.own m hm).lt
  have far : ∀ b, b < base → w1.heap[b]? = wr.heap[b]? := by
    intro b hb
    have e1 : w1.heap[b]? = (wr.alloc o).drew.heap[b]? := hgrow.block b (by show b < (wr.alloc o).heap.size; simp; omega) (fun e => by have := (hlt b e.symm).1; omega)
    exact e1.trans ((below_new wr o).block b (by omega))
  have hc : ∀ i, ((w1.setCell ⟨gm, m, none⟩ (.slice (some ⟨g, 0, none⟩) (Plain.cnt gr m k + 1) cap)).setCell ⟨gw, m, none⟩ (.int .i64 ((Plain.cnt gr m k : Int) + 1))).cell? ⟨G, i, none⟩ = wr.cell? ⟨G, i, none⟩ := fun i => by
    rw [cell_set (a := ⟨gw, m, none⟩) (b := ⟨G, i, none⟩) (fun e => n3 e.symm), cell_set (a := ⟨gm, m, none⟩) (b := ⟨G, i, none⟩) (fun e => n1 e.symm)]
    exact World.cell?_of_block (w := wr) (a := ⟨G, i, none⟩) (far G ge.hi.1)
  have hml : (Plain.mem gr el m k).length = Plain.cnt gr m k := Plain.mem_length gr el m k
  have M := h.ms.step (u := .int .i64 ((Plain.cnt gr m k : Int) + 1)) (i := el k) hm ge.hi.2.1 ge.hi.2.2.2 n5 (by rw [hml]; exact hown) hgrow hat
  rw [hml] at M
  refine ⟨(hc 0).trans h.c0, (hc 1).trans h.c1, (hc 2).trans h.c2, (hc 3).trans h.c3, fun i => ?_, ⟨M.row, fun j hj => ?_, M.apart⟩, ?_, ?_⟩
  · have : w1.frozen? ⟨G, i, none⟩ = wr.frozen? ⟨G, i, none⟩ := World.frozen?_of_block (w := wr) (a := ⟨G, i, none⟩) (far G ge.hi.1)
    simpa [this] using h.free i
  · have hj' := M.own j hj
    have e : upd (fun m => Plain.mem gr el m k) m (Plain.mem gr el m k ++ [el k]) j = Plain.mem gr el j (k + 1) := by
      by_cases e : j = m
      · subst e; rw [upd_same, Plain.mem_yes hk]
      · rw [upd_other _ _ e, Plain.mem_no (fun e' => e (by have := hk.symm.trans e'; omega))]
    rw [e] at hj'
    exact hj'
  · exact ((h.vals.same (far gv ge.hi.2.2.1)).other (fun e => n4 e.symm) _).other n6 _
  · refine (((h.ws.same (far gw ge.hi.2.2.2)).other (fun e => n5 e.symm) _).upd m _).congr (fun j hj => ?_)
    by_cases e : j = m
    · subst e
      rw [upd_same, In, Plain.cnt_yes hk]; simp
    · rw [upd_other _ _ e, In, In, Plain.cnt_no (fun e' => e (by have := hk.symm.trans e'; omega))]


theorem made_row {z : Value} (hz : z.cells = #[z]) (n : Nat) : (madeCells z.cells n).size = n ∧ ∀ i, i < n → (madeCells z.cells n)[i]? = some z := by
  refine ⟨size_madeCells _ _, fun i hi => ?_⟩
  have h := congrArg (fun l : List Value => l[i]?) (toList_madeCells_one z n)
  simp only [List.getElem?_replicate, hi, if_true] at h
  rw [hz]
  simpa using h

/-- The grouping as it is made. -/
theorem gi_start {w : World} {base G gm gv gw n : Nat} {f4 : Nat → Value} (gr el : Nat → Int) (vs : Nat → ByteArray) (hG : Row w G 30 4 f4 4) (h0 : f4 0 = .slice (some ⟨gm, 0, none⟩) n n) (h1 : f4 1 = .slice (some ⟨gv, 0, none⟩) n n) (h2 : f4 2 = .slice (some ⟨gw, 0, none⟩) n n) (h3 : f4 3 = .slice none 0 0)
    (hm : Row w gm 23 n (fun _ => .slice none 0 0) n) (hv : Row w gv 9 n (fun _ => .string ByteArray.empty) n) (hw : Row w gw 3 n (fun _ => .int .i64 0) n) : GI w base G gm gv gw n (fun _ => .slice none 0 0) gr el vs 0 0 :=
  ⟨(hG.cell 0 (by omega)).trans (by rw [h0]), (hG.cell 1 (by omega)).trans (by rw [h1]), (hG.cell 2 (by omega)).trans (by rw [h2]), (hG.cell 3 (by omega)).trans (by rw [h3]), hG.free,
    ⟨hm, fun m _ => World.ownsRow_nil _ _ _ _, fun m m' _ _ _ b hb => by simp [Value.ownBlock] at hb⟩, hv, hw⟩

def f4 (a b c d : Value) (i : Nat) : Value := if i = 0 then a else if i = 1 then b else if i = 2 then c else d
theorem f4_row (a b c d : Value) : (#[a, b, c, d] : Array Value).size = 4 ∧ ∀ i, i < 4 → (#[a, b, c, d] : Array Value)[i]? = some (f4 a b c d i) := by
  refine ⟨rfl, fun i hi => ?_⟩
  match i, hi with
  | 0, _ => rfl
  | 1, _ => rfl
  | 2, _ => rfl
  | 3, _ => rfl
def f2 (a b : Value) (i : Nat) : Value := if i = 0 then a else b
theorem f2_row (a b : Value) : (#[a, b] : Array Value).size = 2 ∧ ∀ i, i < 2 → (#[a, b] : Array Value)[i]? = some (f2 a b i) := by
  refine ⟨rfl, fun i hi => ?_⟩
  match i, hi with
  | 0, _ => rfl
  | 1, _ => rfl

end Go.Proofs.Qxb6618430a
