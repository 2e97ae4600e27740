/-
  SMALL LAWS ON MEMORY FOR THIS SEAT's WALKS: a row of the call's own, filled place by place; a slice that is only read. No program of its own.
-/
import Derived.WalkKit
import Derived.ProofKit
import Derived.Below
import Derived.Laws.CopyOwn
import Derived.Deep.QuietTactic
import Derived.BigQuiet
import Derived.Deep.LoopGhost
import Derived.WalkSpells
import Derived.WalkLawsBesides
namespace Go.Proofs.Qxb6618430a
open Go.RowKit

/-- Block g is a row of n cells, none frozen; its first k cells are f's. -/
def Row (w : World) (g : Nat) (e : TypeId) (n : Nat) (f : Nat → Value) (k : Nat) : Prop :=
  ∃ cs : Array Value, w.heap[g]? = some (.cells cs e (0, 0)) ∧ cs.size = n ∧ ∀ i, i < k → cs[i]? = some (f i)

theorem Row.lt {w : World} {g : Nat} {e : TypeId} {n : Nat} {f : Nat → Value} {k : Nat} (h : Row w g e n f k) : g < w.heap.size := by
  obtain ⟨cs, h1, _, _⟩ := h
  exact lt_of_block h1

theorem Row.old {w : World} {g : Nat} {e : TypeId} {n : Nat} {f : Nat → Value} {k : Nat} (h : Row w g e n f k) (i : Nat) (hi : i < n) : ∃ v, w.cell? ⟨g, i, none⟩ = some v := by
  obtain ⟨cs, h1, h2, _⟩ := h
  exact ⟨cs[i]'(by omega), by simp [World.cell?, h1, h2, hi]⟩

theorem Row.cell {w : World} {g : Nat} {e : TypeId} {n : Nat} {f : Nat → Value} {k : Nat} (h : Row w g e n f k) (i : Nat) (hi : i < k) : w.cell? ⟨g, i, none⟩ = some (f i) := by
  obtain ⟨cs, h1, h2, h3⟩ := h
  simp [World.cell?, h1, h3 i hi]

theorem Row.free {w : World} {g : Nat} {e : TypeId} {n : Nat} {f : Nat → Value} {k : Nat} (h : Row w g e n f k) (i : Nat) : w.frozen? ⟨g, i, none⟩ = false := by
  obtain ⟨cs, h1, h2, h3⟩ := h
  simp [World.frozen?, h1]

theorem Row.set {w : World} {g : Nat} {e : TypeId} {n : Nat} {f : Nat → Value} {k : Nat} (h : Row w g e n f k) (hk : k < n) : Row (w.setCell ⟨g, k, none⟩ (f k)) g e n f (k + 1) := by
  obtain ⟨cs, h1, h2, h3⟩ := h
  refine ⟨cs.setIfInBounds k (f k), heap_setCell_same w g k cs e (f k) h1, by simpa using h2, fun i hi => ?_⟩
  by_cases e : i = k
  · subst e
    simp [h2, hk]
  · rw [Array.getElem?_setIfInBounds_ne (by omega)]
    exact h3 i (by omega)

/-- One cell written anew, wherever. -/
theorem Row.put {w : World} {g : Nat} {e : TypeId} {n : Nat} {f : Nat → Value} {k : Nat} (h : Row w g e n f k) (j : Nat) (u : Value) : Row (w.setCell ⟨g, j, none⟩ u) g e n (fun i => if i = j then u else f i) k := by
  obtain ⟨cs, h1, h2, h3⟩ := h
  refine ⟨cs.setIfInBounds j u, heap_setCell_same w g j cs e u h1, by simpa using h2, fun i hi => ?_⟩
  have hc := h3 i hi
  have hlt : i < cs.size := by
    rcases Nat.lt_or_ge i cs.size with h' | h'
    · exact h'
    · simp [Array.getElem?_eq_none h'] at hc
  by_cases e : i = j
  · subst e
    simp [hlt]
  · rw [Array.getElem?_setIfInBounds_ne (by omega)]
    simpa [e] using hc

theorem Row.same {w w' : World} {g : Nat} {e : TypeId} {n : Nat} {f : Nat → Value} {k : Nat} (h : Row w g e n f k) (hb : w'.heap[g]? = w.heap[g]?) : Row w' g e n f k := by
  obtain ⟨cs, h1, h2, h3⟩ := h
  exact ⟨cs, hb.trans h1, h2, h3⟩

theorem Row.below {C : Nat} {w w' : World} {g : Nat} {e : TypeId} {n : Nat} {f : Nat → Value} {k : Nat} (h : Row w g e n f k) (hb : Below C w w') (hg : g < C) : Row w' g e n f k :=
  h.same (hb.block g hg)

theorem Row.congr {w : World} {g : Nat} {e : TypeId} {n : Nat} {f f' : Nat → Value} {k : Nat} (h : Row w g e n f k) (hf : ∀ i, i < k → f i = f' i) : Row w g e n f' k := by
  obtain ⟨cs, h1, h2, h3⟩ := h
  exact ⟨cs, h1, h2, fun i hi => by rw [← hf i hi]; exact h3 i hi⟩

/-- What a 'make' with a length leaves. -/
theorem row_of_owns {w : World} {base g : Nat} {e : TypeId} {n : Nat} {xs : List Value} (f : Nat → Value) (h : w.ownsRow base e 1 (.slice (some ⟨g, 0, none⟩) n n) n xs) : Row w g e n f 0 := by
  obtain ⟨_, h2⟩ := h
  rcases h2 with ⟨h', _⟩ | ⟨g', cap, cur, hv, _, hg, _, _, hs, _⟩
  · simp at h'
  · simp only [Value.slice.injEq, Option.some.injEq, Addr.mk.injEq, and_true, true_and] at hv
    obtain ⟨rfl, rfl⟩ := hv
    exact ⟨cur, hg, by simpa using hs, fun i hi => by omega⟩

/-- What a 'make' with a length leaves, its zeros told. -/
theorem row_of_made {w : World} {base g : Nat} {e : TypeId} {n : Nat} {z : Value} (hz : z.cells = #[z]) (h : w.ownsRow base e 1 (.slice (some ⟨g, 0, none⟩) n n) n (madeCells z.cells (n * 1)).toList) : Row w g e n (fun _ => z) n := by
  obtain ⟨_, h2⟩ := h
  rcases h2 with ⟨h', _⟩ | ⟨g', cap, cur, hv, _, hg, _, _, hs, ht⟩
  · simp at h'
  · simp only [Value.slice.injEq, Option.some.injEq, Addr.mk.injEq, and_true, true_and] at hv
    obtain ⟨rfl, rfl⟩ := hv
    refine ⟨cur, hg, by simpa using hs, fun i hi => ?_⟩
    rw [hz, Nat.mul_one, toList_madeCells_one] at ht
    have h3 := congrArg (fun l : List Value => l[i]?) ht
    simp only [List.getElem?_take, hi, if_true] at h3
    rw [List.getElem?_replicate, if_pos hi] at h3
    simpa using h3

/-- The first n cells at a slice's address are f's; the row lies below block B. -/
def Seq (B : Nat) (w : World) (a : Option Addr) (n : Nat) (f : Nat → Value) : Prop :=
  0 < n → ∃ b off, a = some ⟨b, off, none⟩ ∧ b < B ∧ ∀ i, i < n → w.cell? ⟨b, off + i, none⟩ = some (f i)

theorem Seq.below {B C : Nat} {w w' : World} {a : Option Addr} {n : Nat} {f : Nat → Value} (h : Seq B w a n f) (hb : Below C w w') (hC : B ≤ C) : Seq B w' a n f := fun hn => by
  obtain ⟨b, off, ha, hlt, hc⟩ := h hn
  exact ⟨b, off, ha, hlt, fun i hi => (hb.cell (p := ⟨b, off + i, none⟩) (by show b < C; omega)).trans (hc i hi)⟩

theorem Seq.mono {B C : Nat} {w : World} {a : Option Addr} {n : Nat} {f : Nat → Value} (h : Seq B w a n f) (hC : B ≤ C) : Seq C w a n f := fun hn => by
  obtain ⟨b, off, ha, hlt, hc⟩ := h hn
  exact ⟨b, off, ha, by omega, hc⟩

theorem Seq.shorter {B : Nat} {w : World} {a : Option Addr} {n m : Nat} {f : Nat → Value} (h : Seq B w a n f) (hm : m ≤ n) : Seq B w a m f := fun hn => by
  obtain ⟨b, off, ha, hlt, hc⟩ := h (by omega)
  exact ⟨b, off, ha, hlt, fun i hi => hc i (by omega)⟩

theorem Seq.congr {B : Nat} {w : World} {a : Option Addr} {n : Nat} {f f' : Nat → Value} (h : Seq B w a n f) (hf : ∀ i, i < n → f i = f' i) : Seq B w a n f' := fun hn => by
  obtain ⟨b, off, ha, hlt, hc⟩ := h hn
  exact ⟨b, off, ha, hlt, fun i hi => by rw [← hf i hi]; exact hc i hi⟩

theorem Row.seq {w : World} {g : Nat} {e : TypeId} {n : Nat} {f : Nat → Value} {k : Nat} (h : Row w g e n f k) {B : Nat} (hB : g < B) : Seq B w (some ⟨g, 0, none⟩) k f := fun _ =>
  ⟨g, 0, rfl, hB, fun i hi => by rw [Nat.zero_add]; exact h.cell i hi⟩

/-- Behind a 'Below': every old cell and every old mark, as two rules for the walk. -/
theorem bcell {W w1 : World} (hb : Below W.heap.size W w1) : (∀ b o, b < W.heap.size → w1.cell? ⟨b, o, none⟩ = W.cell? ⟨b, o, none⟩) ∧ (∀ b o, b < W.heap.size → w1.frozen? ⟨b, o, none⟩ = W.frozen? ⟨b, o, none⟩) :=
  ⟨fun b o h => hb.cell (p := ⟨b, o, none⟩) h, fun b o h => hb.frozen (p := ⟨b, o, none⟩) h⟩


theorem hide {p : Prop} (h : p) : Hid p := h
theorem below_drewN' {B : Nat} {a w : World} (h : Below B a w) (q : Nat) : Below B a (w.drewN q) := ⟨h.os, h.tape, h.output, h.size, h.block⟩
theorem below_new (w : World) (o : Obj) : Below w.heap.size w (w.alloc o) := (Below.refl _ _).alloc (Nat.le_refl _) o

/-- 'copy(dst, src)', dst a row of the call's own as long as src: the whole of src goes over. -/
theorem wpList_copy_full {P : Program} {w : World} {ops : Array Oper} {rest : List Oper} {o : Oper} {a : Act} {Q : Exit → Act → World → Prop} (hgd : o.guard = none) (d s : Operand) (T : TypeId)
    (ho : o.op = .call { callee := .builtin .copy, args := #[d, s], argTypes := #[T, T] }) (elem : TypeId) (hu : P.underlying T = some (.slice elem)) (hsz : (P.info? elem).map (·.size) = some 1)
    (g n sCap : Nat) (sp : Option Addr) (hd : a.eval d = .slice (some ⟨g, 0, none⟩) n n) (hs : a.eval s = .slice sp n sCap) (f f0 : Nat → Value) (k0 B : Nat) (hrow : Row w g elem n f0 k0) (hseq : Seq B w sp n f)
    (h1 : ∀ i, (f i).oneCell' = true) (h : ∀ w', Row w' g elem n f n → Below g w w' → wpList P ops Q rest (a.put o.dst (goInt n)) w') : wpList P ops Q (o :: rest) a w := by
  obtain ⟨cs, hg, hsize, _⟩ := hrow
  have hlen : ((List.range n).map f).length = n := by simp
  refine wpList_copy_splice hgd d s T T ho elem hu hsz (some ⟨g, 0, none⟩) sp n n n sCap hd hs g 0 cs.toList elem (by simpa using hg) ((List.range n).map f) (by simp) ?_ (by simp [hsize]) ?_ g w (Below.refl _ _) (Nat.le_refl _) ?_
  · intro hpos
    rw [hlen] at hpos
    obtain ⟨b, off, ha, _, hc⟩ := hseq hpos
    refine ⟨rfl, ⟨b, off, none⟩, ha, fun j v hj => ?_⟩
    have hjn : j < n := by
      have := (List.getElem?_eq_some_iff.1 hj).1
      simpa using this
    rw [Addr.add_lit, hc j hjn]
    simpa [hjn] using hj
  · intro v hv
    obtain ⟨i, _, rfl⟩ := List.mem_map.1 hv
    exact h1 i
  · intro w' hw' hb
    have hw2 : w'.heap[g]? = some (.cells (splice cs.toList 0 ((List.range n).map f)).toArray elem (0, 0)) := hw'.out
    have e : splice cs.toList 0 ((List.range n).map f) = (List.range n).map f := by
      have : cs.toList.length = n := by simpa using hsize
      simp only [splice, List.take_zero, List.nil_append, hlen, Nat.zero_add]
      rw [List.drop_eq_nil_of_le (by omega), List.append_nil]
    rw [e] at hw2
    rw [hlen]
    exact h w' ⟨_, hw2, by simp, fun i hi => by simp [hi]⟩ hb

end Go.Proofs.Qxb6618430a
