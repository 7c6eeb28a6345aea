import Derived.WalkKit
import Derived.WalkSpells
import Derived.WalkLawsBesides
import Derived.Deep.MidRow
import Derived.Deep.Draws
import Derived.Laws.Rows
import Derived.Laws.ResultCell
namespace Go.Proofs.YtdanlcciefbboaaGreat
open Go.RowKit

/-- Below a world's own size: every old cell and mark as before. -/
theorem bcell {B : Nat} {W w1 : World} (hb : Below B W w1) :
    (∀ b o, b < B → w1.cell? ⟨b, o, none⟩ = W.cell? ⟨b, o, none⟩) ∧ (∀ b o, b < B → w1.frozen? ⟨b, o, none⟩ = W.frozen? ⟨b, o, none⟩) :=
  ⟨fun b o h => hb.cell (p := ⟨b, o, none⟩) h, fun b o h => hb.frozen (p := ⟨b, o, none⟩) h⟩

/-- a call's new memory, seen from before the caller's own blocks -/
theorem Below.lift {B : Nat} {w W w1 : World} (h0 : Below B w W) (hB : B ≤ W.heap.size) (h1 : Below W.heap.size W w1) : Below B w w1 :=
  h0.trans (h1.mono hB)

theorem Below.drewN {B : Nat} {a w : World} (h : Below B a w) (n : Nat) : Below B a (w.drewN n) := ⟨h.os, h.tape, h.output, h.size, h.block⟩

theorem run_store_float (P : Program) (w : World) (a : Addr) (m : Mode) (k : FloatKind) (b : Nat) : (store a (.float k b) m).run P w = stored P w a (.float k b) m := run_store P w a _ m rfl

/-- block g holds just these cells, none frozen -/
def Bk (w : World) (g : Nat) (t : TypeId) (cs : Array Value) : Prop := w.heap[g]? = some (.cells cs t (0, 0))
section
variable {w w' : World} {g : Nat} {t : TypeId} {cs : Array Value}
theorem Bk.lt (h : Bk w g t cs) : g < w.heap.size := (Array.getElem?_eq_some_iff.1 h).1
theorem Bk.cell (h : Bk w g t cs) (i : Nat) : w.cell? ⟨g, i, none⟩ = cs[i]? := cell_of_row w g i cs t (0, 0) h
theorem Bk.free (h : Bk w g t cs) (i : Nat) : w.frozen? ⟨g, i, none⟩ = false := frozen_of_row w g i cs t h
theorem Bk.new (w : World) (t : TypeId) (cs : Array Value) : Bk (w.alloc (.cells cs t)) w.heap.size t cs := heap_alloc_new w _
theorem Bk.new_at {w : World} {t : TypeId} {cs : Array Value} {g : Nat} (h : g = w.heap.size) : Bk (w.alloc (.cells cs t)) g t cs := h ▸ heap_alloc_new w _
theorem Bk.alloc (h : Bk w g t cs) (o : Obj) : Bk (w.alloc o) g t cs := (Below.heap_alloc w o g h.lt).trans h
theorem Bk.set_ (h : Bk w g t cs) (i : Nat) (u : Value) : Bk (w.setCell ⟨g, i, none⟩ u) g t (cs.setIfInBounds i u) := heap_setCell_same w g i cs t u h
theorem Bk.far (h : Bk w g t cs) {p : Addr} (hp : g ≠ p.block) (u : Value) : Bk (w.setCell p u) g t cs := (Below.heap_setCell w p u g hp).trans h
theorem Bk.below {B : Nat} (h : Bk w g t cs) (hb : Below B w w') (hg : g < B) : Bk w' g t cs := (hb.block g hg).trans h
theorem Bk.drewN (h : Bk w g t cs) (n : Nat) : Bk (w.drewN n) g t cs := h
end

/-- the end of a function whose one result lies in a block of its own -/
theorem end_cell {P : Program} {fn : Func} {R : Ending → World → Prop} {a : Act} {w : World} {p : Tmp} {T : TypeId} {g : Nat} {cs : Array Value} {d : TypeDesc}
    (hres : fn.results = #[.cell p T]) (hp : a.tmps.getD p undef = .pointer (some ⟨g, 0, none⟩)) (hg : Bk w g T cs)
    (hu : P.underlying T = some d) (hd : (match d with | .struct _ | .array _ _ => true | _ => false) = true) (hi : (P.info? T).map (·.size) = some cs.size)
    (hdf : a.defers = []) (hR : R (.returned (.agg cs)) w) : bodyPost P fn R .ret a w :=
  bodyPost_ret (results_cell_row hres a.tmps w g T cs (0, 0) d hp hg hu hd hi) hdf hR

theorem end_cell_tmp {P : Program} {fn : Func} {R : Ending → World → Prop} {a : Act} {w : World} {p u : Tmp} {T : TypeId} {g : Nat} {cs : Array Value} {d : TypeDesc}
    (hres : fn.results = #[.cell p T, .tmp u]) (hp : a.tmps.getD p undef = .pointer (some ⟨g, 0, none⟩)) (hg : Bk w g T cs)
    (hu : P.underlying T = some d) (hd : (match d with | .struct _ | .array _ _ => true | _ => false) = true) (hi : (P.info? T).map (·.size) = some cs.size)
    (hdf : a.defers = []) (hR : R (.returned (.tuple #[.agg cs, a.tmps.getD u undef])) w) : bodyPost P fn R .ret a w := by
  refine bodyPost_ret (v := .tuple #[.agg cs, a.tmps.getD u undef]) ?_ hdf hR
  rw [results_cell_tmp hres, hp]
  simp [asAddr, run_loadVar_row w g T T cs (0, 0) d hg hu hd hi]

theorem Bk.cells4 {w : World} {g : Nat} {t : TypeId} {x0 x1 x2 x3 : Value} (h : Bk w g t #[x0, x1, x2, x3]) : w.cell? ⟨g, 0, none⟩ = some x0 ∧ w.cell? ⟨g, 1, none⟩ = some x1 ∧ w.cell? ⟨g, 2, none⟩ = some x2 ∧ w.cell? ⟨g, 3, none⟩ = some x3 ∧ ∀ i, w.frozen? ⟨g, i, none⟩ = false :=
  ⟨h.cell 0, h.cell 1, h.cell 2, h.cell 3, h.free⟩
theorem Bk.cells5 {w : World} {g : Nat} {t : TypeId} {x0 x1 x2 x3 x4 : Value} (h : Bk w g t #[x0, x1, x2, x3, x4]) : w.cell? ⟨g, 0, none⟩ = some x0 ∧ w.cell? ⟨g, 1, none⟩ = some x1 ∧ w.cell? ⟨g, 2, none⟩ = some x2 ∧ w.cell? ⟨g, 3, none⟩ = some x3 ∧ w.cell? ⟨g, 4, none⟩ = some x4 ∧ ∀ i, w.frozen? ⟨g, i, none⟩ = false :=
  ⟨h.cell 0, h.cell 1, h.cell 2, h.cell 3, h.cell 4, h.free⟩
theorem Bk.cells10 {w : World} {g : Nat} {t : TypeId} {x0 x1 x2 x3 x4 x5 x6 x7 x8 x9 : Value} (h : Bk w g t #[x0, x1, x2, x3, x4, x5, x6, x7, x8, x9]) : w.cell? ⟨g, 0, none⟩ = some x0 ∧ w.cell? ⟨g, 1, none⟩ = some x1 ∧ w.cell? ⟨g, 2, none⟩ = some x2 ∧ w.cell? ⟨g, 3, none⟩ = some x3 ∧ w.cell? ⟨g, 4, none⟩ = some x4 ∧ w.cell? ⟨g, 5, none⟩ = some x5 ∧ w.cell? ⟨g, 6, none⟩ = some x6 ∧ w.cell? ⟨g, 7, none⟩ = some x7 ∧ w.cell? ⟨g, 8, none⟩ = some x8 ∧ w.cell? ⟨g, 9, none⟩ = some x9 ∧ ∀ i, w.frozen? ⟨g, i, none⟩ = false :=
  ⟨h.cell 0, h.cell 1, h.cell 2, h.cell 3, h.cell 4, h.cell 5, h.cell 6, h.cell 7, h.cell 8, h.cell 9, h.free⟩
theorem Bk.set4 {w : World} {g : Nat} {t : TypeId} {x0 x1 x2 x3 : Value} (h : Bk w g t #[x0, x1, x2, x3]) (y0 y1 y2 y3 : Value) :
    Bk ((((w.setCell ⟨g, 0, none⟩ y0).setCell ⟨g, 1, none⟩ y1).setCell ⟨g, 2, none⟩ y2).setCell ⟨g, 3, none⟩ y3) g t #[y0, y1, y2, y3] :=
  (((h.set_ 0 y0).set_ 1 y1).set_ 2 y2).set_ 3 y3
theorem Bk.set5 {w : World} {g : Nat} {t : TypeId} {x0 x1 x2 x3 x4 : Value} (h : Bk w g t #[x0, x1, x2, x3, x4]) (y0 y1 y2 y3 y4 : Value) :
    Bk (((((w.setCell ⟨g, 0, none⟩ y0).setCell ⟨g, 1, none⟩ y1).setCell ⟨g, 2, none⟩ y2).setCell ⟨g, 3, none⟩ y3).setCell ⟨g, 4, none⟩ y4) g t #[y0, y1, y2, y3, y4] :=
  ((((h.set_ 0 y0).set_ 1 y1).set_ 2 y2).set_ 3 y3).set_ 4 y4
theorem Bk.set10 {w : World} {g : Nat} {t : TypeId} {x0 x1 x2 x3 x4 x5 x6 x7 x8 x9 : Value} (h : Bk w g t #[x0, x1, x2, x3, x4, x5, x6, x7, x8, x9]) (y0 y1 y2 y3 y4 y5 y6 y7 y8 y9 : Value) :
    Bk ((((((((((w.setCell ⟨g, 0, none⟩ y0).setCell ⟨g, 1, none⟩ y1).setCell ⟨g, 2, none⟩ y2).setCell ⟨g, 3, none⟩ y3).setCell ⟨g, 4, none⟩ y4).setCell ⟨g, 5, none⟩ y5).setCell ⟨g, 6, none⟩ y6).setCell ⟨g, 7, none⟩ y7).setCell ⟨g, 8, none⟩ y8).setCell ⟨g, 9, none⟩ y9) g t #[y0, y1, y2, y3, y4, y5, y6, y7, y8, y9] := by
  have h0 : Bk _ g t #[y0, x1, x2, x3, x4, x5, x6, x7, x8, x9] := h.set_ 0 y0
  have h1 : Bk _ g t #[y0, y1, x2, x3, x4, x5, x6, x7, x8, x9] := h0.set_ 1 y1
  have h2 : Bk _ g t #[y0, y1, y2, x3, x4, x5, x6, x7, x8, x9] := h1.set_ 2 y2
  have h3 : Bk _ g t #[y0, y1, y2, y3, x4, x5, x6, x7, x8, x9] := h2.set_ 3 y3
  have h4 : Bk _ g t #[y0, y1, y2, y3, y4, x5, x6, x7, x8, x9] := h3.set_ 4 y4
  have h5 : Bk _ g t #[y0, y1, y2, y3, y4, y5, x6, x7, x8, x9] := h4.set_ 5 y5
  have h6 : Bk _ g t #[y0, y1, y2, y3, y4, y5, y6, x7, x8, x9] := h5.set_ 6 y6
  have h7 : Bk _ g t #[y0, y1, y2, y3, y4, y5, y6, y7, x8, x9] := h6.set_ 7 y7
  have h8 : Bk _ g t #[y0, y1, y2, y3, y4, y5, y6, y7, y8, x9] := h7.set_ 8 y8
  have h9 : Bk _ g t #[y0, y1, y2, y3, y4, y5, y6, y7, y8, y9] := h8.set_ 9 y9
  exact h9

theorem Below.set4 {B : Nat} {a w : World} (h : Below B a w) {g : Nat} (hg : B ≤ g) (y0 y1 y2 y3 : Value) :
    Below B a ((((w.setCell ⟨g, 0, none⟩ y0).setCell ⟨g, 1, none⟩ y1).setCell ⟨g, 2, none⟩ y2).setCell ⟨g, 3, none⟩ y3) :=
  (((h.setCell (p := ⟨g, 0, none⟩) hg y0).setCell (p := ⟨g, 1, none⟩) hg y1).setCell (p := ⟨g, 2, none⟩) hg y2).setCell (p := ⟨g, 3, none⟩) hg y3
theorem Below.set5 {B : Nat} {a w : World} (h : Below B a w) {g : Nat} (hg : B ≤ g) (y0 y1 y2 y3 y4 : Value) :
    Below B a (((((w.setCell ⟨g, 0, none⟩ y0).setCell ⟨g, 1, none⟩ y1).setCell ⟨g, 2, none⟩ y2).setCell ⟨g, 3, none⟩ y3).setCell ⟨g, 4, none⟩ y4) :=
  (Below.set4 h hg y0 y1 y2 y3).setCell (p := ⟨g, 4, none⟩) hg y4
theorem Below.set10 {B : Nat} {a w : World} (h : Below B a w) {g : Nat} (hg : B ≤ g) (y0 y1 y2 y3 y4 y5 y6 y7 y8 y9 : Value) :
    Below B a ((((((((((w.setCell ⟨g, 0, none⟩ y0).setCell ⟨g, 1, none⟩ y1).setCell ⟨g, 2, none⟩ y2).setCell ⟨g, 3, none⟩ y3).setCell ⟨g, 4, none⟩ y4).setCell ⟨g, 5, none⟩ y5).setCell ⟨g, 6, none⟩ y6).setCell ⟨g, 7, none⟩ y7).setCell ⟨g, 8, none⟩ y8).setCell ⟨g, 9, none⟩ y9) :=
  ((((((Below.set4 h hg y0 y1 y2 y3).setCell (p := ⟨g, 4, none⟩) hg y4).setCell (p := ⟨g, 5, none⟩) hg y5).setCell (p := ⟨g, 6, none⟩) hg y6).setCell (p := ⟨g, 7, none⟩) hg y7).setCell (p := ⟨g, 8, none⟩) hg y8).setCell (p := ⟨g, 9, none⟩) hg y9

/-- x.(T), x holding a T (a struct) -/
theorem run_typeAssert_struct {P : Program} (T I : TypeId) (u : Value) (w : World) {fs : Array Field} (h : P.underlying T = some (.struct fs)) :
    (Instr.typeAssert (.iface T u) I T false).run P w = .ok u w := by
  simp [Instr.typeAssert, run_underlying h]

end Go.Proofs.YtdanlcciefbboaaGreat
