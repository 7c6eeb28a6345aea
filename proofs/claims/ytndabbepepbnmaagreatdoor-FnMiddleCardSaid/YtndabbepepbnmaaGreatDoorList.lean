import Derived.Test.YtndabbepepbnmaaGreatDoorArg
namespace Go.Proofs.YtndabbepepbnmaaGreatDoor
open Go.RowKit

theorem listNew_any (w : World) : Calls Tryz.prog 137 #[] w fun e w' => e = .returned (.pointer (some ⟨w.heap.size, 0, none⟩)) ∧
    w' = w.alloc (.cells #[.pointer (some ⟨w.heap.size, 0, none⟩), .pointer (some ⟨w.heap.size, 0, none⟩), .pointer none, .nilIface, .int .i64 0] 136) := by
  go_enter Tryz.func137, Tryz.ntmps137
  go_wp2
  go_ret
  exact ⟨rfl, rfl⟩

theorem doorFuncs_any (w : World) : Calls Tryz.prog 100 #[] w fun e w' => ∃ g, e = .returned (.pointer (some ⟨g, 0, none⟩)) ∧ Below w.heap.size w w' := by
  go_enter Tryz.func100, Tryz.ntmps100
  go_wp2
  go_ret
  exact ⟨_, rfl, (Below.refl _ _).alloc (Nat.le_refl _) _⟩

/-- only the blocks p, q, r may have turned; nothing is new -/
structure Only (p q r : Nat) (w w' : World) : Prop where
  size : w'.heap.size = w.heap.size
  os : w'.os = w.os
  tape : w'.tape = w.tape
  output : w'.output = w.output
  block : ∀ k, k ≠ p → k ≠ q → k ≠ r → w'.heap[k]? = w.heap[k]?
theorem Only.refl (p q r : Nat) (w : World) : Only p q r w w := ⟨rfl, rfl, rfl, rfl, fun _ _ _ _ => rfl⟩
theorem Only.set_ {p q r : Nat} {w w' : World} (h : Only p q r w w') (a : Addr) (ha : a.block = p ∨ a.block = q ∨ a.block = r) (u : Value) : Only p q r w (w'.setCell a u) :=
  ⟨by rw [← h.size]; simp [World.setCell], h.os, h.tape, h.output, fun k h1 h2 h3 => (Below.heap_setCell w' a u k (by omega)).trans (h.block k h1 h2 h3)⟩
theorem Only.below {p q r B : Nat} {w w' : World} (h : Only p q r w w') (hp : B ≤ p) (hq : B ≤ q) (hr : B ≤ r) : Below B w w' :=
  ⟨h.os, h.tape, h.output, by rw [h.size]; exact Nat.le_refl _, fun k hk => h.block k (by omega) (by omega) (by omega)⟩

abbrev ptr (g : Nat) : Value := .pointer (some ⟨g, 0, none⟩)
theorem Bk.set2 {w : World} {g : Nat} {t : TypeId} {cs : Array Value} (h : Bk w g t cs) (i j : Nat) (u v : Value) : Bk ((w.setCell ⟨g, i, none⟩ u).setCell ⟨g, j, none⟩ v) g t ((cs.setIfInBounds i u).setIfInBounds j v) := (h.set_ i u).set_ j v

/-- insert behind the root (an empty list) -/
theorem insert_root (L g : Nat) (x : Value) (w : World) (hne : g ≠ L) (n : Int) (hn : 0 ≤ n ∧ n < 1000000)
    (hL : Bk w L 136 #[ptr L, ptr L, .pointer none, .nilIface, .int .i64 n])
    (hg : Bk w g 96 #[.pointer none, .pointer none, .pointer none, x]) :
    Calls Tryz.prog 196 #[ptr L, ptr g, ptr L] w fun e w' =>
      e = .returned (ptr g) ∧
      Bk w' L 136 #[ptr g, ptr g, .pointer none, .nilIface, .int .i64 (n + 1)] ∧
      Bk w' g 96 #[ptr L, ptr L, ptr L, x] ∧ Only L g g w w' := by
  obtain ⟨h1, h2⟩ := hn
  have cL0 := hL.cell 0
  have cL1 := hL.cell 1
  have cL4 := hL.cell 4
  have cg0 := hg.cell 0
  have cg1 := hg.cell 1
  have cg2 := hg.cell 2
  have fL := hL.free
  have fg := hg.free
  simp at cL0 cL1 cL4 cg0 cg1 cg2
  have hne' : L ≠ g := fun e => hne e.symm
  go_enter Tryz.func196, Tryz.ntmps196
  go_wp2
  go_ret
  refine ⟨rfl, ?_, ?_, ?_⟩
  · have := ((((((hL.far (p := ⟨g, 1, none⟩) hne' (ptr L)).far (p := ⟨g, 0, none⟩) hne' (ptr L)).set_ 0 (ptr g)).set_ 1 (ptr g)).far (p := ⟨g, 2, none⟩) hne' (ptr L)).set_ 4 (.int .i64 (n + 1)))
    exact this
  · have := ((((((hg.set_ 1 (ptr L)).set_ 0 (ptr L)).far (p := ⟨L, 0, none⟩) hne (ptr g)).far (p := ⟨L, 1, none⟩) hne (ptr g)).set_ 2 (ptr L)).far (p := ⟨L, 4, none⟩) hne (.int .i64 (n + 1)))
    exact this
  · exact ((((((Only.refl L g g w).set_ ⟨g, 1, none⟩ (by simp) _).set_ ⟨g, 0, none⟩ (by simp) _).set_ ⟨L, 0, none⟩ (by simp) _).set_ ⟨L, 1, none⟩ (by simp) _).set_ ⟨g, 2, none⟩ (by simp) _).set_ ⟨L, 4, none⟩ (by simp) _

/-- insert behind the last element q -/
theorem insert_last (L g q f : Nat) (x y p : Value) (w : World) (hne : g ≠ L) (hq : g ≠ q) (hqL : q ≠ L) (n : Int) (hn : 0 ≤ n ∧ n < 1000000)
    (hL : Bk w L 136 #[ptr f, ptr q, .pointer none, .nilIface, .int .i64 n])
    (hQ : Bk w q 96 #[ptr L, p, ptr L, y])
    (hg : Bk w g 96 #[.pointer none, .pointer none, .pointer none, x]) :
    Calls Tryz.prog 196 #[ptr L, ptr g, ptr q] w fun e w' =>
      e = .returned (ptr g) ∧
      Bk w' L 136 #[ptr f, ptr g, .pointer none, .nilIface, .int .i64 (n + 1)] ∧
      Bk w' q 96 #[ptr g, p, ptr L, y] ∧
      Bk w' g 96 #[ptr L, ptr q, ptr L, x] ∧ Only L g q w w' := by
  obtain ⟨h1, h2⟩ := hn
  have cL0 := hL.cell 0
  have cL1 := hL.cell 1
  have cL4 := hL.cell 4
  have cg0 := hg.cell 0
  have cg1 := hg.cell 1
  have cg2 := hg.cell 2
  have cq0 := hQ.cell 0
  have cq1 := hQ.cell 1
  have fL := hL.free
  have fg := hg.free
  have fq := hQ.free
  simp at cL0 cL1 cL4 cg0 cg1 cg2 cq0 cq1
  have hne' : L ≠ g := fun e => hne e.symm
  have hq' : q ≠ g := fun e => hq e.symm
  have hqL' : L ≠ q := fun e => hqL e.symm
  go_enter Tryz.func196, Tryz.ntmps196
  go_wp2
  go_ret
  refine ⟨rfl, ?_, ?_, ?_, ?_⟩
  · have := ((((((hL.far (p := ⟨g, 1, none⟩) hne' (ptr q)).far (p := ⟨g, 0, none⟩) hne' (ptr L)).far (p := ⟨q, 0, none⟩) hqL' (ptr g)).set_ 1 (ptr g)).far (p := ⟨g, 2, none⟩) hne' (ptr L)).set_ 4 (.int .i64 (n + 1)))
    exact this
  · have := ((((((hQ.far (p := ⟨g, 1, none⟩) hq' (ptr q)).far (p := ⟨g, 0, none⟩) hq' (ptr L)).set_ 0 (ptr g)).far (p := ⟨L, 1, none⟩) hqL (ptr g)).far (p := ⟨g, 2, none⟩) hq' (ptr L)).far (p := ⟨L, 4, none⟩) hqL (.int .i64 (n + 1)))
    exact this
  · have := ((((((hg.set_ 1 (ptr q)).set_ 0 (ptr L)).far (p := ⟨q, 0, none⟩) hq (ptr g)).far (p := ⟨L, 1, none⟩) hne (ptr g)).set_ 2 (ptr L)).far (p := ⟨L, 4, none⟩) hne (.int .i64 (n + 1)))
    exact this
  · exact ((((((Only.refl L g q w).set_ ⟨g, 1, none⟩ (by simp) _).set_ ⟨g, 0, none⟩ (by simp) _).set_ ⟨q, 0, none⟩ (by simp) _).set_ ⟨L, 1, none⟩ (by simp) _).set_ ⟨g, 2, none⟩ (by simp) _).set_ ⟨L, 4, none⟩ (by simp) _

theorem lazyInit_any (L : Nat) (w : World) (f : Nat) (hc : w.cell? ⟨L, 0, none⟩ = some (ptr f)) :
    Calls Tryz.prog 171 #[ptr L] w fun e w' => e = .returned (.tuple #[]) ∧ w = w' := by
  go_enter Tryz.func171, Tryz.ntmps171
  go_wp2
  go_end0
  exact ⟨rfl, rfl⟩

end Go.Proofs.YtndabbepepbnmaaGreatDoor
