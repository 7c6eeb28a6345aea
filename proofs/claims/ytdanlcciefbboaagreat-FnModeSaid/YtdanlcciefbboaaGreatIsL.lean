import Derived.Test.YtdanlcciefbboaaGreatArg
namespace Go.Proofs.YtdanlcciefbboaaGreat
open Go.RowKit

theorem listNew_any (w : World) : Calls Tryz.prog 49 #[] w fun e w' => e = .returned (.pointer (some ⟨w.heap.size, 0, none⟩)) ∧
    w' = w.alloc (.cells #[.pointer (some ⟨w.heap.size, 0, none⟩), .pointer (some ⟨w.heap.size, 0, none⟩), .pointer none, .nilIface, .int .i64 0] 107) := by
  go_enter Tryz.func49, Tryz.ntmps49
  go_wp2
  go_ret
  exact ⟨rfl, rfl⟩

theorem doorFuncs_any (w : World) : Calls Tryz.prog 23 #[] w fun e w' => ∃ g, e = .returned (.pointer (some ⟨g, 0, none⟩)) ∧ Below w.heap.size w w' := by
  go_enter Tryz.func23, Tryz.ntmps23
  go_wp2
  go_ret
  exact ⟨_, rfl, (Below.refl _ _).alloc (Nat.le_refl _) _⟩

/-- only the blocks p, q, r may have turned; nothing is new -/
structure Only (p q r : Nat) (w w' : World) : Prop where
  size : w'.heap.size = w.heap.size
  os : w'.os = w.os
  tape : w'.tape = w.tape
  output : w'.output = w.output
  block : ∀ k, k ≠ p → k ≠ q → k ≠ r → w'.heap[k]? = w.heap[k]?
theorem Only.refl (p q r : Nat) (w : World) : Only p q r w w := ⟨rfl, rfl, rfl, rfl, fun _ _ _ _ => rfl⟩
theorem Only.set_ {p q r : Nat} {w w' : World} (h : Only p q r w w') (a : Addr) (ha : a.block = p ∨ a.block = q ∨ a.block = r) (u : Value) : Only p q r w (w'.setCell a u) :=
  ⟨by rw [← h.size]; simp [World.setCell], h.os, h.tape, h.output, fun k h1 h2 h3 => (Below.heap_setCell w' a u k (by omega)).trans (h.block k h1 h2 h3)⟩
theorem Only.below {p q r B : Nat} {w w' : World} (h : Only p q r w w') (hp : B ≤ p) (hq : B ≤ q) (hr : B ≤ r) : Below B w w' :=
  ⟨h.os, h.tape, h.output, by rw [h.size]; exact Nat.le_refl _, fun k hk => h.block k (by omega) (by omega) (by omega)⟩

abbrev ptr (g : Nat) : Value := .pointer (some ⟨g, 0, none⟩)
theorem Bk.set2 {w : World} {g : Nat} {t : TypeId} {cs : Array Value} (h : Bk w g t cs) (i j : Nat) (u v : Value) : Bk ((w.setCell ⟨g, i, none⟩ u).setCell ⟨g, j, none⟩ v) g t ((cs.setIfInBounds i u).setIfInBounds j v) := (h.set_ i u).set_ j v

/-- insert behind the root (an empty list) -/
theorem insert_root (L g : Nat) (x : Value) (w : World) (hne : g ≠ L) (n : Int) (hn : 0 ≤ n ∧ n < 1000000)
    (hL : Bk w L 107 #[ptr L, ptr L, .pointer none, .nilIface, .int .i64 n])
    (hg : Bk w g 88 #[.pointer none, .pointer none, .pointer none, x]) :
    Calls Tryz.prog 204 #[ptr L, ptr g, ptr L] w fun e w' =>
      e = .returned (ptr g) ∧
      Bk w' L 107 #[ptr g, ptr g, .pointer none, .nilIface, .int .i64 (n + 1)] ∧
      Bk w' g 88 #[ptr L, ptr L, ptr L, x] ∧ Only L g g w w' := by
  obtain ⟨h1, h2⟩ := hn
  have cL0 := hL.cell 0
  have cL1 := hL.cell 1
  have cL4 := hL.cell 4
  have cg0 := hg.cell 0
  have cg1 := hg.cell 1
  have cg2 := hg.cell 2
  have fL := hL.free
  have fg := hg.free
  simp at cL0 cL1 cL4 cg0 cg1 cg2
  have hne' : L ≠ g := fun e => hne e.symm
  go_enter Tryz.func204, Tryz.ntmps204
  go_wp2
  go_ret
  refine ⟨rfl, ?_, ?_, ?_⟩
  · have := ((((((hL.far (p := ⟨g, 1, none⟩) hne' (ptr L)).far (p := ⟨g, 0, none⟩) hne' (ptr L)).set_ 0 (ptr g)).set_ 1 (ptr g)).far (p := ⟨g, 2, none⟩) hne' (ptr L)).set_ 4 (.int .i64 (n + 1)))
    exact this
  · have := ((((((hg.set_ 1 (ptr L)).set_ 0 (ptr L)).far (p := ⟨L, 0, none⟩) hne (ptr g)).far (p := ⟨L, 1, none⟩) hne (ptr g)).set_ 2 (ptr L)).far (p := ⟨L, 4, none⟩) hne (.int .i64 (n + 1)))
    exact this
  · exact ((((((Only.refl L g g w).set_ ⟨g, 1, none⟩ (by simp) _).set_ ⟨g, 0, none⟩ (by simp) _).set_ ⟨L, 0, none⟩ (by simp) _).set_ ⟨L, 1, none⟩ (by simp) _).set_ ⟨g, 2, none⟩ (by simp) _).set_ ⟨L, 4, none⟩ (by simp) _

/-- insert behind the last element q -/
theorem insert_last (L g q f : Nat) (x y p : Value) (w : World) (hne : g ≠ L) (hq : g ≠ q) (hqL : q ≠ L) (n : Int) (hn : 0 ≤ n ∧ n < 1000000)
    (hL : Bk w L 107 #[ptr f, ptr q, .pointer none, .nilIface, .int .i64 n])
    (hQ : Bk w q 88 #[ptr L, p, ptr L, y])
    (hg : Bk w g 88 #[.pointer none, .pointer none, .pointer none, x]) :
    Calls Tryz.prog 204 #[ptr L, ptr g, ptr q] w fun e w' =>
      e = .returned (ptr g) ∧
      Bk w' L 107 #[ptr f, ptr g, .pointer none, .nilIface, .int .i64 (n + 1)] ∧
      Bk w' q 88 #[ptr g, p, ptr L, y] ∧
      Bk w' g 88 #[ptr L, ptr q, ptr L, x] ∧ Only L g q w w' := by
  obtain ⟨h1, h2⟩ := hn
  have cL0 := hL.cell 0
  have cL1 := hL.cell 1
  have cL4 := hL.cell 4
  have cg0 := hg.cell 0
  have cg1 := hg.cell 1
  have cg2 := hg.cell 2
  have cq0 := hQ.cell 0
  have cq1 := hQ.cell 1
  have fL := hL.free
  have fg := hg.free
  have fq := hQ.free
  simp at cL0 cL1 cL4 cg0 cg1 cg2 cq0 cq1
  have hne' : L ≠ g := fun e => hne e.symm
  have hq' : q ≠ g := fun e => hq e.symm
  have hqL' : L ≠ q := fun e => hqL e.symm
  go_enter Tryz.func204, Tryz.ntmps204
  go_wp2
  go_ret
  refine ⟨rfl, ?_, ?_, ?_, ?_⟩
  · have := ((((((hL.far (p := ⟨g, 1, none⟩) hne' (ptr q)).far (p := ⟨g, 0, none⟩) hne' (ptr L)).far (p := ⟨q, 0, none⟩) hqL' (ptr g)).set_ 1 (ptr g)).far (p := ⟨g, 2, none⟩) hne' (ptr L)).set_ 4 (.int .i64 (n + 1)))
    exact this
  · have := ((((((hQ.far (p := ⟨g, 1, none⟩) hq' (ptr q)).far (p := ⟨g, 0, none⟩) hq' (ptr L)).set_ 0 (ptr g)).far (p := ⟨L, 1, none⟩) hqL (ptr g)).far (p := ⟨g, 2, none⟩) hq' (ptr L)).far (p := ⟨L, 4, none⟩) hqL (.int .i64 (n + 1)))
    exact this
  · have := ((((((hg.set_ 1 (ptr q)).set_ 0 (ptr L)).far (p := ⟨q, 0, none⟩) hq (ptr g)).far (p := ⟨L, 1, none⟩) hne (ptr g)).set_ 2 (ptr L)).far (p := ⟨L, 4, none⟩) hne (.int .i64 (n + 1)))
    exact this
  · exact ((((((Only.refl L g q w).set_ ⟨g, 1, none⟩ (by simp) _).set_ ⟨g, 0, none⟩ (by simp) _).set_ ⟨q, 0, none⟩ (by simp) _).set_ ⟨L, 1, none⟩ (by simp) _).set_ ⟨g, 2, none⟩ (by simp) _).set_ ⟨L, 4, none⟩ (by simp) _

theorem lazyInit_any (L : Nat) (w : World) (f : Nat) (hc : w.cell? ⟨L, 0, none⟩ = some (ptr f)) :
    Calls Tryz.prog 120 #[ptr L] w fun e w' => e = .returned (.tuple #[]) ∧ w = w' := by
  go_enter Tryz.func120, Tryz.ntmps120
  go_wp2
  go_end0
  exact ⟨rfl, rfl⟩

end Go.Proofs.YtdanlcciefbboaaGreat
namespace Go.Proofs.YtdanlcciefbboaaGreat
open Go.RowKit

theorem hid {p : Prop} (h : p) : Hid p := h

/-- block L is a list.List whose elements lie in the blocks es and hold the interface values vs -/
structure IsL (w : World) (L : Nat) (es : List Nat) (vs : List Value) : Prop where
  len : es.length = vs.length
  root : Bk w L 107 #[ptr (es.getD 0 L), ptr (es.getD (es.length - 1) L), .pointer none, .nilIface, .int .i64 (vs.length : Int)]
  elem : ∀ (i g : Nat), es[i]? = some g → ∃ x, vs[i]? = some x ∧ Bk w g 88 #[ptr (es.getD (i + 1) L), ptr (if i = 0 then L else es.getD (i - 1) L), ptr L, x]
  up : ∀ (i g : Nat), es[i]? = some g → L < g
  inc : ∀ (i j g h : Nat), i < j → es[i]? = some g → es[j]? = some h → g < h

theorem IsL.below {w w' : World} {L B : Nat} {es : List Nat} {vs : List Value} (h : IsL w L es vs) (hb : Below B w w') (hL : L < B) (hB : ∀ (i g : Nat), es[i]? = some g → g < B) : IsL w' L es vs :=
  ⟨h.len, h.root.below hb hL, fun i g hg => by
    obtain ⟨x, hx, hk⟩ := h.elem i g hg
    exact ⟨x, hx, hk.below hb (hB i g hg)⟩, h.up, h.inc⟩
theorem IsL.lt {w : World} {L : Nat} {es : List Nat} {vs : List Value} (h : IsL w L es vs) : ∀ (i g : Nat), es[i]? = some g → g < w.heap.size := fun i g hg => by
  obtain ⟨x, _, hk⟩ := h.elem i g hg
  exact hk.lt
theorem IsL.keep {w w' : World} {L : Nat} {es : List Nat} {vs : List Value} (h : IsL w L es vs) (hb : Below w.heap.size w w') : IsL w' L es vs :=
  h.below hb h.root.lt h.lt

theorem IsL.keepP {w w' : World} {L : Nat} {es : List Nat} {vs : List Value} (h : IsL w L es vs) (hL : w'.heap[L]? = w.heap[L]?) (he : ∀ (i g : Nat), es[i]? = some g → w'.heap[g]? = w.heap[g]?) : IsL w' L es vs :=
  ⟨h.len, hL.trans h.root, fun i g hg => by
    obtain ⟨x, hx, hk⟩ := h.elem i g hg
    exact ⟨x, hx, (he i g hg).trans hk⟩, h.up, h.inc⟩

theorem IsL.nil {w : World} {L : Nat} (h : Bk w L 107 #[ptr L, ptr L, .pointer none, .nilIface, .int .i64 0]) : IsL w L [] [] :=
  ⟨rfl, h, fun i g hg => by simp at hg, fun i g hg => by simp at hg, fun i j g h' _ hg => by simp at hg⟩

theorem insertValue_root (L : Nat) (X : TypeId) (u : Value) (w : World) (n : Int) (hn : 0 ≤ n ∧ n < 1000000)
    (hL : Bk w L 107 #[ptr L, ptr L, .pointer none, .nilIface, .int .i64 n]) :
    Calls Tryz.prog 121 #[ptr L, .iface X u, ptr L] w fun e w' =>
      e = .returned (ptr w.heap.size) ∧
      Bk w' L 107 #[ptr w.heap.size, ptr w.heap.size, .pointer none, .nilIface, .int .i64 (n + 1)] ∧
      Bk w' w.heap.size 88 #[ptr L, ptr L, ptr L, .iface X u] ∧ Only L w.heap.size w.heap.size (w.alloc (.cells #[.pointer none, .pointer none, .pointer none, .iface X u] 88)) w' := by
  have hlt := hL.lt
  go_enter Tryz.func121, Tryz.ntmps121
  go_wp2_with fail
  refine (insert_root L w.heap.size (.iface X u) _ (by omega) n hn (hL.alloc _) (Bk.new w _ _)).mono ?_
  rintro e w1 ⟨rfl, h1, h2, h3⟩
  go_wp2
  go_ret
  exact ⟨rfl, h1, h2, h3⟩

theorem insertValue_last (L q f : Nat) (X : TypeId) (u y p : Value) (w : World) (hqL : q ≠ L) (n : Int) (hn : 0 ≤ n ∧ n < 1000000)
    (hL : Bk w L 107 #[ptr f, ptr q, .pointer none, .nilIface, .int .i64 n])
    (hQ : Bk w q 88 #[ptr L, p, ptr L, y]) :
    Calls Tryz.prog 121 #[ptr L, .iface X u, ptr q] w fun e w' =>
      e = .returned (ptr w.heap.size) ∧
      Bk w' L 107 #[ptr f, ptr w.heap.size, .pointer none, .nilIface, .int .i64 (n + 1)] ∧
      Bk w' q 88 #[ptr w.heap.size, p, ptr L, y] ∧
      Bk w' w.heap.size 88 #[ptr L, ptr q, ptr L, .iface X u] ∧ Only L w.heap.size q (w.alloc (.cells #[.pointer none, .pointer none, .pointer none, .iface X u] 88)) w' := by
  have hlt := hL.lt
  have hlq := hQ.lt
  go_enter Tryz.func121, Tryz.ntmps121
  go_wp2_with fail
  refine (insert_last L w.heap.size q f (.iface X u) y p _ (by omega) (by omega) hqL n hn (hL.alloc _) (hQ.alloc _) (Bk.new w _ _)).mono ?_
  rintro e w1 ⟨rfl, h1, h2, h3, h4⟩
  go_wp2
  go_ret
  exact ⟨rfl, h1, h2, h3, h4⟩

theorem getD_last {es : List Nat} {L : Nat} (h : 0 < es.length) : es[es.length - 1]? = some (es.getD (es.length - 1) L) := by
  rw [List.getElem?_eq_getElem (by omega), List.getD_eq_getElem?_getD, List.getElem?_eq_getElem (by omega)]; rfl

theorem IsL.push {w w' : World} {L q f : Nat} {es : List Nat} {vs : List Value} {x y : Value} {o : Obj} (h : IsL w L es vs) (h0 : 0 < es.length) (hq : es[es.length - 1]? = some q) (hf : Hid (es.getD 0 L = f))
    (h1 : Bk w' L 107 #[ptr f, ptr w.heap.size, .pointer none, .nilIface, .int .i64 ((vs.length : Int) + 1)])
    (h2 : Bk w' q 88 #[ptr w.heap.size, ptr (if es.length - 1 = 0 then L else es.getD (es.length - 1 - 1) L), ptr L, y])
    (h3 : Bk w' w.heap.size 88 #[ptr L, ptr q, ptr L, x]) (h4 : Only L w.heap.size q (w.alloc o) w') (hy : vs[es.length - 1]? = some y) :
    IsL w' L (es ++ [w.heap.size]) (vs ++ [x]) := by
  have hlen := h.len
  have hdq : es.getD (es.length - 1) L = q := by rw [List.getD_eq_getElem?_getD, hq]; rfl
  refine ⟨by simp [hlen], ?_, ?_, ?_, ?_⟩
  · have e1 : (es ++ [w.heap.size]).getD 0 L = f := by rw [← hf.out, List.getD_eq_getElem?_getD, List.getD_eq_getElem?_getD, List.getElem?_append_left h0]
    have e2 : (es ++ [w.heap.size]).getD ((es ++ [w.heap.size]).length - 1) L = w.heap.size := by
      rw [List.length_append, List.getD_eq_getElem?_getD, List.getElem?_append_right (by simp)]; simp
    rw [e1, e2]
    have e3 : (((vs ++ [x]).length : Nat) : Int) = (vs.length : Int) + 1 := by simp
    rw [e3]; exact h1
  · intro i g hg
    rcases Nat.lt_trichotomy i es.length with hi | hi | hi
    · rw [List.getElem?_append_left hi] at hg
      have hp : (if i = 0 then L else (es ++ [w.heap.size]).getD (i - 1) L) = (if i = 0 then L else es.getD (i - 1) L) := by
        by_cases hi0 : i = 0
        · simp [hi0]
        · rw [if_neg hi0, if_neg hi0, List.getD_eq_getElem?_getD, List.getD_eq_getElem?_getD, List.getElem?_append_left (by omega)]
      rw [hp]
      by_cases hlast : i = es.length - 1
      · subst hlast
        obtain rfl : g = q := by rw [hq] at hg; injection hg with hg; exact hg.symm
        refine ⟨y, by rw [List.getElem?_append_left (by omega)]; exact hy, ?_⟩
        have e1 : (es ++ [w.heap.size]).getD (es.length - 1 + 1) L = w.heap.size := by
          rw [List.getD_eq_getElem?_getD, List.getElem?_append_right (by omega), show es.length - 1 + 1 - es.length = 0 by omega]; rfl
        rw [e1]; exact h2
      · obtain ⟨z, hz, hk⟩ := h.elem i g hg
        refine ⟨z, by rw [List.getElem?_append_left (by omega)]; exact hz, ?_⟩
        have e1 : (es ++ [w.heap.size]).getD (i + 1) L = es.getD (i + 1) L := by
          rw [List.getD_eq_getElem?_getD, List.getD_eq_getElem?_getD, List.getElem?_append_left (by omega)]
        rw [e1]
        have hlt := h.lt i g hg
        have hup := h.up i g hg
        have hinc := h.inc i (es.length - 1) g q (by omega) hg hq
        exact (h4.block g (by omega) (by omega) (by omega)).trans (hk.alloc o)
    · subst hi
      rw [List.getElem?_append_right (Nat.le_refl _)] at hg
      simp at hg; subst hg
      refine ⟨x, by rw [List.getElem?_append_right (by omega)]; simp [hlen], ?_⟩
      have e1 : (es ++ [w.heap.size]).getD (es.length + 1) L = L := by rw [List.getD_eq_getElem?_getD, List.getElem?_eq_none (by simp)]; rfl
      have e2 : (es ++ [w.heap.size]).getD (es.length - 1) L = q := by rw [List.getD_eq_getElem?_getD, List.getElem?_append_left (by omega), hq]; rfl
      rw [e1, if_neg (by omega), e2]; exact h3
    · rw [List.getElem?_eq_none (by simp; omega)] at hg; cases hg
  · intro i g hg
    rcases Nat.lt_trichotomy i es.length with hi | hi | hi
    · rw [List.getElem?_append_left hi] at hg; exact h.up i g hg
    · subst hi
      rw [List.getElem?_append_right (Nat.le_refl _)] at hg
      simp at hg; subst hg; exact h.root.lt
    · rw [List.getElem?_eq_none (by simp; omega)] at hg; cases hg
  · intro i j g g' hij hg hg'
    rcases Nat.lt_trichotomy j es.length with hj | hj | hj
    · rw [List.getElem?_append_left (by omega)] at hg hg'; exact h.inc i j g g' hij hg hg'
    · subst hj
      rw [List.getElem?_append_left (by omega)] at hg
      rw [List.getElem?_append_right (Nat.le_refl _)] at hg'
      simp at hg'; subst hg'; exact h.lt i g hg
    · rw [List.getElem?_eq_none (by simp; omega)] at hg'; cases hg'

theorem pushBack_any (L : Nat) (es : List Nat) (vs : List Value) (X : TypeId) (u : Value) (w : World) (h : IsL w L es vs) (hn : vs.length < 1000000) :
    Calls Tryz.prog 50 #[ptr L, .iface X u] w fun e w' => e = .returned (ptr w.heap.size) ∧ IsL w' L (es ++ [w.heap.size]) (vs ++ [.iface X u]) ∧ Below L w w' ∧ w'.heap.size = w.heap.size + 1 ∧ ∀ k, k < w.heap.size → k ≠ L → (∀ (i g : Nat), es[i]? = some g → k ≠ g) → w'.heap[k]? = w.heap[k]? := by
  have hLlt := h.root.lt
  have c0 : w.cell? ⟨L, 0, none⟩ = some (ptr (es.getD 0 L)) := h.root.cell 0
  have c1 : w.cell? ⟨L, 1, none⟩ = some (ptr (es.getD (es.length - 1) L)) := h.root.cell 1
  rcases Nat.eq_zero_or_pos es.length with h0 | h0
  · obtain rfl : es = [] := List.eq_nil_of_length_eq_zero h0
    obtain rfl : vs = [] := List.eq_nil_of_length_eq_zero (by rw [← h.len]; rfl)
    have hroot : Bk w L 107 #[ptr L, ptr L, .pointer none, .nilIface, .int .i64 0] := h.root
    have c1' : w.cell? ⟨L, 1, none⟩ = some (ptr L) := c1
    clear c1
    go_enter Tryz.func50, Tryz.ntmps50
    go_wp2_with fail
    refine (lazyInit_any L _ _ c0).mono ?_
    rintro e w1 ⟨rfl, rfl⟩
    go_wp2_with fail
    refine (insertValue_root L X u w 0 (by omega) hroot).mono ?_
    rintro e w1 ⟨rfl, h1, h2, h3⟩
    go_wp2
    go_ret
    refine ⟨rfl, ?_, ?_, ?_, fun k hk hkL _ => (h3.block k hkL (by omega) (by omega)).trans (Below.heap_alloc w _ k hk)⟩
    · refine ⟨rfl, h1, ?_, ?_, ?_⟩
      · intro i g hg
        match i, hg with
        | 0, hg => simp at hg; subst hg; exact ⟨_, rfl, h2⟩
        | i + 1, hg => simp at hg
      · intro i g hg
        match i, hg with
        | 0, hg => simp at hg; subst hg; exact hLlt
        | i + 1, hg => simp at hg
      · intro i j g g' hij hg hg'
        match j, hg' with
        | 0, hg' => omega
        | j + 1, hg' => simp at hg'
    · exact (Below.refl _ _).alloc (by omega) _ |>.trans (h3.below (by omega) (by omega) (by omega))
    · rw [h3.size]; simp
  · have hq := getD_last (L := L) h0
    obtain ⟨q, hqe⟩ : ∃ q, es.getD (es.length - 1) L = q := ⟨_, rfl⟩
    obtain ⟨f, hfe⟩ : ∃ f, es.getD 0 L = f := ⟨_, rfl⟩
    have hroot := h.root
    rw [hqe] at hq c1 hroot
    rw [hfe] at c0 hroot
    obtain ⟨y, hy, hQ⟩ := h.elem _ _ hq
    have e1 : es.getD (es.length - 1 + 1) L = L := by rw [List.getD_eq_getElem?_getD, List.getElem?_eq_none (by omega)]; rfl
    rw [e1] at hQ
    have hLq := h.up _ _ hq
    have hfe' := hid hfe
    clear hfe
    go_enter Tryz.func50, Tryz.ntmps50
    go_wp2_with fail
    refine (lazyInit_any L _ _ c0).mono ?_
    rintro e w1 ⟨rfl, rfl⟩
    go_wp2_with fail
    refine (insertValue_last L q f X u y _ w (by omega) (vs.length : Int) (by omega) hroot hQ).mono ?_
    rintro e w1 ⟨rfl, h1, h2, h3, h4⟩
    go_wp2
    go_ret
    refine ⟨rfl, IsL.push h h0 hq hfe' h1 h2 h3 h4 hy, ?_, ?_, fun k hk hkL hke => (h4.block k hkL (by omega) (hke _ q hq)).trans (Below.heap_alloc w _ k hk)⟩
    · exact (Below.refl _ _).alloc (by omega) _ |>.trans (h4.below (Nat.le_refl _) (by omega) (by omega))
    · rw [h4.size]; simp
end Go.Proofs.YtdanlcciefbboaaGreat
