import Derived.Test.YtndabbepepbnmaaGreatDoorMx
import Derived.Laws.MakeOwn
namespace Go.Proofs.YtndabbepepbnmaaGreatDoor
open Go.RowKit

/-- 'make([]T, n)': an equation for every world -/
theorem mk_eq {P : Program} {z : Value} (t e : TypeId) (i : TypeInfo) (sz by_ : Nat) (ht : P.underlying t = some (.slice e)) (hi : P.info? e = some i) (hz : i.zero = some z) (hs : i.size = sz) (hb : i.bytes = by_)
    (hb2 : by_ ≤ 1000) (n : Nat) (hn : n ≤ 65536) (w : World) :
    (Instr.makeSlice t (.int .i64 (n : Int)) (.int .i64 (n : Int))).run P w = .ok (.slice (some ⟨w.heap.size, 0, none⟩) n n) (w.alloc (.cells (madeCells z.cells (n * sz)) e)) := by
  have hbn : by_ * n ≤ 1000 * 65536 := Nat.mul_le_mul hb2 hn
  have h2 : (i.bytes : Int) * (n : Int) ≤ 281474976710656 := by
    rw [hb, ← Int.natCast_mul]; omega
  have hr := run_make (P := P) w t e i z ht hi hz .i64 .i64 n n (by omega) (by omega) h2 (by omega)
  simp only [Int.toNat_natCast, hs] at hr
  exact hr
/-- 'make([]T, 0, n)' -/
theorem mk0_eq {P : Program} {z : Value} (t e : TypeId) (i : TypeInfo) (sz by_ : Nat) (ht : P.underlying t = some (.slice e)) (hi : P.info? e = some i) (hz : i.zero = some z) (hs : i.size = sz) (hb : i.bytes = by_)
    (hb2 : by_ ≤ 1000) (n : Nat) (hn : n ≤ 65536) (w : World) :
    (Instr.makeSlice t (.int .i64 0) (.int .i64 (n : Int))).run P w = .ok (.slice (some ⟨w.heap.size, 0, none⟩) 0 n) (w.alloc (.cells (madeCells z.cells (n * sz)) e)) := by
  have hbn : by_ * n ≤ 1000 * 65536 := Nat.mul_le_mul hb2 hn
  have h2 : (i.bytes : Int) * (n : Int) ≤ 281474976710656 := by
    rw [hb, ← Int.natCast_mul]; omega
  have hr := run_make (P := P) w t e i z ht hi hz .i64 .i64 0 n (by omega) (by omega) h2 (by omega)
  simp only [Int.toNat_natCast, hs] at hr
  exact hr

section
variable {w w' : World} {g N : Nat} {t : TypeId} {xs : List Value}
/-- block g, of N cells, is written up to xs -/
def Fil (w : World) (g : Nat) (t : TypeId) (N : Nat) (xs : List Value) : Prop := ∃ cs, Bk w g t cs ∧ cs.size = N ∧ ∀ (i : Nat) (u : Value), xs[i]? = some u → cs[i]? = some u
theorem Fil.lt (h : Fil w g t N xs) : g < w.heap.size := by obtain ⟨cs, h, _⟩ := h; exact h.lt
theorem Fil.free (h : Fil w g t N xs) (i : Nat) : w.frozen? ⟨g, i, none⟩ = false := by obtain ⟨cs, h, _⟩ := h; exact h.free i
theorem Fil.at_ (h : Fil w g t N xs) (i : Nat) (hi : i < N) : ∃ u, w.cell? ⟨g, i, none⟩ = some u := by
  obtain ⟨cs, h, hs, _⟩ := h
  exact ⟨cs[i]'(by omega), (h.cell i).trans (Array.getElem?_eq_getElem _)⟩
theorem Fil.keep (h : Fil w g t N xs) (hk : w'.heap[g]? = w.heap[g]?) : Fil w' g t N xs := by
  obtain ⟨cs, h, h2⟩ := h
  exact ⟨cs, hk.trans h, h2⟩
theorem Fil.start {cs : Array Value} (h : Bk w g t cs) (hs : cs.size = N) : Fil w g t N [] := ⟨cs, h, hs, fun i u hi => by simp at hi⟩
theorem Fil.put (h : Fil w g t N xs) {i : Nat} (hi : xs.length = i) (hl : i < N) (u : Value) : Fil (w.setCell ⟨g, i, none⟩ u) g t N (xs ++ [u]) := by
  obtain ⟨cs, h, hs, hx⟩ := h
  refine ⟨_, h.set_ i u, by simpa using hs, fun k v hk => ?_⟩
  rw [Array.getElem?_setIfInBounds]
  by_cases hki : i = k
  · subst hki
    rw [List.getElem?_append_right (by omega), hi] at hk
    simp at hk
    rw [if_pos rfl, if_pos (by omega)]
    simp [hk]
  · rw [if_neg hki]
    by_cases hlt : k < xs.length
    · rw [List.getElem?_append_left hlt] at hk
      exact hx k v hk
    · rw [List.getElem?_eq_none (by simp; omega)] at hk; cases hk
theorem Fil.put10 (h : Fil w g t N xs) {i : Nat} (hi : xs.length = i) (hl : i + 10 ≤ N) (y0 y1 y2 y3 y4 y5 y6 y7 y8 y9 : Value) :
    Fil ((((((((((w.setCell ⟨g, i, none⟩ y0).setCell ⟨g, i + 1, none⟩ y1).setCell ⟨g, i + 2, none⟩ y2).setCell ⟨g, i + 3, none⟩ y3).setCell ⟨g, i + 4, none⟩ y4).setCell ⟨g, i + 5, none⟩ y5).setCell ⟨g, i + 6, none⟩ y6).setCell ⟨g, i + 7, none⟩ y7).setCell ⟨g, i + 8, none⟩ y8).setCell ⟨g, i + 9, none⟩ y9) g t N (xs ++ [y0, y1, y2, y3, y4, y5, y6, y7, y8, y9]) := by
  have h0 := h.put hi (by omega) y0
  have h1 := h0.put (i := i + 1) (by simp [hi]) (by omega) y1
  have h2 := h1.put (i := i + 2) (by simp [hi]) (by omega) y2
  have h3 := h2.put (i := i + 3) (by simp [hi]) (by omega) y3
  have h4 := h3.put (i := i + 4) (by simp [hi]) (by omega) y4
  have h5 := h4.put (i := i + 5) (by simp [hi]) (by omega) y5
  have h6 := h5.put (i := i + 6) (by simp [hi]) (by omega) y6
  have h7 := h6.put (i := i + 7) (by simp [hi]) (by omega) y7
  have h8 := h7.put (i := i + 8) (by simp [hi]) (by omega) y8
  have h9 := h8.put (i := i + 9) (by simp [hi]) (by omega) y9
  simpa using h9
/-- a row that is written to its end is one of the call's own -/
theorem Fil.own {base sz n : Nat} (h : Fil w g t N xs) (hN : N = n * sz) (hl : xs.length = n * sz) (hb : base ≤ g) (hn : n ≤ 65536) : w.ownsRow base t sz (.slice (some ⟨g, 0, none⟩) n n) n xs := by
  obtain ⟨cs, h, hs, hx⟩ := h
  refine ⟨hl, .inr ⟨g, n, cs, rfl, hb, h, Nat.le_refl _, by unfold maxLen; omega, by omega, ?_⟩⟩
  rw [List.take_of_length_le (by simp; omega)]
  apply List.ext_getElem?
  intro i
  by_cases hi : i < xs.length
  · rw [List.getElem?_eq_getElem hi]
    have := hx i _ (List.getElem?_eq_getElem hi)
    simpa using this
  · rw [List.getElem?_eq_none (by simp; omega), List.getElem?_eq_none (by omega)]
end

/-- all but row block g as before -/
theorem grownBy_drewN {a w : World} {o : Option Nat} (h : a.grownBy w o) (n : Nat) : a.grownBy (w.drewN n) o := ⟨h.os, h.tape, h.output, h.size, h.block⟩
theorem grownBy_refl (w : World) (o : Option Nat) : w.grownBy w o := ⟨rfl, rfl, rfl, Nat.le_refl _, fun _ _ _ => rfl⟩
theorem grownBy_below {a w w' : World} {o : Option Nat} (h : a.grownBy w o) (hb : Below w.heap.size w w') : a.grownBy w' o :=
  ⟨hb.os.trans h.os, hb.tape.trans h.tape, hb.output.trans h.output, Nat.le_trans h.size hb.size, fun k hk hne => (hb.block k (Nat.lt_of_lt_of_le hk h.size)).trans (h.block k hk hne)⟩
theorem grownBy_setCell {a w : World} {g : Nat} (h : a.grownBy w (some g)) (i : Nat) (v : Value) : a.grownBy (w.setCell ⟨g, i, none⟩ v) (some g) :=
  ⟨h.os, h.tape, h.output, by simpa [World.setCell] using h.size, fun k hk hne => (Below.heap_setCell w ⟨g, i, none⟩ v k (fun e => hne (by rw [e]))).trans (h.block k hk hne)⟩
/-- rows of the call's own, all older than block g, where g alone is written -/
theorem OR.far {α : Type} {V w w' : World} {base sz g : Nat} {e : TypeId} {f : α → List Value} {hs : List Value} {rows : List (List α)} (H0 : OR V base e sz f hs rows) (H : OR w base e sz f hs rows) (hg : w.grownBy w' (some g)) (hV : V.heap.size ≤ g) : OR w' base e sz f hs rows :=
  ⟨H.1, fun i h r hi hr => (H.2 i h r hi hr).kept hg (.inr fun e => by have := ((H0.2 i h r hi hr).lt g e).2; omega)⟩
/-- of two blocks of different types -/
theorem own_neq {w : World} {base sz n g gg cap : Nat} {e t : TypeId} {N : Nat} {xs ys : List Value} (h : w.ownsRow base e sz (.slice (some ⟨gg, 0, none⟩) n cap) n xs) (hf : Fil w g t N ys) (hne : e ≠ t) : gg ≠ g := by
  rintro rfl
  obtain ⟨cs, hb, _⟩ := hf
  rcases h.2 with ⟨hv, _⟩ | ⟨g', cap', cur, hv, _, hh, _⟩
  · cases hv
  · injection hv with hv
    injection hv with hv
    injection hv with hv
    subst hv
    rw [hb] at hh
    simp at hh
    exact hne hh.2.symm
end Go.Proofs.YtndabbepepbnmaaGreatDoor
