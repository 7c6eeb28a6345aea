import Derived.Test.YtdanlcciefbboaaGreatMem
namespace Go.Proofs.YtdanlcciefbboaaGreat
open Go.RowKit

/-- the slice value v holds n elements of sz cells each, below block B: their cells are xs -/
def Sl (w : World) (B sz : Nat) (v : Value) (n : Nat) (xs : List Value) : Prop :=
  ∃ A c, v = .slice A n c ∧ xs.length = n * sz ∧ (0 < n → ∃ b o, A = some ⟨b, o, none⟩ ∧ b < B ∧ ∀ j u, xs[j]? = some u → w.cell? ⟨b, o + j, none⟩ = some u)

section
variable {w w' : World} {B B' sz n : Nat} {v : Value} {xs : List Value}
theorem Sl.keep (h : Sl w B sz v n xs) (hb : Below B w w') : Sl w' B sz v n xs := by
  obtain ⟨A, c, hv, hl, hc⟩ := h
  refine ⟨A, c, hv, hl, fun hn => ?_⟩
  obtain ⟨b, o, hA, hbB, hcell⟩ := hc hn
  exact ⟨b, o, hA, hbB, fun j u hu => (hb.cell (p := ⟨b, o + j, none⟩) hbB).trans (hcell j u hu)⟩
theorem Sl.more (h : Sl w B sz v n xs) (hB : B ≤ B') : Sl w B' sz v n xs := by
  obtain ⟨A, c, hv, hl, hc⟩ := h
  refine ⟨A, c, hv, hl, fun hn => ?_⟩
  obtain ⟨b, o, hA, hbB, hcell⟩ := hc hn
  exact ⟨b, o, hA, by omega, hcell⟩
theorem Sl.cast {n' : Nat} {xs' : List Value} (h : Sl w B sz v n xs) (hn : n = n') (hx : xs = xs') : Sl w B sz v n' xs' := by subst hn; subst hx; exact h
theorem Sl.nil (w : World) (B sz : Nat) : Sl w B sz (.slice none 0 0) 0 [] := ⟨none, 0, rfl, by simp, fun h => absurd h (by omega)⟩
theorem add_mid (b o j : Nat) : (⟨b, o, none⟩ : Addr).add j = ⟨b, o + j, none⟩ := by unfold Addr.add; split <;> simp_all
theorem Sl.of_own {base : Nat} {e : TypeId} (h : w.ownsRow base e sz v n xs) : Sl w w.heap.size sz v n xs := by
  rcases h.2 with ⟨rfl, rfl⟩ | ⟨g, cap, cur, rfl, hg, hh, hr⟩
  · exact ⟨none, 0, rfl, h.1, fun hn => absurd hn (by omega)⟩
  · refine ⟨_, cap, rfl, h.1, fun _ => ⟨g, 0, rfl, (Array.getElem?_eq_some_iff.1 hh).1, fun j u hu => ?_⟩⟩
    have := h.cells (g := g) rfl j u hu
    rw [add_mid] at this; exact this
/-- a row that the call has just laid -/
theorem Sl.lit {g : Nat} {t : TypeId} {cs : Array Value} (h : Bk w g t cs) (c : Nat) (hs : cs.size = n * sz) : Sl w w.heap.size sz (.slice (some ⟨g, 0, none⟩) n c) n cs.toList :=
  ⟨_, c, rfl, by simpa using hs, fun _ => ⟨g, 0, rfl, h.lt, fun j u hu => by rw [h.cell, Nat.zero_add]; simpa using hu⟩⟩
end

theorem own_keep {w w' : World} {base : Nat} {e : TypeId} {sz n : Nat} {v : Value} {xs : List Value} (h : w.ownsRow base e sz v n xs) (hb : Below w.heap.size w w') : w'.ownsRow base e sz v n xs :=
  h.kept (row := none) ⟨hb.os, hb.tape, hb.output, hb.size, fun k hk _ => hb.block k hk⟩ (Classical.em _)

/-- the cells of element k in a list of records, each of sz cells -/
theorem flat_at {α : Type} (f : α → List Value) (sz : Nat) (hf : ∀ a, (f a).length = sz) : ∀ (l : List α) (k : Nat) (a : α) (j : Nat), l[k]? = some a → j < sz → (l.flatMap f)[k * sz + j]? = (f a)[j]?
  | [], k, a, j, h, _ => by simp at h
  | b :: l, 0, a, j, h, hj => by
    simp at h; subst h
    rw [List.flatMap_cons, Nat.zero_mul, Nat.zero_add, List.getElem?_append_left (by rw [hf]; exact hj)]
  | b :: l, k + 1, a, j, h, hj => by
    rw [List.flatMap_cons, List.getElem?_append_right (by rw [hf, Nat.add_mul]; omega), hf, show (k + 1) * sz + j - sz = k * sz + j by rw [Nat.add_mul]; omega]
    exact flat_at f sz hf l k a j (by simpa using h) hj
theorem flat_len {α : Type} (f : α → List Value) (sz : Nat) (hf : ∀ a, (f a).length = sz) (l : List α) : (l.flatMap f).length = l.length * sz := by
  induction l with
  | nil => simp
  | cons a l ih => rw [List.flatMap_cons, List.length_append, hf, ih, List.length_cons, Nat.add_mul]; omega
theorem flat_take {α : Type} (f : α → List Value) (l : List α) (k : Nat) (a : α) (h : l[k]? = some a) : (l.take (k + 1)).flatMap f = (l.take k).flatMap f ++ f a := by
  rw [List.take_add_one, h]; simp
end Go.Proofs.YtdanlcciefbboaaGreat
namespace Go.Proofs.YtdanlcciefbboaaGreat
open Go.RowKit

/-- of two rows of different types none is the other's -/
theorem own_ne {w : World} {b1 b2 s1 s2 n1 n2 : Nat} {e1 e2 : TypeId} {v1 v2 : Value} {x1 x2 : List Value} (h1 : w.ownsRow b1 e1 s1 v1 n1 x1) (h2 : w.ownsRow b2 e2 s2 v2 n2 x2) (hne : e1 ≠ e2) :
    v1.ownBlock = none ∨ v1.ownBlock ≠ v2.ownBlock := by
  rcases h1.2 with ⟨rfl, _⟩ | ⟨g, cap, cur, rfl, _, hg, _⟩
  · exact .inl rfl
  · rcases h2.2 with ⟨rfl, _⟩ | ⟨g', cap', cur', rfl, _, hg', _⟩
    · right; simp [Value.ownBlock]
    · right
      intro he
      simp [Value.ownBlock] at he
      subst he
      rw [hg] at hg'
      simp at hg'
      exact hne hg'.2

section
variable {α : Type} {w w' : World} {base sz : Nat} {e : TypeId} {f : α → List Value} {hs : List Value} {rows : List (List α)}

/-- rows of the call's own: header i is a row of its own that holds the cells of rows[i] -/
def OR (w : World) (base : Nat) (e : TypeId) (sz : Nat) (f : α → List Value) (hs : List Value) (rows : List (List α)) : Prop :=
  hs.length = rows.length ∧ ∀ (i : Nat) (h : Value) (r : List α), hs[i]? = some h → rows[i]? = some r → w.ownsRow base e sz h r.length (r.flatMap f)

theorem OR.nil (w : World) (base : Nat) (e : TypeId) (sz : Nat) (f : α → List Value) : OR w base e sz f [] [] := ⟨rfl, fun i h r hi => by simp at hi⟩
theorem OR.push {h : Value} {r : List α} (H : OR w base e sz f hs rows) (hr : w.ownsRow base e sz h r.length (r.flatMap f)) : OR w base e sz f (hs ++ [h]) (rows ++ [r]) := by
  refine ⟨by simp [H.1], fun i h' r' hi hi' => ?_⟩
  rcases Nat.lt_trichotomy i hs.length with hl | hl | hl
  · rw [List.getElem?_append_left hl] at hi
    rw [List.getElem?_append_left (by rw [← H.1]; exact hl)] at hi'
    exact H.2 i h' r' hi hi'
  · subst hl
    rw [List.getElem?_append_right (Nat.le_refl _)] at hi
    rw [List.getElem?_append_right (by rw [H.1]; exact Nat.le_refl _), H.1] at hi'
    simp at hi hi'
    subst hi; subst hi'
    exact hr
  · rw [List.getElem?_eq_none (by simp; omega)] at hi; cases hi
theorem OR.keep (H : OR w base e sz f hs rows) (hb : Below w.heap.size w w') : OR w' base e sz f hs rows :=
  ⟨H.1, fun i h r hi hr => own_keep (H.2 i h r hi hr) hb⟩
theorem OR.grown {base' sz' n : Nat} {e' : TypeId} {v : Value} {xs : List Value} (H : OR w base e sz f hs rows) (ho : w.ownsRow base' e' sz' v n xs) (hne : e ≠ e') (hg : w.grownBy w' v.ownBlock) : OR w' base e sz f hs rows :=
  ⟨H.1, fun i h r hi hr => (H.2 i h r hi hr).kept hg (own_ne (H.2 i h r hi hr) ho hne)⟩
theorem OR.set_below (H : OR w base e sz f hs rows) {a : Addr} (ha : a.block < base) (u : Value) : OR (w.setCell a u) base e sz f hs rows :=
  ⟨H.1, fun i h r hi hr => ownsRow_setCell_below (H.2 i h r hi hr) ha u⟩
theorem OR.alloc (H : OR w base e sz f hs rows) (o : Obj) : OR (w.alloc o) base e sz f hs rows :=
  ⟨H.1, fun i h r hi hr => (H.2 i h r hi hr).alloc o⟩
theorem own_base {w : World} {base base' sz n : Nat} {e : TypeId} {v : Value} {xs : List Value} (h : w.ownsRow base e sz v n xs) (hb : base' ≤ base) : w.ownsRow base' e sz v n xs := by
  refine ⟨h.1, ?_⟩
  rcases h.2 with hn | ⟨g, cap, cur, rfl, hg, rest⟩
  · exact .inl hn
  · exact .inr ⟨g, cap, cur, rfl, by omega, rest⟩

/-- as Sl, the block one of S -/
def SlP (w : World) (S : Nat → Prop) (sz : Nat) (v : Value) (n : Nat) (xs : List Value) : Prop :=
  ∃ A c, v = .slice A n c ∧ xs.length = n * sz ∧ (0 < n → ∃ b o, A = some ⟨b, o, none⟩ ∧ S b ∧ ∀ j u, xs[j]? = some u → w.cell? ⟨b, o + j, none⟩ = some u)
theorem SlP.keep {S S' : Nat → Prop} {n : Nat} {v : Value} {xs : List Value} (h : SlP w S sz v n xs) (hk : ∀ b, S b → w'.heap[b]? = w.heap[b]? ∧ S' b) : SlP w' S' sz v n xs := by
  obtain ⟨A, c, hv, hl, hc⟩ := h
  refine ⟨A, c, hv, hl, fun hn => ?_⟩
  obtain ⟨b, o, hA, hS, hcell⟩ := hc hn
  exact ⟨b, o, hA, (hk b hS).2, fun j u hu => (World.cell?_of_block (w := w) (a := ⟨b, o + j, none⟩) (hk b hS).1).trans (hcell j u hu)⟩
theorem SlP.old {B : Nat} {n : Nat} {v : Value} {xs : List Value} (h : SlP w (fun b => b < B) sz v n xs) : Sl w B sz v n xs := h
theorem SlP.of_own {n : Nat} {v : Value} {xs : List Value} (h : w.ownsRow base e sz v n xs) : SlP w (fun b => base ≤ b ∧ b < w.heap.size) sz v n xs := by
  rcases h.2 with ⟨rfl, rfl⟩ | ⟨g, cap, cur, rfl, hg, hh, hr⟩
  · exact ⟨none, 0, rfl, h.1, fun hn => absurd hn (by omega)⟩
  · refine ⟨_, cap, rfl, h.1, fun _ => ⟨g, 0, rfl, ⟨hg, (Array.getElem?_eq_some_iff.1 hh).1⟩, fun j u hu => ?_⟩⟩
    have := h.cells (g := g) rfl j u hu
    rw [add_mid] at this; exact this

/-- the slice value v holds rows, in blocks of S; no row: the nil slice -/
def RwP (w : World) (S : Nat → Prop) (sz : Nat) (f : α → List Value) (v : Value) (rows : List (List α)) : Prop :=
  (rows = [] → v = .slice none 0 0) ∧ ∃ hs : List Value, hs.length = rows.length ∧ SlP w S 1 v rows.length hs ∧ ∀ (i : Nat) (h : Value) (r : List α), hs[i]? = some h → rows[i]? = some r → SlP w S sz h r.length (r.flatMap f)

variable {B B' : Nat} {v : Value} {S S' : Nat → Prop}
theorem RwP.keep (H : RwP w S sz f v rows) (hk : ∀ b, S b → w'.heap[b]? = w.heap[b]? ∧ S' b) : RwP w' S' sz f v rows := by
  obtain ⟨h0, hs, hl, h1, h2⟩ := H
  exact ⟨h0, hs, hl, h1.keep hk, fun i h r hi hr => (h2 i h r hi hr).keep hk⟩
theorem RwP.imp (H : RwP w S sz f v rows) (hk : ∀ b, S b → S' b) : RwP w S' sz f v rows := H.keep fun b hb => ⟨rfl, hk b hb⟩
theorem RwP.none_ (w : World) (S : Nat → Prop) (sz : Nat) (f : α → List Value) : RwP w S sz f (.slice none 0 0) ([] : List (List α)) :=
  ⟨fun _ => rfl, [], rfl, ⟨none, 0, rfl, by simp, fun h => absurd h (by simp)⟩, fun i h r hi => by simp at hi⟩
theorem RwP.of_own {e' : TypeId} (ho : w.ownsRow base e' 1 v rows.length hs) (H : OR w base e sz f hs rows) (h0 : rows = [] → v = .slice none 0 0) : RwP w (fun b => base ≤ b ∧ b < w.heap.size) sz f v rows :=
  ⟨h0, hs, H.1, SlP.of_own ho, fun i h r hi hr => SlP.of_own (H.2 i h r hi hr)⟩
/-- rows in old memory -/
abbrev Rws (w : World) (B sz : Nat) (f : α → List Value) (v : Value) (rows : List (List α)) : Prop := RwP w (fun b => b < B) sz f v rows
/-- rows in new memory -/
abbrev Rwn (w w' : World) (sz : Nat) (f : α → List Value) (v : Value) (rows : List (List α)) : Prop := RwP w' (fun b => w.heap.size ≤ b ∧ b < w'.heap.size) sz f v rows
theorem Rws.below (H : Rws w B sz f v rows) (hb : Below B w w') (hB : B ≤ B') : Rws w' B' sz f v rows := RwP.keep H fun b h => ⟨hb.block b h, by omega⟩
theorem RwP.one (H : RwP w S sz f v rows) : v.oneCell' = true := by
  obtain ⟨_, _, _, ⟨A, c, hv, _⟩, _⟩ := H
  rw [hv]; rfl
theorem RwP.form (H : RwP w S sz f v rows) : ∃ A c, v = .slice A rows.length c := by
  obtain ⟨_, _, _, ⟨A, c, hv, _⟩, _⟩ := H
  exact ⟨A, c, hv⟩
theorem Rwn.rws {w0 : World} (H : Rwn w0 w sz f v rows) : Rws w w.heap.size sz f v rows := H.imp fun _ h => h.2

/-- row i of the rows: its header, its length, its cells -/
theorem RwP.row (H : RwP w S sz f v rows) {i : Nat} {r : List α} (hr : rows[i]? = some r) :
    ∃ (b o c : Nat) (h : Value), v = .slice (some ⟨b, o, none⟩) rows.length c ∧ S b ∧ w.cell? ⟨b, o + i, none⟩ = some h ∧ SlP w S sz h r.length (r.flatMap f) := by
  obtain ⟨h0, hs, hl, ⟨A, c, hv, _, hc⟩, h2⟩ := H
  have hi : i < rows.length := (List.getElem?_eq_some_iff.1 hr).1
  obtain ⟨b, o, hA, hbB, hcell⟩ := hc (by omega)
  have hh : hs[i]? = some (hs[i]'(by omega)) := List.getElem?_eq_getElem _
  exact ⟨b, o, c, _, by rw [hv, hA], hbB, hcell i _ hh, h2 i _ r hh hr⟩
end

section
variable {w : World} {base sz n g : Nat} {e : TypeId} {v : Value} {xs : List Value}
theorem own_set4 (h : w.ownsRow base e sz v n xs) (hg : g < base) (y0 y1 y2 y3 : Value) :
    ((((w.setCell ⟨g, 0, none⟩ y0).setCell ⟨g, 1, none⟩ y1).setCell ⟨g, 2, none⟩ y2).setCell ⟨g, 3, none⟩ y3).ownsRow base e sz v n xs :=
  ownsRow_setCell_below (ownsRow_setCell_below (ownsRow_setCell_below (ownsRow_setCell_below h (a := ⟨g, 0, none⟩) hg y0) (a := ⟨g, 1, none⟩) hg y1) (a := ⟨g, 2, none⟩) hg y2) (a := ⟨g, 3, none⟩) hg y3
theorem own_set5 (h : w.ownsRow base e sz v n xs) (hg : g < base) (y0 y1 y2 y3 y4 : Value) :
    (((((w.setCell ⟨g, 0, none⟩ y0).setCell ⟨g, 1, none⟩ y1).setCell ⟨g, 2, none⟩ y2).setCell ⟨g, 3, none⟩ y3).setCell ⟨g, 4, none⟩ y4).ownsRow base e sz v n xs :=
  ownsRow_setCell_below (own_set4 h hg y0 y1 y2 y3) (a := ⟨g, 4, none⟩) hg y4
end
theorem grownBy_set (w : World) (g i : Nat) (v : Value) : w.grownBy (w.setCell ⟨g, i, none⟩ v) (some g) :=
  ⟨rfl, rfl, rfl, by simp [World.setCell], fun k _ hne => Below.heap_setCell w ⟨g, i, none⟩ v k (fun e => hne (by rw [e]))⟩
theorem own_far {w : World} {base sz n g : Nat} {e : TypeId} {v : Value} {xs : List Value} (h : w.ownsRow base e sz v n xs) (hg : v.ownBlock ≠ some g) (i : Nat) (y : Value) : (w.setCell ⟨g, i, none⟩ y).ownsRow base e sz v n xs :=
  h.kept (grownBy_set w g i y) (.inr hg)
/-- a row of the call's own is as it was where five cells of another block are written -/
theorem own_far5 {w : World} {base sz n g : Nat} {e : TypeId} {v : Value} {xs : List Value} (h : w.ownsRow base e sz v n xs) (hg : v.ownBlock ≠ some g) (y0 y1 y2 y3 y4 : Value) :
    (((((w.setCell ⟨g, 0, none⟩ y0).setCell ⟨g, 1, none⟩ y1).setCell ⟨g, 2, none⟩ y2).setCell ⟨g, 3, none⟩ y3).setCell ⟨g, 4, none⟩ y4).ownsRow base e sz v n xs :=
  own_far (own_far (own_far (own_far (own_far h hg 0 y0) hg 1 y1) hg 2 y2) hg 3 y3) hg 4 y4
theorem heap_set5 (w : World) {g k : Nat} (h : k ≠ g) (y0 y1 y2 y3 y4 : Value) :
    (((((w.setCell ⟨g, 0, none⟩ y0).setCell ⟨g, 1, none⟩ y1).setCell ⟨g, 2, none⟩ y2).setCell ⟨g, 3, none⟩ y3).setCell ⟨g, 4, none⟩ y4).heap[k]? = w.heap[k]? := by
  rw [Below.heap_setCell _ _ _ _ h, Below.heap_setCell _ _ _ _ h, Below.heap_setCell _ _ _ _ h, Below.heap_setCell _ _ _ _ h, Below.heap_setCell _ _ _ _ h]
section
variable {α : Type} {w : World} {base sz g : Nat} {e : TypeId} {f : α → List Value} {hs : List Value} {rows : List (List α)}
theorem OR.set4 (H : OR w base e sz f hs rows) (hg : g < base) (y0 y1 y2 y3 : Value) :
    OR ((((w.setCell ⟨g, 0, none⟩ y0).setCell ⟨g, 1, none⟩ y1).setCell ⟨g, 2, none⟩ y2).setCell ⟨g, 3, none⟩ y3) base e sz f hs rows :=
  ⟨H.1, fun i h r hi hr => own_set4 (H.2 i h r hi hr) hg y0 y1 y2 y3⟩
theorem OR.set5 (H : OR w base e sz f hs rows) (hg : g < base) (y0 y1 y2 y3 y4 : Value) :
    OR (((((w.setCell ⟨g, 0, none⟩ y0).setCell ⟨g, 1, none⟩ y1).setCell ⟨g, 2, none⟩ y2).setCell ⟨g, 3, none⟩ y3).setCell ⟨g, 4, none⟩ y4) base e sz f hs rows :=
  ⟨H.1, fun i h r hi hr => own_set5 (H.2 i h r hi hr) hg y0 y1 y2 y3 y4⟩
end

section
variable {α β : Type} {w w' : World} {S S' : Nat → Prop} {sz szb : Nat} {f : (α × List (List β)) × Value → List Value} {fb : β → List Value} {v : Value} {ms : List (α × List (List β))}
/-- a slice of values each of which may have rows -/
def SlM (w : World) (S : Nat → Prop) (sz : Nat) (f : (α × List (List β)) × Value → List Value) (szb : Nat) (fb : β → List Value) (v : Value) (ms : List (α × List (List β))) : Prop :=
  ∃ ps : List ((α × List (List β)) × Value), ps.map (·.1) = ms ∧ SlP w S sz v ps.length (ps.flatMap f) ∧ ∀ p ∈ ps, RwP w S szb fb p.2 p.1.2
theorem SlM.keep (h : SlM w S sz f szb fb v ms) (hk : ∀ b, S b → w'.heap[b]? = w.heap[b]? ∧ S' b) : SlM w' S' sz f szb fb v ms := by
  obtain ⟨ps, h0, h1, h2⟩ := h
  exact ⟨ps, h0, h1.keep hk, fun p hp => (h2 p hp).keep hk⟩
/-- a row of values with rows grows by one: the rows lie elsewhere than the row itself -/
theorem rows_grow {B gg n cap : Nat} {u s' : Value} {wr w2 w4 : World} {o : Obj} {m : α × List (List β)} {qs : List ((α × List (List β)) × Value)}
    (hq : ∀ q ∈ qs, RwP wr (fun b => B ≤ b ∧ b < wr.heap.size ∧ some b ≠ u.ownBlock) szb fb q.2 q.1.2) (hr : Below wr.heap.size wr w2)
    (hn : RwP w2 (fun b => wr.heap.size ≤ b ∧ b < w2.heap.size) szb fb s' m.2) (hg : (w2.alloc o).grownBy w4 u.ownBlock) (hu : ∀ k, u.ownBlock = some k → k < wr.heap.size)
    (hat : u.ownBlock = some gg ∨ gg = w2.heap.size + 1) (hB : B ≤ wr.heap.size) :
    ∀ q ∈ qs ++ [(m, s')], RwP w4 (fun b => B ≤ b ∧ b < w4.heap.size ∧ some b ≠ (Value.slice (some ⟨gg, 0, none⟩) n cap).ownBlock) szb fb q.2 q.1.2 := by
  have hz := hr.size
  have hz4 := hg.size
  have hz5 : (w2.alloc o).heap.size = w2.heap.size + 1 := by simp
  have hold : ∀ b, b < w2.heap.size → some b ≠ u.ownBlock → w4.heap[b]? = w2.heap[b]? := fun b hb hne =>
    (hg.block b (by omega) hne).trans (Below.heap_alloc w2 o b hb)
  have hne : ∀ b, b < w2.heap.size → some b ≠ u.ownBlock → some b ≠ (Value.slice (some ⟨gg, 0, none⟩) n cap).ownBlock := fun b hb h h' => by
    simp [Value.ownBlock] at h'
    subst h'
    rcases hat with ha | ha
    · exact h ha.symm
    · omega
  intro q hmem
  rcases List.mem_append.1 hmem with h | h
  · exact (hq q h).keep fun b hb => ⟨(hold b (by omega) hb.2.2).trans (hr.block b hb.2.1), hb.1, by omega, hne b (by omega) hb.2.2⟩
  · obtain rfl := List.mem_singleton.1 h
    exact RwP.keep hn fun b hb => by
      have h1 : some b ≠ u.ownBlock := fun e => by have := hu b e.symm; omega
      exact ⟨hold b hb.2 h1, by omega, by omega, hne b hb.2 h1⟩
end
end Go.Proofs.YtdanlcciefbboaaGreat
