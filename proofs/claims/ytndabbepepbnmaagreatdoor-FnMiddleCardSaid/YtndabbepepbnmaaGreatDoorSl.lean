import Derived.Test.YtndabbepepbnmaaGreatDoorMem
namespace Go.Proofs.YtndabbepepbnmaaGreatDoor
open Go.RowKit

/-- the slice value v holds n elements of sz cells each, below block B: their cells are xs -/
def Sl (w : World) (B sz : Nat) (v : Value) (n : Nat) (xs : List Value) : Prop :=
  ∃ A c, v = .slice A n c ∧ xs.length = n * sz ∧ (0 < n → ∃ b o, A = some ⟨b, o, none⟩ ∧ b < B ∧ ∀ j u, xs[j]? = some u → w.cell? ⟨b, o + j, none⟩ = some u)

section
variable {w w' : World} {B B' sz n : Nat} {v : Value} {xs : List Value}
theorem Sl.keep (h : Sl w B sz v n xs) (hb : Below B w w') : Sl w' B sz v n xs := by
  obtain ⟨A, c, hv, hl, hc⟩ := h
  refine ⟨A, c, hv, hl, fun hn => ?_⟩
  obtain ⟨b, o, hA, hbB, hcell⟩ := hc hn
  exact ⟨b, o, hA, hbB, fun j u hu => (hb.cell (p := ⟨b, o + j, none⟩) hbB).trans (hcell j u hu)⟩
theorem Sl.more (h : Sl w B sz v n xs) (hB : B ≤ B') : Sl w B' sz v n xs := by
  obtain ⟨A, c, hv, hl, hc⟩ := h
  refine ⟨A, c, hv, hl, fun hn => ?_⟩
  obtain ⟨b, o, hA, hbB, hcell⟩ := hc hn
  exact ⟨b, o, hA, by omega, hcell⟩
theorem Sl.cast {n' : Nat} {xs' : List Value} (h : Sl w B sz v n xs) (hn : n = n') (hx : xs = xs') : Sl w B sz v n' xs' := by subst hn; subst hx; exact h
theorem Sl.nil (w : World) (B sz : Nat) : Sl w B sz (.slice none 0 0) 0 [] := ⟨none, 0, rfl, by simp, fun h => absurd h (by omega)⟩
theorem add_mid (b o j : Nat) : (⟨b, o, none⟩ : Addr).add j = ⟨b, o + j, none⟩ := by unfold Addr.add; split <;> simp_all
theorem Sl.of_own {base : Nat} {e : TypeId} (h : w.ownsRow base e sz v n xs) : Sl w w.heap.size sz v n xs := by
  rcases h.2 with ⟨rfl, rfl⟩ | ⟨g, cap, cur, rfl, hg, hh, hr⟩
  · exact ⟨none, 0, rfl, h.1, fun hn => absurd hn (by omega)⟩
  · refine ⟨_, cap, rfl, h.1, fun _ => ⟨g, 0, rfl, (Array.getElem?_eq_some_iff.1 hh).1, fun j u hu => ?_⟩⟩
    have := h.cells (g := g) rfl j u hu
    rw [add_mid] at this; exact this
/-- a row that the call has just laid -/
theorem Sl.lit {g : Nat} {t : TypeId} {cs : Array Value} (h : Bk w g t cs) (c : Nat) (hs : cs.size = n * sz) : Sl w w.heap.size sz (.slice (some ⟨g, 0, none⟩) n c) n cs.toList :=
  ⟨_, c, rfl, by simpa using hs, fun _ => ⟨g, 0, rfl, h.lt, fun j u hu => by rw [h.cell, Nat.zero_add]; simpa using hu⟩⟩
end

theorem own_keep {w w' : World} {base : Nat} {e : TypeId} {sz n : Nat} {v : Value} {xs : List Value} (h : w.ownsRow base e sz v n xs) (hb : Below w.heap.size w w') : w'.ownsRow base e sz v n xs :=
  h.kept (row := none) ⟨hb.os, hb.tape, hb.output, hb.size, fun k hk _ => hb.block k hk⟩ (Classical.em _)

/-- the cells of element k in a list of records, each of sz cells -/
theorem flat_at {α : Type} (f : α → List Value) (sz : Nat) (hf : ∀ a, (f a).length = sz) : ∀ (l : List α) (k : Nat) (a : α) (j : Nat), l[k]? = some a → j < sz → (l.flatMap f)[k * sz + j]? = (f a)[j]?
  | [], k, a, j, h, _ => by simp at h
  | b :: l, 0, a, j, h, hj => by
    simp at h; subst h
    rw [List.flatMap_cons, Nat.zero_mul, Nat.zero_add, List.getElem?_append_left (by rw [hf]; exact hj)]
  | b :: l, k + 1, a, j, h, hj => by
    rw [List.flatMap_cons, List.getElem?_append_right (by rw [hf, Nat.add_mul]; omega), hf, show (k + 1) * sz + j - sz = k * sz + j by rw [Nat.add_mul]; omega]
    exact flat_at f sz hf l k a j (by simpa using h) hj
theorem flat_len {α : Type} (f : α → List Value) (sz : Nat) (hf : ∀ a, (f a).length = sz) (l : List α) : (l.flatMap f).length = l.length * sz := by
  induction l with
  | nil => simp
  | cons a l ih => rw [List.flatMap_cons, List.length_append, hf, ih, List.length_cons, Nat.add_mul]; omega
theorem flat_take {α : Type} (f : α → List Value) (l : List α) (k : Nat) (a : α) (h : l[k]? = some a) : (l.take (k + 1)).flatMap f = (l.take k).flatMap f ++ f a := by
  rw [List.take_add_one, h]; simp
end Go.Proofs.YtndabbepepbnmaaGreatDoor
