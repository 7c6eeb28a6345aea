import Derived.Test.YtdanlcciefbboaaGreatProg
namespace Go.Proofs.YtdanlcciefbboaaGreat

/-- the reference's round: the best so far, how often it stands, whether another stands as often -/
def refStep (l : List Int) (st : Option Int × Nat × Bool) (x : Int) : Option Int × Nat × Bool :=
  if st.2.1 < l.count x then (some x, l.count x, false) else if l.count x = st.2.1 ∧ 1 < l.count x ∧ st.1 ≠ some x then (st.1, st.2.1, true) else st
def refMode (l : List Int) : Option Int × Nat × Bool := l.foldl (refStep l) (none, 1, false)
/-- the program's round: how many others equal the best, the best -/
def impStep (s : List Int) (st : Nat × Int) (x : Int) : Nat × Int := if st.1 < s.count x - 1 then (s.count x - 1, x) else st
def impMode (s : List Int) : Nat × Int := s.foldl (impStep s) (0, 0)

def RefInv (l p : List Int) (st : Option Int × Nat × Bool) : Prop :=
  1 ≤ st.2.1 ∧ (∀ x ∈ p, l.count x ≤ st.2.1) ∧ (st.1 = none → st.2.1 = 1) ∧ (∀ b, st.1 = some b → b ∈ p ∧ l.count b = st.2.1 ∧ 1 < st.2.1) ∧ (st.2.2 = false → ∀ x ∈ p, l.count x = st.2.1 → 1 < st.2.1 → st.1 = some x)
theorem refStep_inv {l p : List Int} {st : Option Int × Nat × Bool} (h : RefInv l p st) (x : Int) : RefInv l (p ++ [x]) (refStep l st x) := by
  obtain ⟨h1, h2, h3, h4, h5⟩ := h
  unfold refStep
  by_cases c1 : st.2.1 < l.count x
  · rw [if_pos c1]
    refine ⟨by dsimp only; omega, fun y hy => ?_, (fun e => by cases e), fun b e => ?_, fun _ y hy he hg => ?_⟩
    · dsimp only
      rcases List.mem_append.1 hy with hy | hy
      · have := h2 y hy; omega
      · obtain rfl := List.mem_singleton.1 hy; omega
    · injection e with e
      subst e
      exact ⟨by simp, rfl, by dsimp only; omega⟩
    · dsimp only at he hg
      rcases List.mem_append.1 hy with hy | hy
      · have := h2 y hy; omega
      · obtain rfl := List.mem_singleton.1 hy; rfl
  · rw [if_neg c1]
    by_cases c2 : l.count x = st.2.1 ∧ 1 < l.count x ∧ st.1 ≠ some x
    · rw [if_pos c2]
      refine ⟨h1, fun y hy => ?_, h3, fun b e => ?_, fun e => by cases e⟩
      · rcases List.mem_append.1 hy with hy | hy
        · exact h2 y hy
        · obtain rfl := List.mem_singleton.1 hy; dsimp only; omega
      · obtain ⟨a1, a2, a3⟩ := h4 b e
        exact ⟨by simp [a1], a2, a3⟩
    · rw [if_neg c2]
      refine ⟨h1, fun y hy => ?_, h3, fun b e => ?_, fun e y hy he hg => ?_⟩
      · rcases List.mem_append.1 hy with hy | hy
        · exact h2 y hy
        · obtain rfl := List.mem_singleton.1 hy; omega
      · obtain ⟨a1, a2, a3⟩ := h4 b e
        exact ⟨by simp [a1], a2, a3⟩
      · rcases List.mem_append.1 hy with hy | hy
        · exact h5 e y hy he hg
        · obtain rfl := List.mem_singleton.1 hy
          rcases Classical.em (st.1 = some y) with h | h
          · exact h
          · exact absurd ⟨he, by omega, h⟩ c2
theorem refFold_inv (l : List Int) : ∀ (q p : List Int) (st : Option Int × Nat × Bool), RefInv l p st → RefInv l (p ++ q) (q.foldl (refStep l) st)
  | [], p, st, h => by simpa using h
  | x :: q, p, st, h => by
    have := refFold_inv l q (p ++ [x]) (refStep l st x) (refStep_inv h x)
    simpa using this
theorem refMode_inv (l : List Int) : RefInv l l (refMode l) := by
  have := refFold_inv l l [] (none, 1, false) ⟨by decide, (fun x hx => by simp at hx), fun _ => rfl, (fun b e => by cases e), fun _ x hx => by simp at hx⟩
  simpa [refMode] using this

def ImpInv (s p : List Int) (st : Nat × Int) : Prop := (∀ x ∈ p, s.count x - 1 ≤ st.1) ∧ (st.1 ≠ 0 → st.2 ∈ p ∧ s.count st.2 - 1 = st.1)
theorem impStep_inv {s p : List Int} {st : Nat × Int} (h : ImpInv s p st) (x : Int) : ImpInv s (p ++ [x]) (impStep s st x) := by
  obtain ⟨h1, h2⟩ := h
  unfold impStep
  by_cases c : st.1 < s.count x - 1
  · rw [if_pos c]
    refine ⟨fun y hy => ?_, fun _ => ⟨by simp, rfl⟩⟩
    rcases List.mem_append.1 hy with hy | hy
    · have := h1 y hy; dsimp only; omega
    · obtain rfl := List.mem_singleton.1 hy; exact Nat.le_refl _
  · rw [if_neg c]
    refine ⟨fun y hy => ?_, fun h => ⟨by simp [(h2 h).1], (h2 h).2⟩⟩
    rcases List.mem_append.1 hy with hy | hy
    · exact h1 y hy
    · obtain rfl := List.mem_singleton.1 hy; omega
theorem impFold_inv (s : List Int) : ∀ (q p : List Int) (st : Nat × Int), ImpInv s p st → ImpInv s (p ++ q) (q.foldl (impStep s) st)
  | [], p, st, h => by simpa using h
  | x :: q, p, st, h => by
    have := impFold_inv s q (p ++ [x]) (impStep s st x) (impStep_inv h x)
    simpa using this
theorem impMode_inv (s : List Int) : ImpInv s s (impMode s) := by
  have := impFold_inv s s [] (0, 0) ⟨(fun x hx => by simp at hx), fun h => absurd rfl h⟩
  simpa [impMode] using this

/-- where the reference is sure, the program says the same -/
theorem mode_same {l s : List Int} (hp : s.Perm l) (ht : (refMode l).2.2 = false) :
    ((refMode l).1 = none ∧ (impMode s).1 = 0) ∨ (∃ x, (refMode l).1 = some x ∧ (impMode s).1 ≠ 0 ∧ (impMode s).2 = x) := by
  obtain ⟨r1, r2, r3, r4, r5⟩ := refMode_inv l
  obtain ⟨i1, i2⟩ := impMode_inv s
  have hc : ∀ x, s.count x = l.count x := fun x => hp.count_eq x
  cases hb : (refMode l).1 with
  | none =>
    left
    refine ⟨rfl, ?_⟩
    have hm := r3 hb
    rcases Nat.eq_zero_or_pos (impMode s).1 with h | h
    · exact h
    · obtain ⟨a1, a2⟩ := i2 (by omega)
      have := r2 _ (hp.mem_iff.1 a1)
      rw [hc] at a2
      omega
  | some b =>
    right
    obtain ⟨a1, a2, a3⟩ := r4 b hb
    have hbs := hp.mem_iff.2 a1
    have h1 := i1 b hbs
    rw [hc] at h1
    have h0 : (impMode s).1 ≠ 0 := by omega
    obtain ⟨c1, c2⟩ := i2 h0
    have c3 := r2 _ (hp.mem_iff.1 c1)
    rw [hc] at c2
    have := r5 ht _ (hp.mem_iff.1 c1) (by omega) a3
    rw [hb] at this
    injection this with this
    exact ⟨b, rfl, h0, this.symm⟩
end Go.Proofs.YtdanlcciefbboaaGreat
