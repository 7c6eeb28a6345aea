import Derived.Test.YtdanlcciefbboaaGreatSoOwn
import Derived.Test.YtdanlcciefbboaaGreatDoorM
import Derived.Test.YtdanlcciefbboaaGreatToList
import Derived.Test.YtdanlcciefbboaaGreatEl
import Derived.Test.YtdanlcciefbboaaGreatModeL
import Derived.Deep.LoopGhost
import Derived.Deep.QuietTactic
import Derived.BigQuiet
namespace Go.Proofs.YtdanlcciefbboaaGreat
open Go.RowKit
attribute [local go_sem] run_store_float

/-- a row that the call has just laid -/
theorem own_lit {w : World} {g n sz base : Nat} {t : TypeId} {cs : Array Value} (h : Bk w g t cs) (hs : cs.size = n * sz) (hb : base ≤ g) (hn : n ≤ 65536) : w.ownsRow base t sz (.slice (some ⟨g, 0, none⟩) n n) n cs.toList :=
  ⟨by simpa using hs, .inr ⟨g, n, cs, rfl, hb, h, Nat.le_refl _, by unfold maxLen; omega, hs, List.take_of_length_le (by simp [hs])⟩⟩
/-- ToList of a number: the number -/
theorem toList_num (x : Nat) (w : World) : Calls Tryz.prog 46 #[fa x es false es 1] w fun e w' => ∃ A' c', e = .returned (.slice A' 1 c') ∧ w'.ownsRow w.heap.size 63 10 (.slice A' 1 c') 1 (faL x es false es 1) ∧ Below w.heap.size w w' := by
  unfold fa
  go_enter Tryz.func46, Tryz.ntmps46
  go_wp2_with fail
  go_ret
  exact ⟨_, _, rfl, own_lit (n := 1) (Bk.new_at (by simp)) rfl (by omega) (by omega), ((Below.refl _ _).alloc (Nat.le_refl _) _).alloc (by simp) _⟩

/-- the cells of an argument -/
def cellsA (m : AM) : List AV := if m.2 = [] then [m.1] else m.2.flatten
/-- the numbers among cells -/
def numC (l : List AV) : List Value := (l.filter fun a => a.1 == 1).map fun a => .float .f64 a.2.1
theorem numC_append (l k : List AV) : numC (l ++ k) = numC l ++ numC k := by simp [numC]
/-- a cell that MODE may meet: nothing, a number, a text -/
def cellOk (a : AV) : Prop := a.1 = 0 ∨ (a.1 = 1 ∧ nz a.2.1 = a.2.1 ∧ fin a.2.1) ∨ a.1 = 2
/-- an argument that MODE may meet -/
def argMo (m : AM) : Prop := (m.2 = [] ∧ m.1.1 = 1 ∧ nz m.1.2.1 = m.1.2.1 ∧ fin m.1.2.1) ∨ (m.2 ≠ [] ∧ (∀ r ∈ m.2, r ≠ []) ∧ m.2.length ≤ 1000 ∧ m.2.flatten.length ≤ 1000 ∧ ∀ a ∈ m.2.flatten, cellOk a)
theorem argMo.cells {m : AM} (h : argMo m) : (cellsA m).length ≤ 1000 ∧ ∀ a ∈ cellsA m, cellOk a := by
  unfold cellsA
  rcases h with ⟨h0, h1, h2, h3⟩ | ⟨h0, _, _, h4, h5⟩
  · rw [if_pos h0]
    refine ⟨by simp, fun a ha => ?_⟩
    obtain rfl := List.mem_singleton.1 ha
    exact .inr (.inl ⟨h1, h2, h3⟩)
  · rw [if_neg h0]; exact ⟨h4, h5⟩
/-- ToList of an argument: a row with its cells -/
theorem toList_arg {m : AM} (hm : argMo m) {w : World} {v u : Value} (h : ArgOk w (fun b => b < w.heap.size) v m) (hv : v = .iface 63 u) :
    Calls Tryz.prog 46 #[u] w fun e w' => ∃ A' c', e = .returned (.slice A' (cellsA m).length c') ∧ w'.ownsRow w.heap.size 63 10 (.slice A' (cellsA m).length c') (cellsA m).length ((cellsA m).flatMap favC) ∧ Below w.heap.size w w' := by
  subst hv
  unfold cellsA
  rcases hm with ⟨h0, h1, h2, h3⟩ | ⟨h0, h1, h2, h3, _⟩
  · rcases h with ⟨_, he⟩ | ⟨hne, _⟩
    · injection he with _ he
      subst he
      rw [if_pos h0, h1, fav_num, h2]
      have := toList_num m.1.2.1 w
      simpa [fav_numAv ⟨h1, h2⟩] using this
    · exact absurd h0 hne
  · rcases h with ⟨he, _⟩ | ⟨_, u', he, hx⟩
    · exact absurd he h0
    · injection he with _ he
      subst he
      obtain ⟨mm, L1, L2, g, x, rfl, hr, _⟩ := hx
      rw [if_neg h0]
      exact toList_mat m.2 mm L1 L2 w hr h1 h2 h3
end Go.Proofs.YtdanlcciefbboaaGreat
