import Derived.Test.YtjnlghokhlmjlaaGreatDoorNum
import Derived.Test.YtjnlghokhlmjlaaGreatDoorDoor
namespace Go.Proofs.YtjnlghokhlmjlaaGreatDoor
open Go.RowKit
attribute [local go_sem] run_store_float

theorem IsL.at_ {w : World} {L : Nat} {el : List Nat} {vs : List Value} (h : IsL w L el vs) {i : Nat} {v : Value} (hv : vs[i]? = some v) : ∃ f, el[i]? = some f ∧ f < w.heap.size ∧ w.cell? ⟨f, 3, none⟩ = some v := by
  have hl := h.len
  have hi : i < el.length := by
    rw [hl]
    rcases Nat.lt_or_ge i vs.length with hh | hh
    · exact hh
    · rw [List.getElem?_eq_none hh] at hv; cases hv
  obtain ⟨x, hx, hk⟩ := h.elem i el[i] (List.getElem?_eq_getElem hi)
  rw [hv] at hx; injection hx with hx; subst hx
  exact ⟨el[i], List.getElem?_eq_getElem hi, hk.lt, hk.cell 3⟩

end Go.Proofs.YtjnlghokhlmjlaaGreatDoor
