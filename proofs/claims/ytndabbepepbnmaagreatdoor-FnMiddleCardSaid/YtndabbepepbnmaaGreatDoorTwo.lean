import Derived.Test.YtndabbepepbnmaaGreatDoorToNum
namespace Go.Proofs.YtndabbepepbnmaaGreatDoor
open Go.RowKit
attribute [local go_sem] run_store_float

theorem back_any {L f : Nat} {es : List Nat} {vs : List Value} {w : World} (h : IsL w L es vs) (h0 : es[vs.length - 1]? = some f) (hn : 0 < vs.length) :
    Calls Tryz.prog 142 #[ptr L] w fun e w' => e = .returned (ptr f) ∧ w = w' := by
  have c4 : w.cell? ⟨L, 4, none⟩ = some (.int .i64 (vs.length : Int)) := h.root.cell 4
  have c0 : w.cell? ⟨L, 1, none⟩ = some (ptr (es.getD (es.length - 1) L)) := h.root.cell 1
  have e0 : es.getD (es.length - 1) L = f := by
    rw [h.len, List.getD_eq_getElem?_getD, h0]; rfl
  rw [e0] at c0
  have hp : (0 : Int) < (vs.length : Int) := by omega
  have hb : ((vs.length : Int) == 0) = false := by simp; intro hh; rw [hh] at hn; simp at hn
  clear e0 h0 hn
  go_enter Tryz.func142, Tryz.ntmps142
  go_wp2
  go_ret
  exact ⟨rfl, rfl⟩

end Go.Proofs.YtndabbepepbnmaaGreatDoor
