import Derived.Test.YtndabbepepbnmaaGreatDoorNum
import Derived.Test.YtndabbepepbnmaaGreatDoorDoor
namespace Go.Proofs.YtndabbepepbnmaaGreatDoor
open Go.RowKit
attribute [local go_sem] run_store_float

theorem IsL.at_ {w : World} {L : Nat} {el : List Nat} {vs : List Value} (h : IsL w L el vs) {i : Nat} {v : Value} (hv : vs[i]? = some v) : ∃ f, el[i]? = some f ∧ f < w.heap.size ∧ w.cell? ⟨f, 3, none⟩ = some v := by
  have hl := h.len
  have hi : i < el.length := by
    rw [hl]
    rcases Nat.lt_or_ge i vs.length with hh | hh
    · exact hh
    · rw [List.getElem?_eq_none hh] at hv; cases hv
  obtain ⟨x, hx, hk⟩ := h.elem i el[i] (List.getElem?_eq_getElem hi)
  rw [hv] at hx; injection hx with hx; subst hx
  exact ⟨el[i], List.getElem?_eq_getElem hi, hk.lt, hk.cell 3⟩

set_option maxRecDepth 100000 in
theorem toNumber_num (x : Nat) (s : ByteArray) (b : Bool) (t : ByteArray) (w : World) (h : fin x) :
    Calls Tryz.prog 134 #[fa x s b t 1] w fun e w' => e = .returned (fa (nz x) es false es 1) ∧ Below w.heap.size w w' := by
  unfold fa
  go_enter Tryz.func134, Tryz.ntmps134
  go_wp2_with fail
  refine (newNumber_any x _ h).mono ?_
  rintro e w1 ⟨rfl, hb⟩
  obtain ⟨hc, hf⟩ := bcell hb
  unfold fa
  go_wp2_with fail
  exact end_cell Tryz.results134 rfl (Bk.set10 (Bk.below (Bk.new_at (by simp)) hb (by simp)) _ _ _ _ _ _ _ _ _ _) Tryz.underlying78 rfl info_fa rfl
    ⟨rfl, Below.set10 (Below.lift (((Below.refl _ _).alloc (Nat.le_refl _) _).alloc (by simp) _) (by simp; omega) hb) (by simp) _ _ _ _ _ _ _ _ _ _⟩

theorem toNumber_whole (n : Int) (hn : n.natAbs < 9007199254740992) (w : World) :
    Calls Tryz.prog 134 #[fa (enc n 0) es false es 1] w fun e w' => e = .returned (fa (enc n 0) es false es 1) ∧ Below w.heap.size w w' := by
  have := toNumber_num (enc n 0) es false es w (fin_enc n 0 hn (by omega))
  rwa [nz_whole n hn] at this
end Go.Proofs.YtndabbepepbnmaaGreatDoor
