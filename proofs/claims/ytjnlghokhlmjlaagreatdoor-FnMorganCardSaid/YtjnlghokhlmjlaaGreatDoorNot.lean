import Derived.Test.YtjnlghokhlmjlaaGreatDoorDoor
namespace Go.Proofs.YtjnlghokhlmjlaaGreatDoor
open Go.RowKit
attribute [local go_sem] run_store_float

theorem IsL.first {w : World} {L : Nat} {el : List Nat} {v : Value} {vs : List Value} (h : IsL w L el (v :: vs)) : ∃ f, el[0]? = some f ∧ f < w.heap.size ∧ w.cell? ⟨f, 3, none⟩ = some v := by
  have hl := h.len
  match el, hl with
  | f :: el, _ =>
    obtain ⟨x, hx, hk⟩ := h.elem 0 f rfl
    simp at hx; subst hx
    exact ⟨f, rfl, hk.lt, hk.cell 3⟩

set_option maxRecDepth 100000 in
/-- NOT of a truth or a number -/
theorem NOT_num (x : Nat) (c : Bool) (hx : (FloatKind.f64.format.order x 0 != some .eq) = c) (b : Bool) (s t : ByteArray) (w : World) (g L : Nat) (el : List Nat) (h : IsL w L el [.iface 70 (fa x s b t 1)]) :
    Calls Tryz.prog 44 #[ptr g, ptr L] w fun e w' => e = .returned (fa (if c then 0 else one64) es true es 1) ∧ Below w.heap.size w w' := by
  obtain ⟨f, hf, hflt, hv⟩ := h.first
  unfold fa at hv
  have hta := fun (u : Value) wx => run_typeAssert_struct (P := Tryz.prog) 70 20 u wx Tryz.underlying70
  have H := hid h
  have Hf := hid hf
  clear h hf
  cases c
  all_goals
    go_enter Tryz.func44, Tryz.ntmps44
    go_wp2_with fail
    refine (len_any (H.out.keep ((Below.refl _ _).alloc (Nat.le_refl _) _))).mono ?_
    rintro e w1 ⟨rfl, rfl⟩
    go_wp2_with fail
    refine (front_any (H.out.keep ((Below.refl _ _).alloc (Nat.le_refl _) _)) Hf.out).mono ?_
    rintro e w1 ⟨rfl, rfl⟩
    go_wp2_with fail
    refine (newBool_any _ _).mono ?_
    rintro e w2 ⟨rfl, hb⟩
    obtain ⟨hc, hfr⟩ := bcell hb
    first | simp only [Bool.false_eq_true, if_false] | simp only [if_true]
    unfold fa
    go_wp2
    exact end_cell Tryz.results44 rfl (Bk.set10 (Bk.below ((Bk.new_at rfl).alloc _) hb (by simp; omega)) _ _ _ _ _ _ _ _ _ _) Tryz.underlying70 rfl info_fa rfl
      ⟨rfl, Below.set10 (Below.lift (((Below.refl _ _).alloc (Nat.le_refl _) _).alloc (by simp) _) (by simp; omega) hb) (Nat.le_refl _) _ _ _ _ _ _ _ _ _ _⟩
end Go.Proofs.YtjnlghokhlmjlaaGreatDoor
