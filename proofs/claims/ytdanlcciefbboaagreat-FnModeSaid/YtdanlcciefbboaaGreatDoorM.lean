import Derived.Test.YtdanlcciefbboaaGreatInnerL
import Derived.Test.YtdanlcciefbboaaGreatImpl
namespace Go.Proofs.YtdanlcciefbboaaGreat
open Go.RowKit
attribute [local go_sem] run_store_float

/-- the function number f, called on a list of arguments that may have rows, answers r and makes new memory alone -/
def FnM (f : FuncId) (ms : List AM) (r : Res) : Prop :=
  ∀ (w : World) (g L : Nat) (el : List Nat) (vs : List Value), IsL w L el vs → ArgsOk w (fun b => b < w.heap.size) vs ms → Calls Tryz.prog f #[ptr g, ptr L] w fun e w' => e = .returned r.fa ∧ Below w.heap.size w w'

theorem SlM.form {α β : Type} {w : World} {S : Nat → Prop} {sz szb : Nat} {f : (α × List (List β)) × Value → List Value} {fb : β → List Value} {v : Value} {ms : List (α × List (List β))} (h : SlM w S sz f szb fb v ms) : ∃ A c, v = .slice A ms.length c := by
  obtain ⟨ps, rfl, ⟨A, c, hv, _⟩, _⟩ := h
  exact ⟨A, c, by rw [hv, List.length_map]⟩
theorem SlM.old {α β : Type} {w w' : World} {sz szb : Nat} {f : (α × List (List β)) × Value → List Value} {fb : β → List Value} {v : Value} {ms : List (α × List (List β))} (h : SlM w (fun b => b < w.heap.size) sz f szb fb v ms) (hb : Below w.heap.size w w') : SlM w' (fun b => b < w'.heap.size) sz f szb fb v ms :=
  h.keep fun b hlt => ⟨hb.block b hlt, by have := hb.size; omega⟩

theorem doorM_MODE (ms : List AM) (r : Res) (hF : FnM 24 ms r) (v : Value) (w : World) (h : SlM w (fun b => b < w.heap.size) 4 amCells 4 avCells v ms) (hok : ∀ m ∈ ms, amOk m) (hlen : ms.length ≤ 1000) :
    Calls Tryz.prog 15 #[v] w fun e w' => e = .returned (avV r.av) ∧ Below w.heap.size w w' := by
  obtain ⟨A, c, rfl⟩ := h.form
  have HF := hid hF
  have Hok := hid hok
  have HS := hid h
  clear hF hok h
  go_enter Tryz.func15, Tryz.ntmps15
  go_wp2_with fail
  refine (doorFuncs_any _).mono ?_
  rintro e w1 ⟨g, rfl, hb1⟩
  have hd1 : Below w.heap.size w w1 := Below.lift ((Below.refl w.heap.size w).alloc (Nat.le_refl _) _) (by simp) hb1
  have hs1 := hid (HS.out.old hd1)
  clear hd1
  go_wp2_with fail
  refine (innerList_mat ms _ w1 hs1.out Hok.out hlen).mono ?_
  rintro e w2 ⟨el, vs, rfl, hL, hA, hb2⟩
  clear hs1
  go_wp2_with fail
  refine (HF.out w2 g _ el vs hL hA).mono ?_
  rintro e w3 ⟨rfl, hb3⟩
  clear hL hA
  go_wp2_with fail
  refine (doorArg_any r w3).mono ?_
  rintro e w4 ⟨rfl, hb4⟩
  have hz1 : w.heap.size + 1 ≤ w1.heap.size := by have := hb1.size; simpa using this
  have hz2 := hb2.size
  have hz3 := hb3.size
  have hb : Below (w.alloc (.cells #[.int .i64 0, .float .f64 0, .string ⟨#[]⟩, .slice none 0 0] 48)).heap.size (w.alloc (.cells #[.int .i64 0, .float .f64 0, .string ⟨#[]⟩, .slice none 0 0] 48)) w4 :=
    ((hb1.trans (hb2.mono (by simp; omega))).trans (hb3.mono (by simp; omega))).trans (hb4.mono (by simp; omega))
  clear hb1 hb2 hb3 hb4
  obtain ⟨hcl, hfr⟩ := bcell hb
  unfold avV iv
  go_wp2
  exact end_cell Tryz.results15 rfl (Bk.set4 (Bk.below (Bk.new_at rfl) hb (by simp)) _ _ _ _) Tryz.underlying48 rfl info_av rfl
    ⟨rfl, Below.set4 (Below.lift ((Below.refl _ _).alloc (Nat.le_refl _) _) (by simp) hb) (Nat.le_refl _) _ _ _ _⟩

theorem implM_MODE (ms : List AM) (r : Res) (hF : FnM 24 ms r) (v : Value) (w : World) (h : SlM w (fun b => b < w.heap.size) 4 amCells 4 avCells v ms) (hok : ∀ m ∈ ms, amOk m) (hlen : ms.length ≤ 1000) :
    Calls Tryz.prog 6 #[v] w fun e w' => e = .returned (avV r.av) ∧ Below w.heap.size w w' := by
  obtain ⟨A, c, rfl⟩ := h.form
  have HF := hid hF
  have Hok := hid hok
  have HS := hid h
  clear hF hok h
  go_enter Tryz.func6, Tryz.ntmps6
  go_wp2_with fail
  have hs0 := hid (HS.out.old ((Below.refl w.heap.size w).alloc (Nat.le_refl _) (.cells #[.int .i64 0, .float .f64 0, .string ⟨#[]⟩, .slice none 0 0] 42)))
  refine (in_mat ms _ _ hs0.out (fun m hm => (Hok.out m hm).len) hlen).mono ?_
  rintro e w1 ⟨v1, rfl, hs1, hb1⟩
  have hS1 := hid (hs1.keep (w' := w1) (S' := fun b => b < w1.heap.size) fun b hb => ⟨rfl, hb.2⟩)
  clear hs0 hs1
  go_wp2_with fail
  refine (doorM_MODE ms r HF.out v1 w1 hS1.out Hok.out hlen).mono ?_
  rintro e w2 ⟨rfl, hb2⟩
  clear hS1
  go_wp2_with fail
  refine (outV_any r.av w2).mono ?_
  rintro e w3 ⟨rfl, hb3⟩
  have hz1 : w.heap.size + 1 ≤ w1.heap.size := by have := hb1.size; simpa using this
  have hz2 := hb2.size
  have hb : Below (w.alloc (.cells #[.int .i64 0, .float .f64 0, .string ⟨#[]⟩, .slice none 0 0] 42)).heap.size (w.alloc (.cells #[.int .i64 0, .float .f64 0, .string ⟨#[]⟩, .slice none 0 0] 42)) w3 :=
    (hb1.trans (hb2.mono (by simp; omega))).trans (hb3.mono (by simp; omega))
  clear hb1 hb2 hb3
  obtain ⟨hcl, hfr⟩ := bcell hb
  unfold avV iv
  go_wp2
  exact end_cell Tryz.results6 rfl (Bk.set4 (Bk.below (Bk.new_at rfl) hb (by simp)) _ _ _ _) Tryz.underlying42 rfl info_iv rfl
    ⟨rfl, Below.set4 (Below.lift ((Below.refl _ _).alloc (Nat.le_refl _) _) (by simp) hb) (Nat.le_refl _) _ _ _ _⟩
end Go.Proofs.YtdanlcciefbboaaGreat
