import Derived.Test.YtndabbepepbnmaaGreatDoorSaidBase
namespace Go.Proofs.YtndabbepepbnmaaGreatDoor
open Go.RowKit
attribute [local go_sem] run_store_float

set_option maxRecDepth 100000 in
theorem said_REPT (l : List SV) (s : ByteArray) (hF : Fn 129 (l.map avOf) (.str s)) (v : Value) (w : World) (h : Args w v l) :
    Calls Tryz.prog 18 #[.func (.func 62) #[] #[], v] w fun e w' => e = .returned (sv 2 0 0 s) ∧ Below w.heap.size w w' := by
  obtain ⟨A, c, rfl, hl, hc⟩ := h.1
  have HF := hid hF
  have HA := hid h
  clear hF h hl hc
  go_enter Tryz.func18, Tryz.ntmps18
  go_wp2_with fail
  refine (all_any l _ _ ((HA.out.1.keep ((Below.refl _ _).alloc (Nat.le_refl _) _)).more (by simp)) HA.out.2.1 HA.out.2.2).mono ?_
  rintro e w1 ⟨v1, rfl, hS1, hb1⟩
  go_wp2_with fail
  refine (impl_REPT _ _ HF.out v1 w1 hS1 HA.out.avs (by rw [List.length_map]; exact HA.out.2.2)).mono ?_
  rintro e w2 ⟨rfl, hb2⟩
  have hz1 : w.heap.size + 1 ≤ w1.heap.size := by have := hb1.size; simpa using this
  have hz2 : w.heap.size < w2.heap.size := by have := hb2.size; omega
  have hB2 := (Bk.below (Bk.new w 24 #[.int .i64 0, .int .i64 0, .int .i64 0, .string ⟨#[]⟩, .slice none 0 0]) hb1 (by simp)).below hb2 (by omega)
  have hd2 : Below w.heap.size w w2 := Below.lift (Below.lift ((Below.refl _ _).alloc (Nat.le_refl _) _) (by simp) hb1) (by omega) hb2
  clear hb1 hb2 hS1
  dsimp only [avV, iv, Res.av]
  go_wp2_with fail
  refine (str_any s _).mono ?_
  rintro e w3 ⟨rfl, hb3⟩
  have hz3 : w.heap.size < w3.heap.size := by have := hb3.size; simp at this; omega
  have hB3 := (hB2.alloc _).below hb3 (by simp; omega)
  have hd3 := Below.lift (hd2.alloc (by omega) _) (by simp; omega) hb3
  clear hb3 hB2 hd2
  obtain ⟨q0, q1, q2, q3, q4, qf⟩ := hB3.cells5
  unfold sv
  go_wp2_with fail
  exact end_cell Tryz.results18 rfl (Bk.set5 hB3 _ _ _ _ _) Tryz.underlying24 rfl info_sv rfl
    ⟨rfl, Below.set5 hd3 (Nat.le_refl _) _ _ _ _ _⟩
end Go.Proofs.YtndabbepepbnmaaGreatDoor
