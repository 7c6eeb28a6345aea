import Derived.Test.YtndabbepepbnmaaGreatDoorSaidBase
namespace Go.Proofs.YtndabbepepbnmaaGreatDoor
open Go.RowKit
attribute [local go_sem] run_store_float

set_option maxRecDepth 100000 in
theorem said_LEN (l : List SV) (N : Int) (hN1 : -99999999999 ≤ N) (hN2 : N ≤ 99999999999) (hF : Fn 128 (l.map avOf) (.num (enc N 0))) (v : Value) (w : World) (h : Args w v l) :
    Calls Tryz.prog 18 #[.func (.func 61) #[] #[], v] w fun e w' => e = .returned (sv 1 N 1 es) ∧ Below w.heap.size w w' := by
  obtain ⟨A, c, rfl, hl, hc⟩ := h.1
  have HF := hid hF
  have HA := hid h
  clear hF h hl hc
  have hmul := fun wx => run_float_arith (P := Tryz.prog) wx .mul 39 .f64 (enc N 0) (enc 16 0) _ (mul16 N (by omega))
  rw [enc16] at hmul
  have hlo : (FloatKind.f64.format.order (enc N 0) 14009883241494872064 == some .gt) = true := by
    rw [← encLo]
    have := order_enc N (-1000000000000) 0 (by omega) (by decide) (by omega)
    show (Ieee.double.order _ _ == _) = true
    rw [this, Int.compare_eq_gt.2 (by omega)]; rfl
  have hhi : (FloatKind.f64.format.order (enc N 0) 4786511204640096256 == some .lt) = true := by
    rw [← encHi]
    have := order_enc N 1000000000000 0 (by omega) (by decide) (by omega)
    show (Ieee.double.order _ _ == _) = true
    rw [this, Int.compare_eq_lt.2 (by omega)]; rfl
  have hto := fun wx => run_convert_float_int (P := Tryz.prog) wx 39 3 .f64 .i64 (enc (N * 16) 0) (N * 16) (by kernel_rfl) Tryz.underlying3 (toInt_enc (N * 16) (by omega))
  have heq : (FloatKind.f64.format.order (floatOfInt .f64 (N * 16)) (enc (N * 16) 0) == some .eq) = true := by
    rw [floatOfInt_enc]
    show (Ieee.double.order _ _ == _) = true
    rw [order_enc (N * 16) (N * 16) 0 (by omega) (by omega) (by omega), Int.compare_eq_eq.2 rfl]; rfl
  go_enter Tryz.func18, Tryz.ntmps18
  go_wp2_with fail
  refine (all_any l _ _ ((HA.out.1.keep ((Below.refl _ _).alloc (Nat.le_refl _) _)).more (by simp)) HA.out.2.1 HA.out.2.2).mono ?_
  rintro e w1 ⟨v1, rfl, hS1, hb1⟩
  go_wp2_with fail
  refine (impl_LEN _ _ HF.out v1 w1 hS1 HA.out.avs (by rw [List.length_map]; exact HA.out.2.2)).mono ?_
  rintro e w2 ⟨rfl, hb2⟩
  have hz1 : w.heap.size + 1 ≤ w1.heap.size := by have := hb1.size; simpa using this
  have hz2 : w.heap.size < w2.heap.size := by have := hb2.size; omega
  have hB2 := (Bk.below (Bk.new w 24 #[.int .i64 0, .int .i64 0, .int .i64 0, .string ⟨#[]⟩, .slice none 0 0]) hb1 (by simp)).below hb2 (by omega)
  have hd2 : Below w.heap.size w w2 := Below.lift (Below.lift ((Below.refl _ _).alloc (Nat.le_refl _) _) (by simp) hb1) (by omega) hb2
  clear hb1 hb2 hS1
  dsimp only [avV, iv, Res.av]
  go_wp2_with fail
  clear hmul hlo hhi hto heq
  refine (frac_whole N _ hN1 hN2).mono ?_
  rintro e w3 ⟨rfl, hb3⟩
  have hz3 : w.heap.size < w3.heap.size := by have := hb3.size; simp at this; omega
  have hB3 := (hB2.alloc _).below hb3 (by simp; omega)
  have hd3 := Below.lift (hd2.alloc (by omega) _) (by simp; omega) hb3
  clear hb3 hB2 hd2
  obtain ⟨q0, q1, q2, q3, q4, qf⟩ := hB3.cells5
  unfold sv
  go_wp2_with fail
  exact end_cell Tryz.results18 rfl (Bk.set5 hB3 _ _ _ _ _) Tryz.underlying24 rfl info_sv rfl
    ⟨rfl, Below.set5 hd3 (Nat.le_refl _) _ _ _ _ _⟩
end Go.Proofs.YtndabbepepbnmaaGreatDoor
