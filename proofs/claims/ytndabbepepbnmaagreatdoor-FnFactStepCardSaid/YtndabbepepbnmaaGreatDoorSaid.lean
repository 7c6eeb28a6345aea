import Derived.Test.YtndabbepepbnmaaGreatDoorFrac
import Derived.Test.YtndabbepepbnmaaGreatDoorImpl
import Derived.Test.YtndabbepepbnmaaGreatDoorOf
namespace Go.Proofs.YtndabbepepbnmaaGreatDoor
open Go.RowKit
attribute [local go_sem] run_store_float

/-- said: the start: to the value that the function f gives -/
def Args (w : World) (v : Value) (l : List SV) : Prop := Sl w w.heap.size 5 v l.length (l.flatMap svCells) ∧ (∀ a ∈ l, svOk a) ∧ l.length ≤ 1000

theorem Args.avs {w : World} {v : Value} {l : List SV} (h : Args w v l) : ∀ a ∈ l.map avOf, avOk a := by
  intro a ha
  obtain ⟨b, hb, rfl⟩ := List.mem_map.1 ha
  exact avOk_of b (h.2.1 b hb)

theorem mul16 (N : Int) (hN : N.natAbs < 281474976710656) : floatBits .mul .f64 (enc N 0) (enc 16 0) = some (enc (N * 16) 0) := by
  show Ieee.double.mul _ _ = _
  rw [enc_E N, enc_E 16]
  rw [mul_E (decide (N < 0)) (decide ((16 : Int) < 0)) N.natAbs (16 : Int).natAbs 0 0 (by omega) (by decide) (by rw [show (16 : Int).natAbs = 16 from rfl]; omega) (by omega)]
  have e : (decide (N < 0) ^^ decide ((16 : Int) < 0)) = decide (N * 16 < 0) := by
    rw [show decide ((16 : Int) < 0) = false from rfl, Bool.xor_false, decide_eq_decide]; omega
  have e2 : N.natAbs * (16 : Int).natAbs = (N * 16).natAbs := by rw [Int.natAbs_mul]
  rw [e, e2, enc_E]
theorem enc16 : enc 16 0 = 4625196817309499392 := by decide
theorem encLo : enc (-1000000000000) 0 = 14009883241494872064 := by decide
theorem encHi : enc 1000000000000 0 = 4786511204640096256 := by decide

theorem toInt_enc (N : Int) (hN : N.natAbs < 9007199254740992) : floatToIntVal .f64 (enc N 0) .i64 = some N := by
  unfold floatToIntVal
  have h := toInt_E (decide (N < 0)) N.natAbs 0 hN (by omega)
  rw [← enc_E, Nat.pow_zero, Nat.div_one, sg_natAbs] at h
  show (match (Ieee.double.read (enc N 0)).toInt .zero with | some n => if IntKind.i64.min ≤ n ∧ n ≤ IntKind.i64.max then some n else none | none => none) = _
  rw [h]
  have : IntKind.i64.min ≤ N ∧ N ≤ IntKind.i64.max := by
    rw [show IntKind.i64.min = -9223372036854775808 from rfl, show IntKind.i64.max = 9223372036854775807 from rfl]; omega
  exact if_pos this

set_option maxRecDepth 100000 in
theorem said_FACT (l : List SV) (N : Int) (hN1 : -99999999999 ≤ N) (hN2 : N ≤ 99999999999) (hF : Fn 101 (l.map avOf) (.num (enc N 0))) (v : Value) (w : World) (h : Args w v l) :
    Calls Tryz.prog 18 #[.func (.func 19) #[] #[], v] w fun e w' => e = .returned (sv 1 N 1 es) ∧ Below w.heap.size w w' := by
  obtain ⟨A, c, rfl, hl, hc⟩ := h.1
  have HF := hid hF
  have HA := hid h
  clear hF h hl hc
  have hmul := fun wx => run_float_arith (P := Tryz.prog) wx .mul 39 .f64 (enc N 0) (enc 16 0) _ (mul16 N (by omega))
  rw [enc16] at hmul
  have hlo : (FloatKind.f64.format.order (enc N 0) 14009883241494872064 == some .gt) = true := by
    rw [← encLo]
    have := order_enc N (-1000000000000) 0 (by omega) (by decide) (by omega)
    show (Ieee.double.order _ _ == _) = true
    rw [this, Int.compare_eq_gt.2 (by omega)]; rfl
  have hhi : (FloatKind.f64.format.order (enc N 0) 4786511204640096256 == some .lt) = true := by
    rw [← encHi]
    have := order_enc N 1000000000000 0 (by omega) (by decide) (by omega)
    show (Ieee.double.order _ _ == _) = true
    rw [this, Int.compare_eq_lt.2 (by omega)]; rfl
  have hto := fun wx => run_convert_float_int (P := Tryz.prog) wx 39 3 .f64 .i64 (enc (N * 16) 0) (N * 16) (by kernel_rfl) Tryz.underlying3 (toInt_enc (N * 16) (by omega))
  have heq : (FloatKind.f64.format.order (floatOfInt .f64 (N * 16)) (enc (N * 16) 0) == some .eq) = true := by
    rw [floatOfInt_enc]
    show (Ieee.double.order _ _ == _) = true
    rw [order_enc (N * 16) (N * 16) 0 (by omega) (by omega) (by omega), Int.compare_eq_eq.2 rfl]; rfl
  go_enter Tryz.func18, Tryz.ntmps18
  go_wp2_with fail
  refine (all_any l _ _ ((HA.out.1.keep ((Below.refl _ _).alloc (Nat.le_refl _) _)).more (by simp)) HA.out.2.1 HA.out.2.2).mono ?_
  rintro e w1 ⟨v1, rfl, hS1, hb1⟩
  go_wp2_with fail
  refine (impl_FACT _ _ HF.out v1 w1 hS1 HA.out.avs (by rw [List.length_map]; exact HA.out.2.2)).mono ?_
  rintro e w2 ⟨rfl, hb2⟩
  have hz1 : w.heap.size + 1 ≤ w1.heap.size := by have := hb1.size; simpa using this
  have hz2 : w.heap.size < w2.heap.size := by have := hb2.size; omega
  have hB2 := (Bk.below (Bk.new w 24 #[.int .i64 0, .int .i64 0, .int .i64 0, .string ⟨#[]⟩, .slice none 0 0]) hb1 (by simp)).below hb2 (by omega)
  have hd2 : Below w.heap.size w w2 := Below.lift (Below.lift ((Below.refl _ _).alloc (Nat.le_refl _) _) (by simp) hb1) (by omega) hb2
  clear hb1 hb2 hS1
  dsimp only [avV, iv, Res.av]
  go_wp2_with fail
  clear hmul hlo hhi hto heq
  refine (frac_whole N _ hN1 hN2).mono ?_
  rintro e w3 ⟨rfl, hb3⟩
  have hz3 : w.heap.size < w3.heap.size := by have := hb3.size; simp at this; omega
  have hB3 := (hB2.alloc _).below hb3 (by simp; omega)
  have hd3 := Below.lift (hd2.alloc (by omega) _) (by simp; omega) hb3
  clear hb3 hB2 hd2
  obtain ⟨q0, q1, q2, q3, q4, qf⟩ := hB3.cells5
  unfold sv
  go_wp2_with fail
  exact end_cell Tryz.results18 rfl (Bk.set5 hB3 _ _ _ _ _) Tryz.underlying24 rfl info_sv rfl
    ⟨rfl, Below.set5 hd3 (Nat.le_refl _) _ _ _ _ _⟩
set_option maxRecDepth 100000 in
theorem said_BITAND (l : List SV) (N : Int) (hN1 : -99999999999 ≤ N) (hN2 : N ≤ 99999999999) (hF : Fn 104 (l.map avOf) (.num (enc N 0))) (v : Value) (w : World) (h : Args w v l) :
    Calls Tryz.prog 18 #[.func (.func 24) #[] #[], v] w fun e w' => e = .returned (sv 1 N 1 es) ∧ Below w.heap.size w w' := by
  obtain ⟨A, c, rfl, hl, hc⟩ := h.1
  have HF := hid hF
  have HA := hid h
  clear hF h hl hc
  have hmul := fun wx => run_float_arith (P := Tryz.prog) wx .mul 39 .f64 (enc N 0) (enc 16 0) _ (mul16 N (by omega))
  rw [enc16] at hmul
  have hlo : (FloatKind.f64.format.order (enc N 0) 14009883241494872064 == some .gt) = true := by
    rw [← encLo]
    have := order_enc N (-1000000000000) 0 (by omega) (by decide) (by omega)
    show (Ieee.double.order _ _ == _) = true
    rw [this, Int.compare_eq_gt.2 (by omega)]; rfl
  have hhi : (FloatKind.f64.format.order (enc N 0) 4786511204640096256 == some .lt) = true := by
    rw [← encHi]
    have := order_enc N 1000000000000 0 (by omega) (by decide) (by omega)
    show (Ieee.double.order _ _ == _) = true
    rw [this, Int.compare_eq_lt.2 (by omega)]; rfl
  have hto := fun wx => run_convert_float_int (P := Tryz.prog) wx 39 3 .f64 .i64 (enc (N * 16) 0) (N * 16) (by kernel_rfl) Tryz.underlying3 (toInt_enc (N * 16) (by omega))
  have heq : (FloatKind.f64.format.order (floatOfInt .f64 (N * 16)) (enc (N * 16) 0) == some .eq) = true := by
    rw [floatOfInt_enc]
    show (Ieee.double.order _ _ == _) = true
    rw [order_enc (N * 16) (N * 16) 0 (by omega) (by omega) (by omega), Int.compare_eq_eq.2 rfl]; rfl
  go_enter Tryz.func18, Tryz.ntmps18
  go_wp2_with fail
  refine (all_any l _ _ ((HA.out.1.keep ((Below.refl _ _).alloc (Nat.le_refl _) _)).more (by simp)) HA.out.2.1 HA.out.2.2).mono ?_
  rintro e w1 ⟨v1, rfl, hS1, hb1⟩
  go_wp2_with fail
  refine (impl_BITAND _ _ HF.out v1 w1 hS1 HA.out.avs (by rw [List.length_map]; exact HA.out.2.2)).mono ?_
  rintro e w2 ⟨rfl, hb2⟩
  have hz1 : w.heap.size + 1 ≤ w1.heap.size := by have := hb1.size; simpa using this
  have hz2 : w.heap.size < w2.heap.size := by have := hb2.size; omega
  have hB2 := (Bk.below (Bk.new w 24 #[.int .i64 0, .int .i64 0, .int .i64 0, .string ⟨#[]⟩, .slice none 0 0]) hb1 (by simp)).below hb2 (by omega)
  have hd2 : Below w.heap.size w w2 := Below.lift (Below.lift ((Below.refl _ _).alloc (Nat.le_refl _) _) (by simp) hb1) (by omega) hb2
  clear hb1 hb2 hS1
  dsimp only [avV, iv, Res.av]
  go_wp2_with fail
  clear hmul hlo hhi hto heq
  refine (frac_whole N _ hN1 hN2).mono ?_
  rintro e w3 ⟨rfl, hb3⟩
  have hz3 : w.heap.size < w3.heap.size := by have := hb3.size; simp at this; omega
  have hB3 := (hB2.alloc _).below hb3 (by simp; omega)
  have hd3 := Below.lift (hd2.alloc (by omega) _) (by simp; omega) hb3
  clear hb3 hB2 hd2
  obtain ⟨q0, q1, q2, q3, q4, qf⟩ := hB3.cells5
  unfold sv
  go_wp2_with fail
  exact end_cell Tryz.results18 rfl (Bk.set5 hB3 _ _ _ _ _) Tryz.underlying24 rfl info_sv rfl
    ⟨rfl, Below.set5 hd3 (Nat.le_refl _) _ _ _ _ _⟩
set_option maxRecDepth 100000 in
theorem said_BITOR (l : List SV) (N : Int) (hN1 : -99999999999 ≤ N) (hN2 : N ≤ 99999999999) (hF : Fn 105 (l.map avOf) (.num (enc N 0))) (v : Value) (w : World) (h : Args w v l) :
    Calls Tryz.prog 18 #[.func (.func 25) #[] #[], v] w fun e w' => e = .returned (sv 1 N 1 es) ∧ Below w.heap.size w w' := by
  obtain ⟨A, c, rfl, hl, hc⟩ := h.1
  have HF := hid hF
  have HA := hid h
  clear hF h hl hc
  have hmul := fun wx => run_float_arith (P := Tryz.prog) wx .mul 39 .f64 (enc N 0) (enc 16 0) _ (mul16 N (by omega))
  rw [enc16] at hmul
  have hlo : (FloatKind.f64.format.order (enc N 0) 14009883241494872064 == some .gt) = true := by
    rw [← encLo]
    have := order_enc N (-1000000000000) 0 (by omega) (by decide) (by omega)
    show (Ieee.double.order _ _ == _) = true
    rw [this, Int.compare_eq_gt.2 (by omega)]; rfl
  have hhi : (FloatKind.f64.format.order (enc N 0) 4786511204640096256 == some .lt) = true := by
    rw [← encHi]
    have := order_enc N 1000000000000 0 (by omega) (by decide) (by omega)
    show (Ieee.double.order _ _ == _) = true
    rw [this, Int.compare_eq_lt.2 (by omega)]; rfl
  have hto := fun wx => run_convert_float_int (P := Tryz.prog) wx 39 3 .f64 .i64 (enc (N * 16) 0) (N * 16) (by kernel_rfl) Tryz.underlying3 (toInt_enc (N * 16) (by omega))
  have heq : (FloatKind.f64.format.order (floatOfInt .f64 (N * 16)) (enc (N * 16) 0) == some .eq) = true := by
    rw [floatOfInt_enc]
    show (Ieee.double.order _ _ == _) = true
    rw [order_enc (N * 16) (N * 16) 0 (by omega) (by omega) (by omega), Int.compare_eq_eq.2 rfl]; rfl
  go_enter Tryz.func18, Tryz.ntmps18
  go_wp2_with fail
  refine (all_any l _ _ ((HA.out.1.keep ((Below.refl _ _).alloc (Nat.le_refl _) _)).more (by simp)) HA.out.2.1 HA.out.2.2).mono ?_
  rintro e w1 ⟨v1, rfl, hS1, hb1⟩
  go_wp2_with fail
  refine (impl_BITOR _ _ HF.out v1 w1 hS1 HA.out.avs (by rw [List.length_map]; exact HA.out.2.2)).mono ?_
  rintro e w2 ⟨rfl, hb2⟩
  have hz1 : w.heap.size + 1 ≤ w1.heap.size := by have := hb1.size; simpa using this
  have hz2 : w.heap.size < w2.heap.size := by have := hb2.size; omega
  have hB2 := (Bk.below (Bk.new w 24 #[.int .i64 0, .int .i64 0, .int .i64 0, .string ⟨#[]⟩, .slice none 0 0]) hb1 (by simp)).below hb2 (by omega)
  have hd2 : Below w.heap.size w w2 := Below.lift (Below.lift ((Below.refl _ _).alloc (Nat.le_refl _) _) (by simp) hb1) (by omega) hb2
  clear hb1 hb2 hS1
  dsimp only [avV, iv, Res.av]
  go_wp2_with fail
  clear hmul hlo hhi hto heq
  refine (frac_whole N _ hN1 hN2).mono ?_
  rintro e w3 ⟨rfl, hb3⟩
  have hz3 : w.heap.size < w3.heap.size := by have := hb3.size; simp at this; omega
  have hB3 := (hB2.alloc _).below hb3 (by simp; omega)
  have hd3 := Below.lift (hd2.alloc (by omega) _) (by simp; omega) hb3
  clear hb3 hB2 hd2
  obtain ⟨q0, q1, q2, q3, q4, qf⟩ := hB3.cells5
  unfold sv
  go_wp2_with fail
  exact end_cell Tryz.results18 rfl (Bk.set5 hB3 _ _ _ _ _) Tryz.underlying24 rfl info_sv rfl
    ⟨rfl, Below.set5 hd3 (Nat.le_refl _) _ _ _ _ _⟩
set_option maxRecDepth 100000 in
theorem said_BITXOR (l : List SV) (N : Int) (hN1 : -99999999999 ≤ N) (hN2 : N ≤ 99999999999) (hF : Fn 106 (l.map avOf) (.num (enc N 0))) (v : Value) (w : World) (h : Args w v l) :
    Calls Tryz.prog 18 #[.func (.func 26) #[] #[], v] w fun e w' => e = .returned (sv 1 N 1 es) ∧ Below w.heap.size w w' := by
  obtain ⟨A, c, rfl, hl, hc⟩ := h.1
  have HF := hid hF
  have HA := hid h
  clear hF h hl hc
  have hmul := fun wx => run_float_arith (P := Tryz.prog) wx .mul 39 .f64 (enc N 0) (enc 16 0) _ (mul16 N (by omega))
  rw [enc16] at hmul
  have hlo : (FloatKind.f64.format.order (enc N 0) 14009883241494872064 == some .gt) = true := by
    rw [← encLo]
    have := order_enc N (-1000000000000) 0 (by omega) (by decide) (by omega)
    show (Ieee.double.order _ _ == _) = true
    rw [this, Int.compare_eq_gt.2 (by omega)]; rfl
  have hhi : (FloatKind.f64.format.order (enc N 0) 4786511204640096256 == some .lt) = true := by
    rw [← encHi]
    have := order_enc N 1000000000000 0 (by omega) (by decide) (by omega)
    show (Ieee.double.order _ _ == _) = true
    rw [this, Int.compare_eq_lt.2 (by omega)]; rfl
  have hto := fun wx => run_convert_float_int (P := Tryz.prog) wx 39 3 .f64 .i64 (enc (N * 16) 0) (N * 16) (by kernel_rfl) Tryz.underlying3 (toInt_enc (N * 16) (by omega))
  have heq : (FloatKind.f64.format.order (floatOfInt .f64 (N * 16)) (enc (N * 16) 0) == some .eq) = true := by
    rw [floatOfInt_enc]
    show (Ieee.double.order _ _ == _) = true
    rw [order_enc (N * 16) (N * 16) 0 (by omega) (by omega) (by omega), Int.compare_eq_eq.2 rfl]; rfl
  go_enter Tryz.func18, Tryz.ntmps18
  go_wp2_with fail
  refine (all_any l _ _ ((HA.out.1.keep ((Below.refl _ _).alloc (Nat.le_refl _) _)).more (by simp)) HA.out.2.1 HA.out.2.2).mono ?_
  rintro e w1 ⟨v1, rfl, hS1, hb1⟩
  go_wp2_with fail
  refine (impl_BITXOR _ _ HF.out v1 w1 hS1 HA.out.avs (by rw [List.length_map]; exact HA.out.2.2)).mono ?_
  rintro e w2 ⟨rfl, hb2⟩
  have hz1 : w.heap.size + 1 ≤ w1.heap.size := by have := hb1.size; simpa using this
  have hz2 : w.heap.size < w2.heap.size := by have := hb2.size; omega
  have hB2 := (Bk.below (Bk.new w 24 #[.int .i64 0, .int .i64 0, .int .i64 0, .string ⟨#[]⟩, .slice none 0 0]) hb1 (by simp)).below hb2 (by omega)
  have hd2 : Below w.heap.size w w2 := Below.lift (Below.lift ((Below.refl _ _).alloc (Nat.le_refl _) _) (by simp) hb1) (by omega) hb2
  clear hb1 hb2 hS1
  dsimp only [avV, iv, Res.av]
  go_wp2_with fail
  clear hmul hlo hhi hto heq
  refine (frac_whole N _ hN1 hN2).mono ?_
  rintro e w3 ⟨rfl, hb3⟩
  have hz3 : w.heap.size < w3.heap.size := by have := hb3.size; simp at this; omega
  have hB3 := (hB2.alloc _).below hb3 (by simp; omega)
  have hd3 := Below.lift (hd2.alloc (by omega) _) (by simp; omega) hb3
  clear hb3 hB2 hd2
  obtain ⟨q0, q1, q2, q3, q4, qf⟩ := hB3.cells5
  unfold sv
  go_wp2_with fail
  exact end_cell Tryz.results18 rfl (Bk.set5 hB3 _ _ _ _ _) Tryz.underlying24 rfl info_sv rfl
    ⟨rfl, Below.set5 hd3 (Nat.le_refl _) _ _ _ _ _⟩
set_option maxRecDepth 100000 in
theorem said_MOD (l : List SV) (N : Int) (hN1 : -99999999999 ≤ N) (hN2 : N ≤ 99999999999) (hF : Fn 107 (l.map avOf) (.num (enc N 0))) (v : Value) (w : World) (h : Args w v l) :
    Calls Tryz.prog 18 #[.func (.func 27) #[] #[], v] w fun e w' => e = .returned (sv 1 N 1 es) ∧ Below w.heap.size w w' := by
  obtain ⟨A, c, rfl, hl, hc⟩ := h.1
  have HF := hid hF
  have HA := hid h
  clear hF h hl hc
  have hmul := fun wx => run_float_arith (P := Tryz.prog) wx .mul 39 .f64 (enc N 0) (enc 16 0) _ (mul16 N (by omega))
  rw [enc16] at hmul
  have hlo : (FloatKind.f64.format.order (enc N 0) 14009883241494872064 == some .gt) = true := by
    rw [← encLo]
    have := order_enc N (-1000000000000) 0 (by omega) (by decide) (by omega)
    show (Ieee.double.order _ _ == _) = true
    rw [this, Int.compare_eq_gt.2 (by omega)]; rfl
  have hhi : (FloatKind.f64.format.order (enc N 0) 4786511204640096256 == some .lt) = true := by
    rw [← encHi]
    have := order_enc N 1000000000000 0 (by omega) (by decide) (by omega)
    show (Ieee.double.order _ _ == _) = true
    rw [this, Int.compare_eq_lt.2 (by omega)]; rfl
  have hto := fun wx => run_convert_float_int (P := Tryz.prog) wx 39 3 .f64 .i64 (enc (N * 16) 0) (N * 16) (by kernel_rfl) Tryz.underlying3 (toInt_enc (N * 16) (by omega))
  have heq : (FloatKind.f64.format.order (floatOfInt .f64 (N * 16)) (enc (N * 16) 0) == some .eq) = true := by
    rw [floatOfInt_enc]
    show (Ieee.double.order _ _ == _) = true
    rw [order_enc (N * 16) (N * 16) 0 (by omega) (by omega) (by omega), Int.compare_eq_eq.2 rfl]; rfl
  go_enter Tryz.func18, Tryz.ntmps18
  go_wp2_with fail
  refine (all_any l _ _ ((HA.out.1.keep ((Below.refl _ _).alloc (Nat.le_refl _) _)).more (by simp)) HA.out.2.1 HA.out.2.2).mono ?_
  rintro e w1 ⟨v1, rfl, hS1, hb1⟩
  go_wp2_with fail
  refine (impl_MOD _ _ HF.out v1 w1 hS1 HA.out.avs (by rw [List.length_map]; exact HA.out.2.2)).mono ?_
  rintro e w2 ⟨rfl, hb2⟩
  have hz1 : w.heap.size + 1 ≤ w1.heap.size := by have := hb1.size; simpa using this
  have hz2 : w.heap.size < w2.heap.size := by have := hb2.size; omega
  have hB2 := (Bk.below (Bk.new w 24 #[.int .i64 0, .int .i64 0, .int .i64 0, .string ⟨#[]⟩, .slice none 0 0]) hb1 (by simp)).below hb2 (by omega)
  have hd2 : Below w.heap.size w w2 := Below.lift (Below.lift ((Below.refl _ _).alloc (Nat.le_refl _) _) (by simp) hb1) (by omega) hb2
  clear hb1 hb2 hS1
  dsimp only [avV, iv, Res.av]
  go_wp2_with fail
  clear hmul hlo hhi hto heq
  refine (frac_whole N _ hN1 hN2).mono ?_
  rintro e w3 ⟨rfl, hb3⟩
  have hz3 : w.heap.size < w3.heap.size := by have := hb3.size; simp at this; omega
  have hB3 := (hB2.alloc _).below hb3 (by simp; omega)
  have hd3 := Below.lift (hd2.alloc (by omega) _) (by simp; omega) hb3
  clear hb3 hB2 hd2
  obtain ⟨q0, q1, q2, q3, q4, qf⟩ := hB3.cells5
  unfold sv
  go_wp2_with fail
  exact end_cell Tryz.results18 rfl (Bk.set5 hB3 _ _ _ _ _) Tryz.underlying24 rfl info_sv rfl
    ⟨rfl, Below.set5 hd3 (Nat.le_refl _) _ _ _ _ _⟩
set_option maxRecDepth 100000 in
theorem said_EVEN (l : List SV) (N : Int) (hN1 : -99999999999 ≤ N) (hN2 : N ≤ 99999999999) (hF : Fn 113 (l.map avOf) (.num (enc N 0))) (v : Value) (w : World) (h : Args w v l) :
    Calls Tryz.prog 18 #[.func (.func 41) #[] #[], v] w fun e w' => e = .returned (sv 1 N 1 es) ∧ Below w.heap.size w w' := by
  obtain ⟨A, c, rfl, hl, hc⟩ := h.1
  have HF := hid hF
  have HA := hid h
  clear hF h hl hc
  have hmul := fun wx => run_float_arith (P := Tryz.prog) wx .mul 39 .f64 (enc N 0) (enc 16 0) _ (mul16 N (by omega))
  rw [enc16] at hmul
  have hlo : (FloatKind.f64.format.order (enc N 0) 14009883241494872064 == some .gt) = true := by
    rw [← encLo]
    have := order_enc N (-1000000000000) 0 (by omega) (by decide) (by omega)
    show (Ieee.double.order _ _ == _) = true
    rw [this, Int.compare_eq_gt.2 (by omega)]; rfl
  have hhi : (FloatKind.f64.format.order (enc N 0) 4786511204640096256 == some .lt) = true := by
    rw [← encHi]
    have := order_enc N 1000000000000 0 (by omega) (by decide) (by omega)
    show (Ieee.double.order _ _ == _) = true
    rw [this, Int.compare_eq_lt.2 (by omega)]; rfl
  have hto := fun wx => run_convert_float_int (P := Tryz.prog) wx 39 3 .f64 .i64 (enc (N * 16) 0) (N * 16) (by kernel_rfl) Tryz.underlying3 (toInt_enc (N * 16) (by omega))
  have heq : (FloatKind.f64.format.order (floatOfInt .f64 (N * 16)) (enc (N * 16) 0) == some .eq) = true := by
    rw [floatOfInt_enc]
    show (Ieee.double.order _ _ == _) = true
    rw [order_enc (N * 16) (N * 16) 0 (by omega) (by omega) (by omega), Int.compare_eq_eq.2 rfl]; rfl
  go_enter Tryz.func18, Tryz.ntmps18
  go_wp2_with fail
  refine (all_any l _ _ ((HA.out.1.keep ((Below.refl _ _).alloc (Nat.le_refl _) _)).more (by simp)) HA.out.2.1 HA.out.2.2).mono ?_
  rintro e w1 ⟨v1, rfl, hS1, hb1⟩
  go_wp2_with fail
  refine (impl_EVEN _ _ HF.out v1 w1 hS1 HA.out.avs (by rw [List.length_map]; exact HA.out.2.2)).mono ?_
  rintro e w2 ⟨rfl, hb2⟩
  have hz1 : w.heap.size + 1 ≤ w1.heap.size := by have := hb1.size; simpa using this
  have hz2 : w.heap.size < w2.heap.size := by have := hb2.size; omega
  have hB2 := (Bk.below (Bk.new w 24 #[.int .i64 0, .int .i64 0, .int .i64 0, .string ⟨#[]⟩, .slice none 0 0]) hb1 (by simp)).below hb2 (by omega)
  have hd2 : Below w.heap.size w w2 := Below.lift (Below.lift ((Below.refl _ _).alloc (Nat.le_refl _) _) (by simp) hb1) (by omega) hb2
  clear hb1 hb2 hS1
  dsimp only [avV, iv, Res.av]
  go_wp2_with fail
  clear hmul hlo hhi hto heq
  refine (frac_whole N _ hN1 hN2).mono ?_
  rintro e w3 ⟨rfl, hb3⟩
  have hz3 : w.heap.size < w3.heap.size := by have := hb3.size; simp at this; omega
  have hB3 := (hB2.alloc _).below hb3 (by simp; omega)
  have hd3 := Below.lift (hd2.alloc (by omega) _) (by simp; omega) hb3
  clear hb3 hB2 hd2
  obtain ⟨q0, q1, q2, q3, q4, qf⟩ := hB3.cells5
  unfold sv
  go_wp2_with fail
  exact end_cell Tryz.results18 rfl (Bk.set5 hB3 _ _ _ _ _) Tryz.underlying24 rfl info_sv rfl
    ⟨rfl, Below.set5 hd3 (Nat.le_refl _) _ _ _ _ _⟩
set_option maxRecDepth 100000 in
theorem said_ODD (l : List SV) (N : Int) (hN1 : -99999999999 ≤ N) (hN2 : N ≤ 99999999999) (hF : Fn 114 (l.map avOf) (.num (enc N 0))) (v : Value) (w : World) (h : Args w v l) :
    Calls Tryz.prog 18 #[.func (.func 43) #[] #[], v] w fun e w' => e = .returned (sv 1 N 1 es) ∧ Below w.heap.size w w' := by
  obtain ⟨A, c, rfl, hl, hc⟩ := h.1
  have HF := hid hF
  have HA := hid h
  clear hF h hl hc
  have hmul := fun wx => run_float_arith (P := Tryz.prog) wx .mul 39 .f64 (enc N 0) (enc 16 0) _ (mul16 N (by omega))
  rw [enc16] at hmul
  have hlo : (FloatKind.f64.format.order (enc N 0) 14009883241494872064 == some .gt) = true := by
    rw [← encLo]
    have := order_enc N (-1000000000000) 0 (by omega) (by decide) (by omega)
    show (Ieee.double.order _ _ == _) = true
    rw [this, Int.compare_eq_gt.2 (by omega)]; rfl
  have hhi : (FloatKind.f64.format.order (enc N 0) 4786511204640096256 == some .lt) = true := by
    rw [← encHi]
    have := order_enc N 1000000000000 0 (by omega) (by decide) (by omega)
    show (Ieee.double.order _ _ == _) = true
    rw [this, Int.compare_eq_lt.2 (by omega)]; rfl
  have hto := fun wx => run_convert_float_int (P := Tryz.prog) wx 39 3 .f64 .i64 (enc (N * 16) 0) (N * 16) (by kernel_rfl) Tryz.underlying3 (toInt_enc (N * 16) (by omega))
  have heq : (FloatKind.f64.format.order (floatOfInt .f64 (N * 16)) (enc (N * 16) 0) == some .eq) = true := by
    rw [floatOfInt_enc]
    show (Ieee.double.order _ _ == _) = true
    rw [order_enc (N * 16) (N * 16) 0 (by omega) (by omega) (by omega), Int.compare_eq_eq.2 rfl]; rfl
  go_enter Tryz.func18, Tryz.ntmps18
  go_wp2_with fail
  refine (all_any l _ _ ((HA.out.1.keep ((Below.refl _ _).alloc (Nat.le_refl _) _)).more (by simp)) HA.out.2.1 HA.out.2.2).mono ?_
  rintro e w1 ⟨v1, rfl, hS1, hb1⟩
  go_wp2_with fail
  refine (impl_ODD _ _ HF.out v1 w1 hS1 HA.out.avs (by rw [List.length_map]; exact HA.out.2.2)).mono ?_
  rintro e w2 ⟨rfl, hb2⟩
  have hz1 : w.heap.size + 1 ≤ w1.heap.size := by have := hb1.size; simpa using this
  have hz2 : w.heap.size < w2.heap.size := by have := hb2.size; omega
  have hB2 := (Bk.below (Bk.new w 24 #[.int .i64 0, .int .i64 0, .int .i64 0, .string ⟨#[]⟩, .slice none 0 0]) hb1 (by simp)).below hb2 (by omega)
  have hd2 : Below w.heap.size w w2 := Below.lift (Below.lift ((Below.refl _ _).alloc (Nat.le_refl _) _) (by simp) hb1) (by omega) hb2
  clear hb1 hb2 hS1
  dsimp only [avV, iv, Res.av]
  go_wp2_with fail
  clear hmul hlo hhi hto heq
  refine (frac_whole N _ hN1 hN2).mono ?_
  rintro e w3 ⟨rfl, hb3⟩
  have hz3 : w.heap.size < w3.heap.size := by have := hb3.size; simp at this; omega
  have hB3 := (hB2.alloc _).below hb3 (by simp; omega)
  have hd3 := Below.lift (hd2.alloc (by omega) _) (by simp; omega) hb3
  clear hb3 hB2 hd2
  obtain ⟨q0, q1, q2, q3, q4, qf⟩ := hB3.cells5
  unfold sv
  go_wp2_with fail
  exact end_cell Tryz.results18 rfl (Bk.set5 hB3 _ _ _ _ _) Tryz.underlying24 rfl info_sv rfl
    ⟨rfl, Below.set5 hd3 (Nat.le_refl _) _ _ _ _ _⟩
set_option maxRecDepth 100000 in
theorem said_GCD (l : List SV) (N : Int) (hN1 : -99999999999 ≤ N) (hN2 : N ≤ 99999999999) (hF : Fn 118 (l.map avOf) (.num (enc N 0))) (v : Value) (w : World) (h : Args w v l) :
    Calls Tryz.prog 18 #[.func (.func 51) #[] #[], v] w fun e w' => e = .returned (sv 1 N 1 es) ∧ Below w.heap.size w w' := by
  obtain ⟨A, c, rfl, hl, hc⟩ := h.1
  have HF := hid hF
  have HA := hid h
  clear hF h hl hc
  have hmul := fun wx => run_float_arith (P := Tryz.prog) wx .mul 39 .f64 (enc N 0) (enc 16 0) _ (mul16 N (by omega))
  rw [enc16] at hmul
  have hlo : (FloatKind.f64.format.order (enc N 0) 14009883241494872064 == some .gt) = true := by
    rw [← encLo]
    have := order_enc N (-1000000000000) 0 (by omega) (by decide) (by omega)
    show (Ieee.double.order _ _ == _) = true
    rw [this, Int.compare_eq_gt.2 (by omega)]; rfl
  have hhi : (FloatKind.f64.format.order (enc N 0) 4786511204640096256 == some .lt) = true := by
    rw [← encHi]
    have := order_enc N 1000000000000 0 (by omega) (by decide) (by omega)
    show (Ieee.double.order _ _ == _) = true
    rw [this, Int.compare_eq_lt.2 (by omega)]; rfl
  have hto := fun wx => run_convert_float_int (P := Tryz.prog) wx 39 3 .f64 .i64 (enc (N * 16) 0) (N * 16) (by kernel_rfl) Tryz.underlying3 (toInt_enc (N * 16) (by omega))
  have heq : (FloatKind.f64.format.order (floatOfInt .f64 (N * 16)) (enc (N * 16) 0) == some .eq) = true := by
    rw [floatOfInt_enc]
    show (Ieee.double.order _ _ == _) = true
    rw [order_enc (N * 16) (N * 16) 0 (by omega) (by omega) (by omega), Int.compare_eq_eq.2 rfl]; rfl
  go_enter Tryz.func18, Tryz.ntmps18
  go_wp2_with fail
  refine (all_any l _ _ ((HA.out.1.keep ((Below.refl _ _).alloc (Nat.le_refl _) _)).more (by simp)) HA.out.2.1 HA.out.2.2).mono ?_
  rintro e w1 ⟨v1, rfl, hS1, hb1⟩
  go_wp2_with fail
  refine (impl_GCD _ _ HF.out v1 w1 hS1 HA.out.avs (by rw [List.length_map]; exact HA.out.2.2)).mono ?_
  rintro e w2 ⟨rfl, hb2⟩
  have hz1 : w.heap.size + 1 ≤ w1.heap.size := by have := hb1.size; simpa using this
  have hz2 : w.heap.size < w2.heap.size := by have := hb2.size; omega
  have hB2 := (Bk.below (Bk.new w 24 #[.int .i64 0, .int .i64 0, .int .i64 0, .string ⟨#[]⟩, .slice none 0 0]) hb1 (by simp)).below hb2 (by omega)
  have hd2 : Below w.heap.size w w2 := Below.lift (Below.lift ((Below.refl _ _).alloc (Nat.le_refl _) _) (by simp) hb1) (by omega) hb2
  clear hb1 hb2 hS1
  dsimp only [avV, iv, Res.av]
  go_wp2_with fail
  clear hmul hlo hhi hto heq
  refine (frac_whole N _ hN1 hN2).mono ?_
  rintro e w3 ⟨rfl, hb3⟩
  have hz3 : w.heap.size < w3.heap.size := by have := hb3.size; simp at this; omega
  have hB3 := (hB2.alloc _).below hb3 (by simp; omega)
  have hd3 := Below.lift (hd2.alloc (by omega) _) (by simp; omega) hb3
  clear hb3 hB2 hd2
  obtain ⟨q0, q1, q2, q3, q4, qf⟩ := hB3.cells5
  unfold sv
  go_wp2_with fail
  exact end_cell Tryz.results18 rfl (Bk.set5 hB3 _ _ _ _ _) Tryz.underlying24 rfl info_sv rfl
    ⟨rfl, Below.set5 hd3 (Nat.le_refl _) _ _ _ _ _⟩
set_option maxRecDepth 100000 in
theorem said_LCM (l : List SV) (N : Int) (hN1 : -99999999999 ≤ N) (hN2 : N ≤ 99999999999) (hF : Fn 119 (l.map avOf) (.num (enc N 0))) (v : Value) (w : World) (h : Args w v l) :
    Calls Tryz.prog 18 #[.func (.func 52) #[] #[], v] w fun e w' => e = .returned (sv 1 N 1 es) ∧ Below w.heap.size w w' := by
  obtain ⟨A, c, rfl, hl, hc⟩ := h.1
  have HF := hid hF
  have HA := hid h
  clear hF h hl hc
  have hmul := fun wx => run_float_arith (P := Tryz.prog) wx .mul 39 .f64 (enc N 0) (enc 16 0) _ (mul16 N (by omega))
  rw [enc16] at hmul
  have hlo : (FloatKind.f64.format.order (enc N 0) 14009883241494872064 == some .gt) = true := by
    rw [← encLo]
    have := order_enc N (-1000000000000) 0 (by omega) (by decide) (by omega)
    show (Ieee.double.order _ _ == _) = true
    rw [this, Int.compare_eq_gt.2 (by omega)]; rfl
  have hhi : (FloatKind.f64.format.order (enc N 0) 4786511204640096256 == some .lt) = true := by
    rw [← encHi]
    have := order_enc N 1000000000000 0 (by omega) (by decide) (by omega)
    show (Ieee.double.order _ _ == _) = true
    rw [this, Int.compare_eq_lt.2 (by omega)]; rfl
  have hto := fun wx => run_convert_float_int (P := Tryz.prog) wx 39 3 .f64 .i64 (enc (N * 16) 0) (N * 16) (by kernel_rfl) Tryz.underlying3 (toInt_enc (N * 16) (by omega))
  have heq : (FloatKind.f64.format.order (floatOfInt .f64 (N * 16)) (enc (N * 16) 0) == some .eq) = true := by
    rw [floatOfInt_enc]
    show (Ieee.double.order _ _ == _) = true
    rw [order_enc (N * 16) (N * 16) 0 (by omega) (by omega) (by omega), Int.compare_eq_eq.2 rfl]; rfl
  go_enter Tryz.func18, Tryz.ntmps18
  go_wp2_with fail
  refine (all_any l _ _ ((HA.out.1.keep ((Below.refl _ _).alloc (Nat.le_refl _) _)).more (by simp)) HA.out.2.1 HA.out.2.2).mono ?_
  rintro e w1 ⟨v1, rfl, hS1, hb1⟩
  go_wp2_with fail
  refine (impl_LCM _ _ HF.out v1 w1 hS1 HA.out.avs (by rw [List.length_map]; exact HA.out.2.2)).mono ?_
  rintro e w2 ⟨rfl, hb2⟩
  have hz1 : w.heap.size + 1 ≤ w1.heap.size := by have := hb1.size; simpa using this
  have hz2 : w.heap.size < w2.heap.size := by have := hb2.size; omega
  have hB2 := (Bk.below (Bk.new w 24 #[.int .i64 0, .int .i64 0, .int .i64 0, .string ⟨#[]⟩, .slice none 0 0]) hb1 (by simp)).below hb2 (by omega)
  have hd2 : Below w.heap.size w w2 := Below.lift (Below.lift ((Below.refl _ _).alloc (Nat.le_refl _) _) (by simp) hb1) (by omega) hb2
  clear hb1 hb2 hS1
  dsimp only [avV, iv, Res.av]
  go_wp2_with fail
  clear hmul hlo hhi hto heq
  refine (frac_whole N _ hN1 hN2).mono ?_
  rintro e w3 ⟨rfl, hb3⟩
  have hz3 : w.heap.size < w3.heap.size := by have := hb3.size; simp at this; omega
  have hB3 := (hB2.alloc _).below hb3 (by simp; omega)
  have hd3 := Below.lift (hd2.alloc (by omega) _) (by simp; omega) hb3
  clear hb3 hB2 hd2
  obtain ⟨q0, q1, q2, q3, q4, qf⟩ := hB3.cells5
  unfold sv
  go_wp2_with fail
  exact end_cell Tryz.results18 rfl (Bk.set5 hB3 _ _ _ _ _) Tryz.underlying24 rfl info_sv rfl
    ⟨rfl, Below.set5 hd3 (Nat.le_refl _) _ _ _ _ _⟩
set_option maxRecDepth 100000 in
theorem said_CODE (l : List SV) (N : Int) (hN1 : -99999999999 ≤ N) (hN2 : N ≤ 99999999999) (hF : Fn 126 (l.map avOf) (.num (enc N 0))) (v : Value) (w : World) (h : Args w v l) :
    Calls Tryz.prog 18 #[.func (.func 59) #[] #[], v] w fun e w' => e = .returned (sv 1 N 1 es) ∧ Below w.heap.size w w' := by
  obtain ⟨A, c, rfl, hl, hc⟩ := h.1
  have HF := hid hF
  have HA := hid h
  clear hF h hl hc
  have hmul := fun wx => run_float_arith (P := Tryz.prog) wx .mul 39 .f64 (enc N 0) (enc 16 0) _ (mul16 N (by omega))
  rw [enc16] at hmul
  have hlo : (FloatKind.f64.format.order (enc N 0) 14009883241494872064 == some .gt) = true := by
    rw [← encLo]
    have := order_enc N (-1000000000000) 0 (by omega) (by decide) (by omega)
    show (Ieee.double.order _ _ == _) = true
    rw [this, Int.compare_eq_gt.2 (by omega)]; rfl
  have hhi : (FloatKind.f64.format.order (enc N 0) 4786511204640096256 == some .lt) = true := by
    rw [← encHi]
    have := order_enc N 1000000000000 0 (by omega) (by decide) (by omega)
    show (Ieee.double.order _ _ == _) = true
    rw [this, Int.compare_eq_lt.2 (by omega)]; rfl
  have hto := fun wx => run_convert_float_int (P := Tryz.prog) wx 39 3 .f64 .i64 (enc (N * 16) 0) (N * 16) (by kernel_rfl) Tryz.underlying3 (toInt_enc (N * 16) (by omega))
  have heq : (FloatKind.f64.format.order (floatOfInt .f64 (N * 16)) (enc (N * 16) 0) == some .eq) = true := by
    rw [floatOfInt_enc]
    show (Ieee.double.order _ _ == _) = true
    rw [order_enc (N * 16) (N * 16) 0 (by omega) (by omega) (by omega), Int.compare_eq_eq.2 rfl]; rfl
  go_enter Tryz.func18, Tryz.ntmps18
  go_wp2_with fail
  refine (all_any l _ _ ((HA.out.1.keep ((Below.refl _ _).alloc (Nat.le_refl _) _)).more (by simp)) HA.out.2.1 HA.out.2.2).mono ?_
  rintro e w1 ⟨v1, rfl, hS1, hb1⟩
  go_wp2_with fail
  refine (impl_CODE _ _ HF.out v1 w1 hS1 HA.out.avs (by rw [List.length_map]; exact HA.out.2.2)).mono ?_
  rintro e w2 ⟨rfl, hb2⟩
  have hz1 : w.heap.size + 1 ≤ w1.heap.size := by have := hb1.size; simpa using this
  have hz2 : w.heap.size < w2.heap.size := by have := hb2.size; omega
  have hB2 := (Bk.below (Bk.new w 24 #[.int .i64 0, .int .i64 0, .int .i64 0, .string ⟨#[]⟩, .slice none 0 0]) hb1 (by simp)).below hb2 (by omega)
  have hd2 : Below w.heap.size w w2 := Below.lift (Below.lift ((Below.refl _ _).alloc (Nat.le_refl _) _) (by simp) hb1) (by omega) hb2
  clear hb1 hb2 hS1
  dsimp only [avV, iv, Res.av]
  go_wp2_with fail
  clear hmul hlo hhi hto heq
  refine (frac_whole N _ hN1 hN2).mono ?_
  rintro e w3 ⟨rfl, hb3⟩
  have hz3 : w.heap.size < w3.heap.size := by have := hb3.size; simp at this; omega
  have hB3 := (hB2.alloc _).below hb3 (by simp; omega)
  have hd3 := Below.lift (hd2.alloc (by omega) _) (by simp; omega) hb3
  clear hb3 hB2 hd2
  obtain ⟨q0, q1, q2, q3, q4, qf⟩ := hB3.cells5
  unfold sv
  go_wp2_with fail
  exact end_cell Tryz.results18 rfl (Bk.set5 hB3 _ _ _ _ _) Tryz.underlying24 rfl info_sv rfl
    ⟨rfl, Below.set5 hd3 (Nat.le_refl _) _ _ _ _ _⟩
set_option maxRecDepth 100000 in
theorem said_LEN (l : List SV) (N : Int) (hN1 : -99999999999 ≤ N) (hN2 : N ≤ 99999999999) (hF : Fn 128 (l.map avOf) (.num (enc N 0))) (v : Value) (w : World) (h : Args w v l) :
    Calls Tryz.prog 18 #[.func (.func 61) #[] #[], v] w fun e w' => e = .returned (sv 1 N 1 es) ∧ Below w.heap.size w w' := by
  obtain ⟨A, c, rfl, hl, hc⟩ := h.1
  have HF := hid hF
  have HA := hid h
  clear hF h hl hc
  have hmul := fun wx => run_float_arith (P := Tryz.prog) wx .mul 39 .f64 (enc N 0) (enc 16 0) _ (mul16 N (by omega))
  rw [enc16] at hmul
  have hlo : (FloatKind.f64.format.order (enc N 0) 14009883241494872064 == some .gt) = true := by
    rw [← encLo]
    have := order_enc N (-1000000000000) 0 (by omega) (by decide) (by omega)
    show (Ieee.double.order _ _ == _) = true
    rw [this, Int.compare_eq_gt.2 (by omega)]; rfl
  have hhi : (FloatKind.f64.format.order (enc N 0) 4786511204640096256 == some .lt) = true := by
    rw [← encHi]
    have := order_enc N 1000000000000 0 (by omega) (by decide) (by omega)
    show (Ieee.double.order _ _ == _) = true
    rw [this, Int.compare_eq_lt.2 (by omega)]; rfl
  have hto := fun wx => run_convert_float_int (P := Tryz.prog) wx 39 3 .f64 .i64 (enc (N * 16) 0) (N * 16) (by kernel_rfl) Tryz.underlying3 (toInt_enc (N * 16) (by omega))
  have heq : (FloatKind.f64.format.order (floatOfInt .f64 (N * 16)) (enc (N * 16) 0) == some .eq) = true := by
    rw [floatOfInt_enc]
    show (Ieee.double.order _ _ == _) = true
    rw [order_enc (N * 16) (N * 16) 0 (by omega) (by omega) (by omega), Int.compare_eq_eq.2 rfl]; rfl
  go_enter Tryz.func18, Tryz.ntmps18
  go_wp2_with fail
  refine (all_any l _ _ ((HA.out.1.keep ((Below.refl _ _).alloc (Nat.le_refl _) _)).more (by simp)) HA.out.2.1 HA.out.2.2).mono ?_
  rintro e w1 ⟨v1, rfl, hS1, hb1⟩
  go_wp2_with fail
  refine (impl_LEN _ _ HF.out v1 w1 hS1 HA.out.avs (by rw [List.length_map]; exact HA.out.2.2)).mono ?_
  rintro e w2 ⟨rfl, hb2⟩
  have hz1 : w.heap.size + 1 ≤ w1.heap.size := by have := hb1.size; simpa using this
  have hz2 : w.heap.size < w2.heap.size := by have := hb2.size; omega
  have hB2 := (Bk.below (Bk.new w 24 #[.int .i64 0, .int .i64 0, .int .i64 0, .string ⟨#[]⟩, .slice none 0 0]) hb1 (by simp)).below hb2 (by omega)
  have hd2 : Below w.heap.size w w2 := Below.lift (Below.lift ((Below.refl _ _).alloc (Nat.le_refl _) _) (by simp) hb1) (by omega) hb2
  clear hb1 hb2 hS1
  dsimp only [avV, iv, Res.av]
  go_wp2_with fail
  clear hmul hlo hhi hto heq
  refine (frac_whole N _ hN1 hN2).mono ?_
  rintro e w3 ⟨rfl, hb3⟩
  have hz3 : w.heap.size < w3.heap.size := by have := hb3.size; simp at this; omega
  have hB3 := (hB2.alloc _).below hb3 (by simp; omega)
  have hd3 := Below.lift (hd2.alloc (by omega) _) (by simp; omega) hb3
  clear hb3 hB2 hd2
  obtain ⟨q0, q1, q2, q3, q4, qf⟩ := hB3.cells5
  unfold sv
  go_wp2_with fail
  exact end_cell Tryz.results18 rfl (Bk.set5 hB3 _ _ _ _ _) Tryz.underlying24 rfl info_sv rfl
    ⟨rfl, Below.set5 hd3 (Nat.le_refl _) _ _ _ _ _⟩
set_option maxRecDepth 100000 in
theorem said_SUM (l : List SV) (N : Int) (hN1 : -99999999999 ≤ N) (hN2 : N ≤ 99999999999) (hF : Fn 109 (l.map avOf) (.num (enc N 0))) (v : Value) (w : World) (h : Args w v l) :
    Calls Tryz.prog 18 #[.func (.func 32) #[] #[], v] w fun e w' => e = .returned (sv 1 N 1 es) ∧ Below w.heap.size w w' := by
  obtain ⟨A, c, rfl, hl, hc⟩ := h.1
  have HF := hid hF
  have HA := hid h
  clear hF h hl hc
  have hmul := fun wx => run_float_arith (P := Tryz.prog) wx .mul 39 .f64 (enc N 0) (enc 16 0) _ (mul16 N (by omega))
  rw [enc16] at hmul
  have hlo : (FloatKind.f64.format.order (enc N 0) 14009883241494872064 == some .gt) = true := by
    rw [← encLo]
    have := order_enc N (-1000000000000) 0 (by omega) (by decide) (by omega)
    show (Ieee.double.order _ _ == _) = true
    rw [this, Int.compare_eq_gt.2 (by omega)]; rfl
  have hhi : (FloatKind.f64.format.order (enc N 0) 4786511204640096256 == some .lt) = true := by
    rw [← encHi]
    have := order_enc N 1000000000000 0 (by omega) (by decide) (by omega)
    show (Ieee.double.order _ _ == _) = true
    rw [this, Int.compare_eq_lt.2 (by omega)]; rfl
  have hto := fun wx => run_convert_float_int (P := Tryz.prog) wx 39 3 .f64 .i64 (enc (N * 16) 0) (N * 16) (by kernel_rfl) Tryz.underlying3 (toInt_enc (N * 16) (by omega))
  have heq : (FloatKind.f64.format.order (floatOfInt .f64 (N * 16)) (enc (N * 16) 0) == some .eq) = true := by
    rw [floatOfInt_enc]
    show (Ieee.double.order _ _ == _) = true
    rw [order_enc (N * 16) (N * 16) 0 (by omega) (by omega) (by omega), Int.compare_eq_eq.2 rfl]; rfl
  go_enter Tryz.func18, Tryz.ntmps18
  go_wp2_with fail
  refine (all_any l _ _ ((HA.out.1.keep ((Below.refl _ _).alloc (Nat.le_refl _) _)).more (by simp)) HA.out.2.1 HA.out.2.2).mono ?_
  rintro e w1 ⟨v1, rfl, hS1, hb1⟩
  go_wp2_with fail
  refine (impl_SUM _ _ HF.out v1 w1 hS1 HA.out.avs (by rw [List.length_map]; exact HA.out.2.2)).mono ?_
  rintro e w2 ⟨rfl, hb2⟩
  have hz1 : w.heap.size + 1 ≤ w1.heap.size := by have := hb1.size; simpa using this
  have hz2 : w.heap.size < w2.heap.size := by have := hb2.size; omega
  have hB2 := (Bk.below (Bk.new w 24 #[.int .i64 0, .int .i64 0, .int .i64 0, .string ⟨#[]⟩, .slice none 0 0]) hb1 (by simp)).below hb2 (by omega)
  have hd2 : Below w.heap.size w w2 := Below.lift (Below.lift ((Below.refl _ _).alloc (Nat.le_refl _) _) (by simp) hb1) (by omega) hb2
  clear hb1 hb2 hS1
  dsimp only [avV, iv, Res.av]
  go_wp2_with fail
  clear hmul hlo hhi hto heq
  refine (frac_whole N _ hN1 hN2).mono ?_
  rintro e w3 ⟨rfl, hb3⟩
  have hz3 : w.heap.size < w3.heap.size := by have := hb3.size; simp at this; omega
  have hB3 := (hB2.alloc _).below hb3 (by simp; omega)
  have hd3 := Below.lift (hd2.alloc (by omega) _) (by simp; omega) hb3
  clear hb3 hB2 hd2
  obtain ⟨q0, q1, q2, q3, q4, qf⟩ := hB3.cells5
  unfold sv
  go_wp2_with fail
  exact end_cell Tryz.results18 rfl (Bk.set5 hB3 _ _ _ _ _) Tryz.underlying24 rfl info_sv rfl
    ⟨rfl, Below.set5 hd3 (Nat.le_refl _) _ _ _ _ _⟩
set_option maxRecDepth 100000 in
theorem said_COUNT (l : List SV) (N : Int) (hN1 : -99999999999 ≤ N) (hN2 : N ≤ 99999999999) (hF : Fn 110 (l.map avOf) (.num (enc N 0))) (v : Value) (w : World) (h : Args w v l) :
    Calls Tryz.prog 18 #[.func (.func 34) #[] #[], v] w fun e w' => e = .returned (sv 1 N 1 es) ∧ Below w.heap.size w w' := by
  obtain ⟨A, c, rfl, hl, hc⟩ := h.1
  have HF := hid hF
  have HA := hid h
  clear hF h hl hc
  have hmul := fun wx => run_float_arith (P := Tryz.prog) wx .mul 39 .f64 (enc N 0) (enc 16 0) _ (mul16 N (by omega))
  rw [enc16] at hmul
  have hlo : (FloatKind.f64.format.order (enc N 0) 14009883241494872064 == some .gt) = true := by
    rw [← encLo]
    have := order_enc N (-1000000000000) 0 (by omega) (by decide) (by omega)
    show (Ieee.double.order _ _ == _) = true
    rw [this, Int.compare_eq_gt.2 (by omega)]; rfl
  have hhi : (FloatKind.f64.format.order (enc N 0) 4786511204640096256 == some .lt) = true := by
    rw [← encHi]
    have := order_enc N 1000000000000 0 (by omega) (by decide) (by omega)
    show (Ieee.double.order _ _ == _) = true
    rw [this, Int.compare_eq_lt.2 (by omega)]; rfl
  have hto := fun wx => run_convert_float_int (P := Tryz.prog) wx 39 3 .f64 .i64 (enc (N * 16) 0) (N * 16) (by kernel_rfl) Tryz.underlying3 (toInt_enc (N * 16) (by omega))
  have heq : (FloatKind.f64.format.order (floatOfInt .f64 (N * 16)) (enc (N * 16) 0) == some .eq) = true := by
    rw [floatOfInt_enc]
    show (Ieee.double.order _ _ == _) = true
    rw [order_enc (N * 16) (N * 16) 0 (by omega) (by omega) (by omega), Int.compare_eq_eq.2 rfl]; rfl
  go_enter Tryz.func18, Tryz.ntmps18
  go_wp2_with fail
  refine (all_any l _ _ ((HA.out.1.keep ((Below.refl _ _).alloc (Nat.le_refl _) _)).more (by simp)) HA.out.2.1 HA.out.2.2).mono ?_
  rintro e w1 ⟨v1, rfl, hS1, hb1⟩
  go_wp2_with fail
  refine (impl_COUNT _ _ HF.out v1 w1 hS1 HA.out.avs (by rw [List.length_map]; exact HA.out.2.2)).mono ?_
  rintro e w2 ⟨rfl, hb2⟩
  have hz1 : w.heap.size + 1 ≤ w1.heap.size := by have := hb1.size; simpa using this
  have hz2 : w.heap.size < w2.heap.size := by have := hb2.size; omega
  have hB2 := (Bk.below (Bk.new w 24 #[.int .i64 0, .int .i64 0, .int .i64 0, .string ⟨#[]⟩, .slice none 0 0]) hb1 (by simp)).below hb2 (by omega)
  have hd2 : Below w.heap.size w w2 := Below.lift (Below.lift ((Below.refl _ _).alloc (Nat.le_refl _) _) (by simp) hb1) (by omega) hb2
  clear hb1 hb2 hS1
  dsimp only [avV, iv, Res.av]
  go_wp2_with fail
  clear hmul hlo hhi hto heq
  refine (frac_whole N _ hN1 hN2).mono ?_
  rintro e w3 ⟨rfl, hb3⟩
  have hz3 : w.heap.size < w3.heap.size := by have := hb3.size; simp at this; omega
  have hB3 := (hB2.alloc _).below hb3 (by simp; omega)
  have hd3 := Below.lift (hd2.alloc (by omega) _) (by simp; omega) hb3
  clear hb3 hB2 hd2
  obtain ⟨q0, q1, q2, q3, q4, qf⟩ := hB3.cells5
  unfold sv
  go_wp2_with fail
  exact end_cell Tryz.results18 rfl (Bk.set5 hB3 _ _ _ _ _) Tryz.underlying24 rfl info_sv rfl
    ⟨rfl, Below.set5 hd3 (Nat.le_refl _) _ _ _ _ _⟩

set_option maxRecDepth 100000 in
theorem said_XOR (l : List SV) (x : Nat) (b : Bool) (hx : (FloatKind.f64.format.order x 0 != some .eq) = b) (hF : Fn 103 (l.map avOf) (.log x)) (v : Value) (w : World) (h : Args w v l) :
    Calls Tryz.prog 18 #[.func (.func 22) #[] #[], v] w fun e w' => e = .returned (sv 3 (b2i b) 0 es) ∧ Below w.heap.size w w' := by
  obtain ⟨A, c, rfl, hl, hc⟩ := h.1
  have HF := hid hF
  have HA := hid h
  clear hF h hl hc
  go_enter Tryz.func18, Tryz.ntmps18
  go_wp2_with fail
  refine (all_any l _ _ ((HA.out.1.keep ((Below.refl _ _).alloc (Nat.le_refl _) _)).more (by simp)) HA.out.2.1 HA.out.2.2).mono ?_
  rintro e w1 ⟨v1, rfl, hS1, hb1⟩
  go_wp2_with fail
  refine (impl_XOR _ _ HF.out v1 w1 hS1 HA.out.avs (by rw [List.length_map]; exact HA.out.2.2)).mono ?_
  rintro e w2 ⟨rfl, hb2⟩
  have hz1 : w.heap.size + 1 ≤ w1.heap.size := by have := hb1.size; simpa using this
  have hz2 : w.heap.size < w2.heap.size := by have := hb2.size; omega
  have hB2 := (Bk.below (Bk.new w 24 #[.int .i64 0, .int .i64 0, .int .i64 0, .string ⟨#[]⟩, .slice none 0 0]) hb1 (by simp)).below hb2 (by omega)
  have hd2 : Below w.heap.size w w2 := Below.lift (Below.lift ((Below.refl _ _).alloc (Nat.le_refl _) _) (by simp) hb1) (by omega) hb2
  clear hb1 hb2 hS1
  dsimp only [avV, iv, Res.av]
  go_wp2_with fail
  refine (bool_any b _).mono ?_
  rintro e w3 ⟨rfl, hb3⟩
  have hz3 : w.heap.size < w3.heap.size := by have := hb3.size; simp at this; omega
  have hB3 := (hB2.alloc _).below hb3 (by simp; omega)
  have hd3 := Below.lift (hd2.alloc (by omega) _) (by simp; omega) hb3
  clear hb3 hB2 hd2
  obtain ⟨q0, q1, q2, q3, q4, qf⟩ := hB3.cells5
  unfold sv
  go_wp2_with fail
  exact end_cell Tryz.results18 rfl (Bk.set5 hB3 _ _ _ _ _) Tryz.underlying24 rfl info_sv rfl
    ⟨rfl, Below.set5 hd3 (Nat.le_refl _) _ _ _ _ _⟩
set_option maxRecDepth 100000 in
theorem said_ISODD (l : List SV) (x : Nat) (b : Bool) (hx : (FloatKind.f64.format.order x 0 != some .eq) = b) (hF : Fn 115 (l.map avOf) (.log x)) (v : Value) (w : World) (h : Args w v l) :
    Calls Tryz.prog 18 #[.func (.func 44) #[] #[], v] w fun e w' => e = .returned (sv 3 (b2i b) 0 es) ∧ Below w.heap.size w w' := by
  obtain ⟨A, c, rfl, hl, hc⟩ := h.1
  have HF := hid hF
  have HA := hid h
  clear hF h hl hc
  go_enter Tryz.func18, Tryz.ntmps18
  go_wp2_with fail
  refine (all_any l _ _ ((HA.out.1.keep ((Below.refl _ _).alloc (Nat.le_refl _) _)).more (by simp)) HA.out.2.1 HA.out.2.2).mono ?_
  rintro e w1 ⟨v1, rfl, hS1, hb1⟩
  go_wp2_with fail
  refine (impl_ISODD _ _ HF.out v1 w1 hS1 HA.out.avs (by rw [List.length_map]; exact HA.out.2.2)).mono ?_
  rintro e w2 ⟨rfl, hb2⟩
  have hz1 : w.heap.size + 1 ≤ w1.heap.size := by have := hb1.size; simpa using this
  have hz2 : w.heap.size < w2.heap.size := by have := hb2.size; omega
  have hB2 := (Bk.below (Bk.new w 24 #[.int .i64 0, .int .i64 0, .int .i64 0, .string ⟨#[]⟩, .slice none 0 0]) hb1 (by simp)).below hb2 (by omega)
  have hd2 : Below w.heap.size w w2 := Below.lift (Below.lift ((Below.refl _ _).alloc (Nat.le_refl _) _) (by simp) hb1) (by omega) hb2
  clear hb1 hb2 hS1
  dsimp only [avV, iv, Res.av]
  go_wp2_with fail
  refine (bool_any b _).mono ?_
  rintro e w3 ⟨rfl, hb3⟩
  have hz3 : w.heap.size < w3.heap.size := by have := hb3.size; simp at this; omega
  have hB3 := (hB2.alloc _).below hb3 (by simp; omega)
  have hd3 := Below.lift (hd2.alloc (by omega) _) (by simp; omega) hb3
  clear hb3 hB2 hd2
  obtain ⟨q0, q1, q2, q3, q4, qf⟩ := hB3.cells5
  unfold sv
  go_wp2_with fail
  exact end_cell Tryz.results18 rfl (Bk.set5 hB3 _ _ _ _ _) Tryz.underlying24 rfl info_sv rfl
    ⟨rfl, Below.set5 hd3 (Nat.le_refl _) _ _ _ _ _⟩
set_option maxRecDepth 100000 in
theorem said_NOT (l : List SV) (x : Nat) (b : Bool) (hx : (FloatKind.f64.format.order x 0 != some .eq) = b) (hF : Fn 120 (l.map avOf) (.log x)) (v : Value) (w : World) (h : Args w v l) :
    Calls Tryz.prog 18 #[.func (.func 53) #[] #[], v] w fun e w' => e = .returned (sv 3 (b2i b) 0 es) ∧ Below w.heap.size w w' := by
  obtain ⟨A, c, rfl, hl, hc⟩ := h.1
  have HF := hid hF
  have HA := hid h
  clear hF h hl hc
  go_enter Tryz.func18, Tryz.ntmps18
  go_wp2_with fail
  refine (all_any l _ _ ((HA.out.1.keep ((Below.refl _ _).alloc (Nat.le_refl _) _)).more (by simp)) HA.out.2.1 HA.out.2.2).mono ?_
  rintro e w1 ⟨v1, rfl, hS1, hb1⟩
  go_wp2_with fail
  refine (impl_NOT _ _ HF.out v1 w1 hS1 HA.out.avs (by rw [List.length_map]; exact HA.out.2.2)).mono ?_
  rintro e w2 ⟨rfl, hb2⟩
  have hz1 : w.heap.size + 1 ≤ w1.heap.size := by have := hb1.size; simpa using this
  have hz2 : w.heap.size < w2.heap.size := by have := hb2.size; omega
  have hB2 := (Bk.below (Bk.new w 24 #[.int .i64 0, .int .i64 0, .int .i64 0, .string ⟨#[]⟩, .slice none 0 0]) hb1 (by simp)).below hb2 (by omega)
  have hd2 : Below w.heap.size w w2 := Below.lift (Below.lift ((Below.refl _ _).alloc (Nat.le_refl _) _) (by simp) hb1) (by omega) hb2
  clear hb1 hb2 hS1
  dsimp only [avV, iv, Res.av]
  go_wp2_with fail
  refine (bool_any b _).mono ?_
  rintro e w3 ⟨rfl, hb3⟩
  have hz3 : w.heap.size < w3.heap.size := by have := hb3.size; simp at this; omega
  have hB3 := (hB2.alloc _).below hb3 (by simp; omega)
  have hd3 := Below.lift (hd2.alloc (by omega) _) (by simp; omega) hb3
  clear hb3 hB2 hd2
  obtain ⟨q0, q1, q2, q3, q4, qf⟩ := hB3.cells5
  unfold sv
  go_wp2_with fail
  exact end_cell Tryz.results18 rfl (Bk.set5 hB3 _ _ _ _ _) Tryz.underlying24 rfl info_sv rfl
    ⟨rfl, Below.set5 hd3 (Nat.le_refl _) _ _ _ _ _⟩
set_option maxRecDepth 100000 in
theorem said_AND (l : List SV) (x : Nat) (b : Bool) (hx : (FloatKind.f64.format.order x 0 != some .eq) = b) (hF : Fn 121 (l.map avOf) (.log x)) (v : Value) (w : World) (h : Args w v l) :
    Calls Tryz.prog 18 #[.func (.func 54) #[] #[], v] w fun e w' => e = .returned (sv 3 (b2i b) 0 es) ∧ Below w.heap.size w w' := by
  obtain ⟨A, c, rfl, hl, hc⟩ := h.1
  have HF := hid hF
  have HA := hid h
  clear hF h hl hc
  go_enter Tryz.func18, Tryz.ntmps18
  go_wp2_with fail
  refine (all_any l _ _ ((HA.out.1.keep ((Below.refl _ _).alloc (Nat.le_refl _) _)).more (by simp)) HA.out.2.1 HA.out.2.2).mono ?_
  rintro e w1 ⟨v1, rfl, hS1, hb1⟩
  go_wp2_with fail
  refine (impl_AND _ _ HF.out v1 w1 hS1 HA.out.avs (by rw [List.length_map]; exact HA.out.2.2)).mono ?_
  rintro e w2 ⟨rfl, hb2⟩
  have hz1 : w.heap.size + 1 ≤ w1.heap.size := by have := hb1.size; simpa using this
  have hz2 : w.heap.size < w2.heap.size := by have := hb2.size; omega
  have hB2 := (Bk.below (Bk.new w 24 #[.int .i64 0, .int .i64 0, .int .i64 0, .string ⟨#[]⟩, .slice none 0 0]) hb1 (by simp)).below hb2 (by omega)
  have hd2 : Below w.heap.size w w2 := Below.lift (Below.lift ((Below.refl _ _).alloc (Nat.le_refl _) _) (by simp) hb1) (by omega) hb2
  clear hb1 hb2 hS1
  dsimp only [avV, iv, Res.av]
  go_wp2_with fail
  refine (bool_any b _).mono ?_
  rintro e w3 ⟨rfl, hb3⟩
  have hz3 : w.heap.size < w3.heap.size := by have := hb3.size; simp at this; omega
  have hB3 := (hB2.alloc _).below hb3 (by simp; omega)
  have hd3 := Below.lift (hd2.alloc (by omega) _) (by simp; omega) hb3
  clear hb3 hB2 hd2
  obtain ⟨q0, q1, q2, q3, q4, qf⟩ := hB3.cells5
  unfold sv
  go_wp2_with fail
  exact end_cell Tryz.results18 rfl (Bk.set5 hB3 _ _ _ _ _) Tryz.underlying24 rfl info_sv rfl
    ⟨rfl, Below.set5 hd3 (Nat.le_refl _) _ _ _ _ _⟩
set_option maxRecDepth 100000 in
theorem said_OR (l : List SV) (x : Nat) (b : Bool) (hx : (FloatKind.f64.format.order x 0 != some .eq) = b) (hF : Fn 122 (l.map avOf) (.log x)) (v : Value) (w : World) (h : Args w v l) :
    Calls Tryz.prog 18 #[.func (.func 55) #[] #[], v] w fun e w' => e = .returned (sv 3 (b2i b) 0 es) ∧ Below w.heap.size w w' := by
  obtain ⟨A, c, rfl, hl, hc⟩ := h.1
  have HF := hid hF
  have HA := hid h
  clear hF h hl hc
  go_enter Tryz.func18, Tryz.ntmps18
  go_wp2_with fail
  refine (all_any l _ _ ((HA.out.1.keep ((Below.refl _ _).alloc (Nat.le_refl _) _)).more (by simp)) HA.out.2.1 HA.out.2.2).mono ?_
  rintro e w1 ⟨v1, rfl, hS1, hb1⟩
  go_wp2_with fail
  refine (impl_OR _ _ HF.out v1 w1 hS1 HA.out.avs (by rw [List.length_map]; exact HA.out.2.2)).mono ?_
  rintro e w2 ⟨rfl, hb2⟩
  have hz1 : w.heap.size + 1 ≤ w1.heap.size := by have := hb1.size; simpa using this
  have hz2 : w.heap.size < w2.heap.size := by have := hb2.size; omega
  have hB2 := (Bk.below (Bk.new w 24 #[.int .i64 0, .int .i64 0, .int .i64 0, .string ⟨#[]⟩, .slice none 0 0]) hb1 (by simp)).below hb2 (by omega)
  have hd2 : Below w.heap.size w w2 := Below.lift (Below.lift ((Below.refl _ _).alloc (Nat.le_refl _) _) (by simp) hb1) (by omega) hb2
  clear hb1 hb2 hS1
  dsimp only [avV, iv, Res.av]
  go_wp2_with fail
  refine (bool_any b _).mono ?_
  rintro e w3 ⟨rfl, hb3⟩
  have hz3 : w.heap.size < w3.heap.size := by have := hb3.size; simp at this; omega
  have hB3 := (hB2.alloc _).below hb3 (by simp; omega)
  have hd3 := Below.lift (hd2.alloc (by omega) _) (by simp; omega) hb3
  clear hb3 hB2 hd2
  obtain ⟨q0, q1, q2, q3, q4, qf⟩ := hB3.cells5
  unfold sv
  go_wp2_with fail
  exact end_cell Tryz.results18 rfl (Bk.set5 hB3 _ _ _ _ _) Tryz.underlying24 rfl info_sv rfl
    ⟨rfl, Below.set5 hd3 (Nat.le_refl _) _ _ _ _ _⟩

set_option maxRecDepth 100000 in
theorem said_LOWER (l : List SV) (s : ByteArray) (hF : Fn 116 (l.map avOf) (.str s)) (v : Value) (w : World) (h : Args w v l) :
    Calls Tryz.prog 18 #[.func (.func 48) #[] #[], v] w fun e w' => e = .returned (sv 2 0 0 s) ∧ Below w.heap.size w w' := by
  obtain ⟨A, c, rfl, hl, hc⟩ := h.1
  have HF := hid hF
  have HA := hid h
  clear hF h hl hc
  go_enter Tryz.func18, Tryz.ntmps18
  go_wp2_with fail
  refine (all_any l _ _ ((HA.out.1.keep ((Below.refl _ _).alloc (Nat.le_refl _) _)).more (by simp)) HA.out.2.1 HA.out.2.2).mono ?_
  rintro e w1 ⟨v1, rfl, hS1, hb1⟩
  go_wp2_with fail
  refine (impl_LOWER _ _ HF.out v1 w1 hS1 HA.out.avs (by rw [List.length_map]; exact HA.out.2.2)).mono ?_
  rintro e w2 ⟨rfl, hb2⟩
  have hz1 : w.heap.size + 1 ≤ w1.heap.size := by have := hb1.size; simpa using this
  have hz2 : w.heap.size < w2.heap.size := by have := hb2.size; omega
  have hB2 := (Bk.below (Bk.new w 24 #[.int .i64 0, .int .i64 0, .int .i64 0, .string ⟨#[]⟩, .slice none 0 0]) hb1 (by simp)).below hb2 (by omega)
  have hd2 : Below w.heap.size w w2 := Below.lift (Below.lift ((Below.refl _ _).alloc (Nat.le_refl _) _) (by simp) hb1) (by omega) hb2
  clear hb1 hb2 hS1
  dsimp only [avV, iv, Res.av]
  go_wp2_with fail
  refine (str_any s _).mono ?_
  rintro e w3 ⟨rfl, hb3⟩
  have hz3 : w.heap.size < w3.heap.size := by have := hb3.size; simp at this; omega
  have hB3 := (hB2.alloc _).below hb3 (by simp; omega)
  have hd3 := Below.lift (hd2.alloc (by omega) _) (by simp; omega) hb3
  clear hb3 hB2 hd2
  obtain ⟨q0, q1, q2, q3, q4, qf⟩ := hB3.cells5
  unfold sv
  go_wp2_with fail
  exact end_cell Tryz.results18 rfl (Bk.set5 hB3 _ _ _ _ _) Tryz.underlying24 rfl info_sv rfl
    ⟨rfl, Below.set5 hd3 (Nat.le_refl _) _ _ _ _ _⟩
set_option maxRecDepth 100000 in
theorem said_UPPER (l : List SV) (s : ByteArray) (hF : Fn 117 (l.map avOf) (.str s)) (v : Value) (w : World) (h : Args w v l) :
    Calls Tryz.prog 18 #[.func (.func 50) #[] #[], v] w fun e w' => e = .returned (sv 2 0 0 s) ∧ Below w.heap.size w w' := by
  obtain ⟨A, c, rfl, hl, hc⟩ := h.1
  have HF := hid hF
  have HA := hid h
  clear hF h hl hc
  go_enter Tryz.func18, Tryz.ntmps18
  go_wp2_with fail
  refine (all_any l _ _ ((HA.out.1.keep ((Below.refl _ _).alloc (Nat.le_refl _) _)).more (by simp)) HA.out.2.1 HA.out.2.2).mono ?_
  rintro e w1 ⟨v1, rfl, hS1, hb1⟩
  go_wp2_with fail
  refine (impl_UPPER _ _ HF.out v1 w1 hS1 HA.out.avs (by rw [List.length_map]; exact HA.out.2.2)).mono ?_
  rintro e w2 ⟨rfl, hb2⟩
  have hz1 : w.heap.size + 1 ≤ w1.heap.size := by have := hb1.size; simpa using this
  have hz2 : w.heap.size < w2.heap.size := by have := hb2.size; omega
  have hB2 := (Bk.below (Bk.new w 24 #[.int .i64 0, .int .i64 0, .int .i64 0, .string ⟨#[]⟩, .slice none 0 0]) hb1 (by simp)).below hb2 (by omega)
  have hd2 : Below w.heap.size w w2 := Below.lift (Below.lift ((Below.refl _ _).alloc (Nat.le_refl _) _) (by simp) hb1) (by omega) hb2
  clear hb1 hb2 hS1
  dsimp only [avV, iv, Res.av]
  go_wp2_with fail
  refine (str_any s _).mono ?_
  rintro e w3 ⟨rfl, hb3⟩
  have hz3 : w.heap.size < w3.heap.size := by have := hb3.size; simp at this; omega
  have hB3 := (hB2.alloc _).below hb3 (by simp; omega)
  have hd3 := Below.lift (hd2.alloc (by omega) _) (by simp; omega) hb3
  clear hb3 hB2 hd2
  obtain ⟨q0, q1, q2, q3, q4, qf⟩ := hB3.cells5
  unfold sv
  go_wp2_with fail
  exact end_cell Tryz.results18 rfl (Bk.set5 hB3 _ _ _ _ _) Tryz.underlying24 rfl info_sv rfl
    ⟨rfl, Below.set5 hd3 (Nat.le_refl _) _ _ _ _ _⟩
set_option maxRecDepth 100000 in
theorem said_CHAR (l : List SV) (s : ByteArray) (hF : Fn 127 (l.map avOf) (.str s)) (v : Value) (w : World) (h : Args w v l) :
    Calls Tryz.prog 18 #[.func (.func 60) #[] #[], v] w fun e w' => e = .returned (sv 2 0 0 s) ∧ Below w.heap.size w w' := by
  obtain ⟨A, c, rfl, hl, hc⟩ := h.1
  have HF := hid hF
  have HA := hid h
  clear hF h hl hc
  go_enter Tryz.func18, Tryz.ntmps18
  go_wp2_with fail
  refine (all_any l _ _ ((HA.out.1.keep ((Below.refl _ _).alloc (Nat.le_refl _) _)).more (by simp)) HA.out.2.1 HA.out.2.2).mono ?_
  rintro e w1 ⟨v1, rfl, hS1, hb1⟩
  go_wp2_with fail
  refine (impl_CHAR _ _ HF.out v1 w1 hS1 HA.out.avs (by rw [List.length_map]; exact HA.out.2.2)).mono ?_
  rintro e w2 ⟨rfl, hb2⟩
  have hz1 : w.heap.size + 1 ≤ w1.heap.size := by have := hb1.size; simpa using this
  have hz2 : w.heap.size < w2.heap.size := by have := hb2.size; omega
  have hB2 := (Bk.below (Bk.new w 24 #[.int .i64 0, .int .i64 0, .int .i64 0, .string ⟨#[]⟩, .slice none 0 0]) hb1 (by simp)).below hb2 (by omega)
  have hd2 : Below w.heap.size w w2 := Below.lift (Below.lift ((Below.refl _ _).alloc (Nat.le_refl _) _) (by simp) hb1) (by omega) hb2
  clear hb1 hb2 hS1
  dsimp only [avV, iv, Res.av]
  go_wp2_with fail
  refine (str_any s _).mono ?_
  rintro e w3 ⟨rfl, hb3⟩
  have hz3 : w.heap.size < w3.heap.size := by have := hb3.size; simp at this; omega
  have hB3 := (hB2.alloc _).below hb3 (by simp; omega)
  have hd3 := Below.lift (hd2.alloc (by omega) _) (by simp; omega) hb3
  clear hb3 hB2 hd2
  obtain ⟨q0, q1, q2, q3, q4, qf⟩ := hB3.cells5
  unfold sv
  go_wp2_with fail
  exact end_cell Tryz.results18 rfl (Bk.set5 hB3 _ _ _ _ _) Tryz.underlying24 rfl info_sv rfl
    ⟨rfl, Below.set5 hd3 (Nat.le_refl _) _ _ _ _ _⟩
set_option maxRecDepth 100000 in
theorem said_REPT (l : List SV) (s : ByteArray) (hF : Fn 129 (l.map avOf) (.str s)) (v : Value) (w : World) (h : Args w v l) :
    Calls Tryz.prog 18 #[.func (.func 62) #[] #[], v] w fun e w' => e = .returned (sv 2 0 0 s) ∧ Below w.heap.size w w' := by
  obtain ⟨A, c, rfl, hl, hc⟩ := h.1
  have HF := hid hF
  have HA := hid h
  clear hF h hl hc
  go_enter Tryz.func18, Tryz.ntmps18
  go_wp2_with fail
  refine (all_any l _ _ ((HA.out.1.keep ((Below.refl _ _).alloc (Nat.le_refl _) _)).more (by simp)) HA.out.2.1 HA.out.2.2).mono ?_
  rintro e w1 ⟨v1, rfl, hS1, hb1⟩
  go_wp2_with fail
  refine (impl_REPT _ _ HF.out v1 w1 hS1 HA.out.avs (by rw [List.length_map]; exact HA.out.2.2)).mono ?_
  rintro e w2 ⟨rfl, hb2⟩
  have hz1 : w.heap.size + 1 ≤ w1.heap.size := by have := hb1.size; simpa using this
  have hz2 : w.heap.size < w2.heap.size := by have := hb2.size; omega
  have hB2 := (Bk.below (Bk.new w 24 #[.int .i64 0, .int .i64 0, .int .i64 0, .string ⟨#[]⟩, .slice none 0 0]) hb1 (by simp)).below hb2 (by omega)
  have hd2 : Below w.heap.size w w2 := Below.lift (Below.lift ((Below.refl _ _).alloc (Nat.le_refl _) _) (by simp) hb1) (by omega) hb2
  clear hb1 hb2 hS1
  dsimp only [avV, iv, Res.av]
  go_wp2_with fail
  refine (str_any s _).mono ?_
  rintro e w3 ⟨rfl, hb3⟩
  have hz3 : w.heap.size < w3.heap.size := by have := hb3.size; simp at this; omega
  have hB3 := (hB2.alloc _).below hb3 (by simp; omega)
  have hd3 := Below.lift (hd2.alloc (by omega) _) (by simp; omega) hb3
  clear hb3 hB2 hd2
  obtain ⟨q0, q1, q2, q3, q4, qf⟩ := hB3.cells5
  unfold sv
  go_wp2_with fail
  exact end_cell Tryz.results18 rfl (Bk.set5 hB3 _ _ _ _ _) Tryz.underlying24 rfl info_sv rfl
    ⟨rfl, Below.set5 hd3 (Nat.le_refl _) _ _ _ _ _⟩

end Go.Proofs.YtndabbepepbnmaaGreatDoor
