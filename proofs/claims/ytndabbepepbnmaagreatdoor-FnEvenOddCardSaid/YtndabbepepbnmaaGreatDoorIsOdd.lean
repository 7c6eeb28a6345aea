import Derived.Test.YtndabbepepbnmaaGreatDoorOrdE
namespace Go.Proofs.YtndabbepepbnmaaGreatDoor
open Go.RowKit Ieee
attribute [local go_sem] run_store_float

theorem toInt_enc' (N : Int) (hN : N.natAbs < 9007199254740992) : floatToIntVal .f64 (enc N 0) .i64 = some N := by
  unfold floatToIntVal
  have h := toInt_E (decide (N < 0)) N.natAbs 0 hN (by omega)
  rw [← enc_E, Nat.pow_zero, Nat.div_one, sg_natAbs] at h
  show (match (Ieee.double.read (enc N 0)).toInt .zero with | some n => if IntKind.i64.min ≤ n ∧ n ≤ IntKind.i64.max then some n else none | none => none) = _
  rw [h]
  have : IntKind.i64.min ≤ N ∧ N ≤ IntKind.i64.max := by
    rw [show IntKind.i64.min = -9223372036854775808 from rfl, show IntKind.i64.max = 9223372036854775807 from rfl]; omega
  exact if_pos this

set_option maxRecDepth 100000 in
theorem ISODD_num (N : Int) (hN : N.natAbs ≤ 100000000000) (b : Bool) (hb : b = decide (N.tmod 2 ≠ 0)) : Fn 115 ([((1, N, 1, es) : SV)].map avOf) (.log (if b then one64 else 0)) := by
  intro w g L el h
  simp only [List.map_cons, List.map_nil] at h
  rw [avI_whole _ (by omega)] at h
  obtain ⟨f0, hf0, hlt0, hv0⟩ := h.at_ (i := 0) rfl
  unfold fa at hv0
  have hta := fun (u : Value) wx => run_typeAssert_struct (P := Tryz.prog) 78 20 u wx Tryz.underlying78
  have Hto := hid (fun wx => run_convert_float_int (P := Tryz.prog) wx 39 3 .f64 .i64 (enc N 0) N (by kernel_rfl) Tryz.underlying3 (toInt_enc' N (by omega)))
  have H := hid h
  have Hf0 := hid hf0
  have ht := Int.tdiv_mul_add_tmod N 2
  have hn : (N.tmod 2).natAbs ≤ 1 := by
    have e1 : (N.tmod 2).natAbs = N.natAbs % 2 := by simp [Int.natAbs_tmod]
    omega
  have hq1 : N.tdiv 2 * 2 ≤ 100000000000 := by omega
  have hq2 : -100000000000 ≤ N.tdiv 2 * 2 := by omega
  have Heq : Hid ((N == N.tdiv 2 * 2) = !b) := by
    rw [Hid]
    rw [hb]
    by_cases hz : N.tmod 2 = 0
    · rw [decide_eq_false (by simpa using hz)]; simp; omega
    · rw [decide_eq_true hz]; simp; omega
  clear h hf0 hb ht hn
  generalize hQ : N.tdiv 2 * 2 = Q at *
  go_enter Tryz.func115, Tryz.ntmps115
  go_wp2_with fail
  refine (len_any (H.out.keep ((Below.refl _ _).alloc (Nat.le_refl _) _))).mono ?_
  rintro e w1 ⟨rfl, rfl⟩
  go_wp2_with fail
  refine (front_any (H.out.keep ((Below.refl _ _).alloc (Nat.le_refl _) _)) Hf0.out).mono ?_
  rintro e w1 ⟨rfl, rfl⟩
  go_wp2_with fail
  refine (toNumber_whole N (by omega) _).mono ?_
  rintro e w1 ⟨rfl, hb1⟩
  have hz1 : w.heap.size < w1.heap.size := by have := hb1.size; simp at this; omega
  have hB1 := Bk.below (Bk.new w 78 #[.string ⟨#[]⟩, .float .f64 0, .string ⟨#[]⟩, .slice none 0 0, .slice none 0 0, .bool false, .string ⟨#[]⟩, .int .u8 0, .pointer none, .pointer none]) hb1 (by simp)
  have hd1 : Below w.heap.size w w1 := Below.lift ((Below.refl _ _).alloc (Nat.le_refl _) _) (by simp) hb1
  clear hb1
  have hto := Hto.out
  have hB2 := hB1.alloc (.cells #[.string es, .float .f64 (enc N 0), .string es, .slice none 0 0, .slice none 0 0, .bool false, .string es, .int .u8 1, .pointer none, .pointer none] 78)
  have hd2 := hd1.alloc (by omega) (.cells #[.string es, .float .f64 (enc N 0), .string es, .slice none 0 0, .slice none 0 0, .bool false, .string es, .int .u8 1, .pointer none, .pointer none] 78)
  generalize enc N 0 = x at *
  unfold fa
  cases b
  all_goals
    have heq := Heq.out
    simp only [Bool.not_true, Bool.not_false] at heq
    go_wp2_with fail
    clear heq hto
    refine (newBool_any _ _).mono ?_
    rintro e w4 ⟨rfl, hb4⟩
    have hB4 := hB2.below hb4 (by simp; omega)
    have hd4 := Below.lift hd2 (by simp; omega) hb4
    obtain ⟨q0, q1, q2, q3, q4, q5, q6, q7, q8, q9, qf⟩ := hB4.cells10
    clear hb4 hB2 hd2
    first | simp only [if_true] | simp only [Bool.false_eq_true, if_false]
    unfold fa
    go_wp2_with fail
    exact end_cell Tryz.results115 rfl (Bk.set10 hB4 _ _ _ _ _ _ _ _ _ _) Tryz.underlying78 rfl info_fa rfl
      ⟨rfl, Below.set10 hd4 (Nat.le_refl _) _ _ _ _ _ _ _ _ _ _⟩
end Go.Proofs.YtndabbepepbnmaaGreatDoor
