import Derived.Test.YtndabbepepbnmaaGreatDoorBitA
import Derived.Carry
namespace Go.Proofs.YtndabbepepbnmaaGreatDoor
open Go.RowKit
attribute [local go_sem] run_store_float

theorem toInt_enc' (N : Int) (hN : N.natAbs < 9007199254740992) : floatToIntVal .f64 (enc N 0) .i64 = some N := by
  unfold floatToIntVal
  have h := toInt_E (decide (N < 0)) N.natAbs 0 hN (by omega)
  rw [← enc_E, Nat.pow_zero, Nat.div_one, sg_natAbs] at h
  show (match (Ieee.double.read (enc N 0)).toInt .zero with | some n => if IntKind.i64.min ≤ n ∧ n ≤ IntKind.i64.max then some n else none | none => none) = _
  rw [h]
  have : IntKind.i64.min ≤ N ∧ N ≤ IntKind.i64.max := by
    rw [show IntKind.i64.min = -9223372036854775808 from rfl, show IntKind.i64.max = 9223372036854775807 from rfl]; omega
  exact if_pos this

theorem fn1_any (a b : Nat) (ha : a < 2147483648) (hb : b < 2147483648) (w : World) : Calls Tryz.prog 174 #[.int .i64 (a : Int), .int .i64 (b : Int)] w fun e w' => e = .returned (.int .i64 ((a &&& b : Nat) : Int)) ∧ w = w' := by
  have h := i64_and a b ha hb
  go_enter Tryz.func174, Tryz.ntmps174
  go_wp2_with fail
  go_ret
  exact ⟨rfl, rfl⟩
theorem fn3_any (a b : Nat) (ha : a < 2147483648) (hb : b < 2147483648) (w : World) : Calls Tryz.prog 176 #[.int .i64 (a : Int), .int .i64 (b : Int)] w fun e w' => e = .returned (.int .i64 ((a ||| b : Nat) : Int)) ∧ w = w' := by
  have h := i64_or a b ha hb
  go_enter Tryz.func176, Tryz.ntmps176
  go_wp2_with fail
  go_ret
  exact ⟨rfl, rfl⟩
theorem fn5_any (a b : Nat) (ha : a < 2147483648) (hb : b < 2147483648) (w : World) : Calls Tryz.prog 178 #[.int .i64 (a : Int), .int .i64 (b : Int)] w fun e w' => e = .returned (.int .i64 ((a ^^^ b : Nat) : Int)) ∧ w = w' := by
  have h := i64_xor a b ha hb
  go_enter Tryz.func178, Tryz.ntmps178
  go_wp2_with fail
  go_ret
  exact ⟨rfl, rfl⟩

theorem enc_max : enc 281474976710655 0 = 4823355200913801184 := by decide

set_option maxRecDepth 100000 in
set_option maxHeartbeats 1000000 in
theorem bitwise_walk (key : ByteArray) (fn : Nat) (hfn : fn = 174 ∨ fn = 176 ∨ fn = 178) (hk : keyOf Tryz.prog 9 (.string key) = some (kb key)) (hat : five.atKey (kb key) .nil = .lit (.int .i64 (fn : Int)))
    (a b c : Nat) (ha : a < 2147483648) (hb : b < 2147483648) (hc : c < 4294967296) (hF : ∀ w, Calls Tryz.prog fn #[.int .i64 (a : Int), .int .i64 (b : Int)] w fun e w' => e = .returned (.int .i64 (c : Int)) ∧ w = w')
    (w : World) (g L : Nat) (el : List Nat) (h : IsL w L el [.iface 78 (fa (enc a 0) es false es 1), .iface 78 (fa (enc b 0) es false es 1)]) :
    Calls Tryz.prog 141 #[ptr g, .string key, ptr L] w fun e w' => e = .returned (fa (enc c 0) es false es 1) ∧ Below w.heap.size w w' := by
  obtain ⟨f0, hf0, hlt0, hv0⟩ := h.at_ (i := 0) rfl
  obtain ⟨f1, hf1, hlt1, hv1⟩ := h.at_ (i := 1) rfl
  unfold fa at hv0 hv1
  have hta := fun (u : Value) wx => run_typeAssert_struct (P := Tryz.prog) 78 20 u wx Tryz.underlying78
  have hmm := @run_makeMap Tryz.prog
  have la : (FloatKind.f64.format.order (enc a 0) 0 == some .lt) = false := by
    rw [order_zero _ _ (by omega) (by omega)]
    rcases Nat.eq_zero_or_pos a with h | h
    · subst h; rfl
    · rw [Int.compare_eq_gt.2 (by omega)]; rfl
  have lb : (FloatKind.f64.format.order (enc b 0) 0 == some .lt) = false := by
    rw [order_zero _ _ (by omega) (by omega)]
    rcases Nat.eq_zero_or_pos b with h | h
    · subst h; rfl
    · rw [Int.compare_eq_gt.2 (by omega)]; rfl
  have ga : (FloatKind.f64.format.order (enc a 0) 4823355200913801184 == some .gt) = false := by
    rw [← enc_max, lt_true (by omega) (by decide) (by omega) (by omega)]; rfl
  have gb : (FloatKind.f64.format.order (enc b 0) 4823355200913801184 == some .gt) = false := by
    rw [← enc_max, lt_true (by omega) (by decide) (by omega) (by omega)]; rfl
  have ta := fun wx => run_convert_float_int (P := Tryz.prog) wx 39 3 .f64 .i64 (enc a 0) a (by kernel_rfl) Tryz.underlying3 (toInt_enc' a (by omega))
  have tb := fun wx => run_convert_float_int (P := Tryz.prog) wx 39 3 .f64 .i64 (enc b 0) b (by kernel_rfl) Tryz.underlying3 (toInt_enc' b (by omega))
  have H := hid h
  have Hf0 := hid hf0
  have Hf1 := hid hf1
  have HF := hid hF
  have Hk := hid hk
  have Hat := hid hat
  have La := hid la
  have Lb := hid lb
  have Ga := hid ga
  have Gb := hid gb
  have Ta := hid ta
  have Tb := hid tb
  clear h hf0 hf1 hF hk hat la lb ga gb ta tb
  go_enter Tryz.func141, Tryz.ntmps141
  go_wp2_with fail
  refine (len_any (H.out.keep ((Below.refl _ _).alloc (Nat.le_refl _) _))).mono ?_
  rintro e w1 ⟨rfl, rfl⟩
  go_wp2_with fail
  refine (front_any (H.out.keep ((Below.refl _ _).alloc (Nat.le_refl _) _)) Hf0.out).mono ?_
  rintro e w1 ⟨rfl, rfl⟩
  go_wp2_with fail
  refine (toNumber_whole (a : Int) (by omega) _).mono ?_
  rintro e w1 ⟨rfl, hb1⟩
  have hz1 : w.heap.size < w1.heap.size := by have := hb1.size; simp at this; omega
  have hB1 := Bk.below (Bk.new w 78 #[.string ⟨#[]⟩, .float .f64 0, .string ⟨#[]⟩, .slice none 0 0, .slice none 0 0, .bool false, .string ⟨#[]⟩, .int .u8 0, .pointer none, .pointer none]) hb1 (by simp)
  have hd1 : Below w.heap.size w w1 := Below.lift ((Below.refl _ _).alloc (Nat.le_refl _) _) (by simp) hb1
  clear hb1
  unfold fa
  go_wp2_with fail
  refine (back_any (H.out.keep hd1) Hf1.out (by simp)).mono ?_
  rintro e w2 ⟨rfl, rfl⟩
  have g1 : w1.cell? ⟨f1, 3, none⟩ = _ := (hd1.cell (p := ⟨f1, 3, none⟩) hlt1).trans hv1
  have g1l : f1 < w1.heap.size := by omega
  go_wp2_with fail
  refine (toNumber_whole (b : Int) (by omega) _).mono ?_
  rintro e w2 ⟨rfl, hb2⟩
  have hB2 := hB1.below hb2 (by omega)
  have hd2 := Below.lift hd1 (by omega) hb2
  have hz2 : w.heap.size < w2.heap.size := by have := hb2.size; omega
  clear hb2 hB1 hd1 g1 g1l
  have la := La.out
  have lb := Lb.out
  have ga := Ga.out
  have gb := Gb.out
  have ta := Ta.out
  have tb := Tb.out
  unfold fa
  obtain ⟨m1, m2, m3, m4, m5, r1, r2, r3, r4, r5, r6, bm⟩ := five_any ((w2.alloc (.cells #[.string es, .float .f64 (enc a 0), .string es, .slice none 0 0, .slice none 0 0, .bool false, .string es, .int .u8 1, .pointer none, .pointer none] 78)).alloc (.cells #[.string es, .float .f64 (enc b 0), .string es, .slice none 0 0, .slice none 0 0, .bool false, .string es, .int .u8 1, .pointer none, .pointer none] 78)) (w2.heap.size + 1 + 1) (by simp) key (kb key) fn Hk.out Hat.out
  have hN0 := ((Bk.new w2 78 #[.string es, .float .f64 (enc a 0), .string es, .slice none 0 0, .slice none 0 0, .bool false, .string es, .int .u8 1, .pointer none, .pointer none]).alloc (.cells #[.string es, .float .f64 (enc b 0), .string es, .slice none 0 0, .slice none 0 0, .bool false, .string es, .int .u8 1, .pointer none, .pointer none] 78)).below bm (by simp; omega)
  have hN1 := (Bk.new_at (w := w2.alloc (.cells #[.string es, .float .f64 (enc a 0), .string es, .slice none 0 0, .slice none 0 0, .bool false, .string es, .int .u8 1, .pointer none, .pointer none] 78)) (g := w2.heap.size + 1) (t := 78) (cs := #[.string es, .float .f64 (enc b 0), .string es, .slice none 0 0, .slice none 0 0, .bool false, .string es, .int .u8 1, .pointer none, .pointer none]) (by simp)).below bm (by simp)
  have e0 : m5.cell? ⟨w2.heap.size, 1, none⟩ = some (.float .f64 (enc a 0)) := hN0.cell 1
  have e1 : m5.cell? ⟨w2.heap.size + 1, 1, none⟩ = some (.float .f64 (enc b 0)) := hN1.cell 1
  have hB5 := ((hB2.alloc (.cells #[.string es, .float .f64 (enc a 0), .string es, .slice none 0 0, .slice none 0 0, .bool false, .string es, .int .u8 1, .pointer none, .pointer none] 78)).alloc (.cells #[.string es, .float .f64 (enc b 0), .string es, .slice none 0 0, .slice none 0 0, .bool false, .string es, .int .u8 1, .pointer none, .pointer none] 78)).below bm (by simp; omega)
  have hd5 := Below.lift ((hd2.alloc (by omega) (.cells #[.string es, .float .f64 (enc a 0), .string es, .slice none 0 0, .slice none 0 0, .bool false, .string es, .int .u8 1, .pointer none, .pointer none] 78)).alloc (by simp; omega) (.cells #[.string es, .float .f64 (enc b 0), .string es, .slice none 0 0, .slice none 0 0, .bool false, .string es, .int .u8 1, .pointer none, .pointer none] 78)) (by simp; omega) bm
  have hz5 : w.heap.size < m5.heap.size := by have := bm.size; simp at this; omega
  clear hN0 hN1 bm hB2 hd2
  rcases hfn with rfl | rfl | rfl
  all_goals
    go_wp2_with fail
    clear la lb ga gb ta tb r1 r2 r3 r4 r5 r6 e0 e1
    refine (HF.out _).mono ?_
    rintro e w3 ⟨rfl, rfl⟩
    go_wp2_with fail
    rw [floatOfInt_enc]
    refine (newNumber_any _ _ (fin_enc (c : Int) 0 (by omega) (by omega))).mono ?_
    rintro e w4 ⟨rfl, hb4⟩
    rw [nz_whole _ (by omega)]
    have hB4 := hB5.below hb4 (by omega)
    have hd4 := Below.lift hd5 (by omega) hb4
    obtain ⟨q0, q1, q2, q3, q4, q5, q6, q7, q8, q9, qf⟩ := hB4.cells10
    clear hb4 hB5 hd5
    unfold fa
    go_wp2_with fail
    exact end_cell Tryz.results141 rfl (Bk.set10 hB4 _ _ _ _ _ _ _ _ _ _) Tryz.underlying78 rfl info_fa rfl
      ⟨rfl, Below.set10 hd4 (Nat.le_refl _) _ _ _ _ _ _ _ _ _ _⟩
end Go.Proofs.YtndabbepepbnmaaGreatDoor
