import Derived.Test.YtndabbepepbnmaaGreatDoorBitW
namespace Go.Proofs.YtndabbepepbnmaaGreatDoor
open Go.RowKit
attribute [local go_sem] run_store_float

theorem BITAND_walk (fn : Nat) (hfn : fn = 174 ∨ fn = 176 ∨ fn = 178) (hat : five.atKey (kb ⟨#[66, 73, 84, 65, 78, 68]⟩) .nil = .lit (.int .i64 (fn : Int)))
    (a b c : Nat) (ha : a < 2147483648) (hb : b < 2147483648) (hc : c < 4294967296) (hF : ∀ w, Calls Tryz.prog fn #[.int .i64 (a : Int), .int .i64 (b : Int)] w fun e w' => e = .returned (.int .i64 (c : Int)) ∧ w = w') :
    Fn 104 ([((1, (a : Int), 1, es) : SV), (1, (b : Int), 1, es)].map avOf) (.num (enc c 0)) := by
  intro w g L el h
  simp only [List.map_cons, List.map_nil] at h
  rw [avI_whole _ (by omega), avI_whole _ (by omega)] at h
  have H := hid h
  have Hat := hid hat
  have HF := hid hF
  clear h hF hat
  go_enter Tryz.func104, Tryz.ntmps104
  go_wp2_with fail
  refine (bitwise_walk ⟨#[66, 73, 84, 65, 78, 68]⟩ fn hfn (by kernel_rfl) Hat.out a b c ha hb hc HF.out _ g L el (H.out.keep ((Below.refl _ _).alloc (Nat.le_refl _) _))).mono ?_
  rintro e w1 ⟨rfl, hb1⟩
  have hB1 := Bk.below (Bk.new w 78 #[.string ⟨#[]⟩, .float .f64 0, .string ⟨#[]⟩, .slice none 0 0, .slice none 0 0, .bool false, .string ⟨#[]⟩, .int .u8 0, .pointer none, .pointer none]) hb1 (by simp)
  have hd1 : Below w.heap.size w w1 := Below.lift ((Below.refl _ _).alloc (Nat.le_refl _) _) (by simp) hb1
  have hz1 : w.heap.size < w1.heap.size := by have := hb1.size; simp at this; omega
  obtain ⟨q0, q1, q2, q3, q4, q5, q6, q7, q8, q9, qf⟩ := hB1.cells10
  clear hb1
  unfold fa
  go_wp2_with fail
  exact end_cell Tryz.results104 rfl (Bk.set10 hB1 _ _ _ _ _ _ _ _ _ _) Tryz.underlying78 rfl info_fa rfl
    ⟨rfl, Below.set10 hd1 (Nat.le_refl _) _ _ _ _ _ _ _ _ _ _⟩
theorem BITOR_walk (fn : Nat) (hfn : fn = 174 ∨ fn = 176 ∨ fn = 178) (hat : five.atKey (kb ⟨#[66, 73, 84, 79, 82]⟩) .nil = .lit (.int .i64 (fn : Int)))
    (a b c : Nat) (ha : a < 2147483648) (hb : b < 2147483648) (hc : c < 4294967296) (hF : ∀ w, Calls Tryz.prog fn #[.int .i64 (a : Int), .int .i64 (b : Int)] w fun e w' => e = .returned (.int .i64 (c : Int)) ∧ w = w') :
    Fn 105 ([((1, (a : Int), 1, es) : SV), (1, (b : Int), 1, es)].map avOf) (.num (enc c 0)) := by
  intro w g L el h
  simp only [List.map_cons, List.map_nil] at h
  rw [avI_whole _ (by omega), avI_whole _ (by omega)] at h
  have H := hid h
  have Hat := hid hat
  have HF := hid hF
  clear h hF hat
  go_enter Tryz.func105, Tryz.ntmps105
  go_wp2_with fail
  refine (bitwise_walk ⟨#[66, 73, 84, 79, 82]⟩ fn hfn (by kernel_rfl) Hat.out a b c ha hb hc HF.out _ g L el (H.out.keep ((Below.refl _ _).alloc (Nat.le_refl _) _))).mono ?_
  rintro e w1 ⟨rfl, hb1⟩
  have hB1 := Bk.below (Bk.new w 78 #[.string ⟨#[]⟩, .float .f64 0, .string ⟨#[]⟩, .slice none 0 0, .slice none 0 0, .bool false, .string ⟨#[]⟩, .int .u8 0, .pointer none, .pointer none]) hb1 (by simp)
  have hd1 : Below w.heap.size w w1 := Below.lift ((Below.refl _ _).alloc (Nat.le_refl _) _) (by simp) hb1
  have hz1 : w.heap.size < w1.heap.size := by have := hb1.size; simp at this; omega
  obtain ⟨q0, q1, q2, q3, q4, q5, q6, q7, q8, q9, qf⟩ := hB1.cells10
  clear hb1
  unfold fa
  go_wp2_with fail
  exact end_cell Tryz.results105 rfl (Bk.set10 hB1 _ _ _ _ _ _ _ _ _ _) Tryz.underlying78 rfl info_fa rfl
    ⟨rfl, Below.set10 hd1 (Nat.le_refl _) _ _ _ _ _ _ _ _ _ _⟩
theorem BITXOR_walk (fn : Nat) (hfn : fn = 174 ∨ fn = 176 ∨ fn = 178) (hat : five.atKey (kb ⟨#[66, 73, 84, 88, 79, 82]⟩) .nil = .lit (.int .i64 (fn : Int)))
    (a b c : Nat) (ha : a < 2147483648) (hb : b < 2147483648) (hc : c < 4294967296) (hF : ∀ w, Calls Tryz.prog fn #[.int .i64 (a : Int), .int .i64 (b : Int)] w fun e w' => e = .returned (.int .i64 (c : Int)) ∧ w = w') :
    Fn 106 ([((1, (a : Int), 1, es) : SV), (1, (b : Int), 1, es)].map avOf) (.num (enc c 0)) := by
  intro w g L el h
  simp only [List.map_cons, List.map_nil] at h
  rw [avI_whole _ (by omega), avI_whole _ (by omega)] at h
  have H := hid h
  have Hat := hid hat
  have HF := hid hF
  clear h hF hat
  go_enter Tryz.func106, Tryz.ntmps106
  go_wp2_with fail
  refine (bitwise_walk ⟨#[66, 73, 84, 88, 79, 82]⟩ fn hfn (by kernel_rfl) Hat.out a b c ha hb hc HF.out _ g L el (H.out.keep ((Below.refl _ _).alloc (Nat.le_refl _) _))).mono ?_
  rintro e w1 ⟨rfl, hb1⟩
  have hB1 := Bk.below (Bk.new w 78 #[.string ⟨#[]⟩, .float .f64 0, .string ⟨#[]⟩, .slice none 0 0, .slice none 0 0, .bool false, .string ⟨#[]⟩, .int .u8 0, .pointer none, .pointer none]) hb1 (by simp)
  have hd1 : Below w.heap.size w w1 := Below.lift ((Below.refl _ _).alloc (Nat.le_refl _) _) (by simp) hb1
  have hz1 : w.heap.size < w1.heap.size := by have := hb1.size; simp at this; omega
  obtain ⟨q0, q1, q2, q3, q4, q5, q6, q7, q8, q9, qf⟩ := hB1.cells10
  clear hb1
  unfold fa
  go_wp2_with fail
  exact end_cell Tryz.results106 rfl (Bk.set10 hB1 _ _ _ _ _ _ _ _ _ _) Tryz.underlying78 rfl info_fa rfl
    ⟨rfl, Below.set10 hd1 (Nat.le_refl _) _ _ _ _ _ _ _ _ _ _⟩
theorem Fn_BITAND (a b : Nat) (ha : a < 2147483648) (hb : b < 2147483648) : Fn 104 ([((1, (a : Int), 1, es) : SV), (1, (b : Int), 1, es)].map avOf) (.num (enc (a &&& b : Nat) 0)) :=
  BITAND_walk 174 (by decide) (by kernel_rfl) a b _ ha hb (by have := Nat.and_le_left (n := a) (m := b); omega) (fun w => fn1_any a b ha hb w)
theorem Fn_BITOR (a b : Nat) (ha : a < 2147483648) (hb : b < 2147483648) : Fn 105 ([((1, (a : Int), 1, es) : SV), (1, (b : Int), 1, es)].map avOf) (.num (enc (a ||| b : Nat) 0)) :=
  BITOR_walk 176 (by decide) (by kernel_rfl) a b _ ha hb (by have := and_add_or (a + 1) a b (by omega); omega) (fun w => fn3_any a b ha hb w)
theorem Fn_BITXOR (a b : Nat) (ha : a < 2147483648) (hb : b < 2147483648) : Fn 106 ([((1, (a : Int), 1, es) : SV), (1, (b : Int), 1, es)].map avOf) (.num (enc (a ^^^ b : Nat) 0)) :=
  BITXOR_walk 178 (by decide) (by kernel_rfl) a b _ ha hb (by have := and_add_or (a + 1) a b (by omega); have := xor_add_and (a + 1) a b (by omega); omega) (fun w => fn5_any a b ha hb w)
end Go.Proofs.YtndabbepepbnmaaGreatDoor
