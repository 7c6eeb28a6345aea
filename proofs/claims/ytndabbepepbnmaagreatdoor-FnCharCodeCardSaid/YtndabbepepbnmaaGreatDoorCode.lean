import Derived.Test.YtndabbepepbnmaaGreatDoorCase0
import Derived.Laws.Runes
namespace Go.Proofs.YtndabbepepbnmaaGreatDoor
open Go.RowKit
attribute [local go_sem] run_store_float

def chr (n : Nat) : ByteArray := ⟨#[UInt8.ofNat n]⟩
theorem encode_ascii (n : Nat) (hn : n < 128) : Utf8.encode (n : Int) = chr n := by
  have key : ∀ m : Fin 128, Utf8.encode ((m : Nat) : Int) = chr m := by decide
  exact key ⟨n, hn⟩

set_option maxRecDepth 100000 in
theorem CHAR_whole (n : Nat) (hn : n < 128) (w : World) (g L : Nat) (el : List Nat) (h : IsL w L el [.iface 78 (fa (enc (n : Int) 0) es false es 1)]) :
    Calls Tryz.prog 127 #[ptr g, ptr L] w fun e w' => e = .returned (fa 0 (chr n) false es 2) ∧ Below w.heap.size w w' := by
  obtain ⟨f, hf, hflt, hv⟩ := h.at_ (i := 0) rfl
  unfold fa at hv
  have hta := fun (u : Value) wx => run_typeAssert_struct (P := Tryz.prog) 78 20 u wx Tryz.underlying78
  have hto := fun wx => run_convert_float_int (P := Tryz.prog) wx 39 3 .f64 .i64 (enc (n : Int) 0) n (by kernel_rfl) Tryz.underlying3 (toInt_enc0 n (by omega))
  have hst := fun wx => run_convert_int_string (P := Tryz.prog) wx 21 9 .i32 (n : Int) (by kernel_rfl) Tryz.underlying9
  rw [encode_ascii n hn] at hst
  have H := hid h
  have Hf := hid hf
  have Hto := hid hto
  have Hst := hid hst
  clear h hf hto hst
  go_enter Tryz.func127, Tryz.ntmps127
  go_wp2_with fail
  refine (len_any (H.out.keep ((Below.refl _ _).alloc (Nat.le_refl _) _))).mono ?_
  rintro e w1 ⟨rfl, rfl⟩
  go_wp2_with fail
  refine (front_any (H.out.keep ((Below.refl _ _).alloc (Nat.le_refl _) _)) Hf.out).mono ?_
  rintro e w1 ⟨rfl, rfl⟩
  go_wp2_with fail
  refine (toNumber_whole (n : Int) (by omega) _).mono ?_
  rintro e w1 ⟨rfl, hb1⟩
  have hz1 : w.heap.size < w1.heap.size := by have := hb1.size; simp at this; omega
  have hB1 := Bk.below (Bk.new w 78 #[.string ⟨#[]⟩, .float .f64 0, .string ⟨#[]⟩, .slice none 0 0, .slice none 0 0, .bool false, .string ⟨#[]⟩, .int .u8 0, .pointer none, .pointer none]) hb1 (by simp)
  have hd1 : Below w.heap.size w w1 := Below.lift ((Below.refl _ _).alloc (Nat.le_refl _) _) (by simp) hb1
  clear hb1
  have hto := Hto.out
  have hst := Hst.out
  unfold fa
  go_wp2_with fail
  clear hto hst
  refine (newString_any _ _).mono ?_
  rintro e w3 ⟨rfl, hb3⟩
  have hB3 := (hB1.alloc _).below hb3 (by simp; omega)
  have hd3 := Below.lift (hd1.alloc (by omega) _) (by simp; omega) hb3
  have hz3 : w.heap.size < w3.heap.size := by have := hb3.size; simp at this; omega
  obtain ⟨q0, q1, q2, q3, q4, q5, q6, q7, q8, q9, qf⟩ := hB3.cells10
  clear hb3 hB1 hd1
  unfold fa
  go_wp2_with fail
  exact end_cell Tryz.results127 rfl (Bk.set10 hB3 _ _ _ _ _ _ _ _ _ _) Tryz.underlying78 rfl info_fa rfl
    ⟨rfl, Below.set10 hd3 (Nat.le_refl _) _ _ _ _ _ _ _ _ _ _⟩

set_option maxRecDepth 100000 in
theorem code_any (n : Nat) (hn : n < 128) (w : World) (g L : Nat) (el : List Nat) (h : IsL w L el [.iface 78 (fa 0 (chr n) false es 2)]) :
    Calls Tryz.prog 165 #[ptr g, .string ⟨#[67, 79, 68, 69]⟩, ptr L] w fun e w' => e = .returned (fa (enc (n : Int) 0) es false es 1) ∧ Below w.heap.size w w' := by
  obtain ⟨f, hf, hflt, hv⟩ := h.at_ (i := 0) rfl
  unfold fa at hv
  have hta := fun (u : Value) wx => run_typeAssert_struct (P := Tryz.prog) 78 20 u wx Tryz.underlying78
  have H := hid h
  have Hf := hid hf
  have h0 : (chr n).size = 1 := rfl
  clear h hf
  go_enter Tryz.func165, Tryz.ntmps165
  go_wp2_with fail
  refine (len_any (H.out.keep ((Below.refl _ _).alloc (Nat.le_refl _) _))).mono ?_
  rintro e w1 ⟨rfl, rfl⟩
  go_wp2_with fail
  refine (front_any (H.out.keep ((Below.refl _ _).alloc (Nat.le_refl _) _)) Hf.out).mono ?_
  rintro e w1 ⟨rfl, rfl⟩
  go_wp2_with fail
  refine (value_str (chr n) _).mono ?_
  rintro e w1 ⟨rfl, hb1⟩
  have hz1 : w.heap.size < w1.heap.size := by have := hb1.size; simp at this; omega
  have hB1 := Bk.below (Bk.new w 78 #[.string ⟨#[]⟩, .float .f64 0, .string ⟨#[]⟩, .slice none 0 0, .slice none 0 0, .bool false, .string ⟨#[]⟩, .int .u8 0, .pointer none, .pointer none]) hb1 (by simp)
  have hd1 : Below w.heap.size w w1 := Below.lift ((Below.refl _ _).alloc (Nat.le_refl _) _) (by simp) hb1
  clear hb1
  go_wp2_with fail
  have e0 : ((chr n)[0]'(by omega)).toNat = n := by
    show (UInt8.ofNat n).toNat = n
    simp; omega
  rw [e0, floatOfInt_enc]
  refine (newNumber_any _ _ (fin_enc (n : Int) 0 (by omega) (by omega))).mono ?_
  rintro e w3 ⟨rfl, hb3⟩
  rw [nz_whole _ (by omega)]
  have hB3 := hB1.below hb3 (by omega)
  have hd3 := Below.lift hd1 (by omega) hb3
  have hz3 : w.heap.size < w3.heap.size := by have := hb3.size; omega
  obtain ⟨q0, q1, q2, q3, q4, q5, q6, q7, q8, q9, qf⟩ := hB3.cells10
  clear hb3 hB1 hd1
  unfold fa
  go_wp2_with fail
  exact end_cell Tryz.results165 rfl (Bk.set10 hB3 _ _ _ _ _ _ _ _ _ _) Tryz.underlying78 rfl info_fa rfl
    ⟨rfl, Below.set10 hd3 (Nat.le_refl _) _ _ _ _ _ _ _ _ _ _⟩

theorem Fn_CHAR (n : Nat) (hn : n < 128) : Fn 127 ([((1, (n : Int), 1, es) : SV)].map avOf) (.str (chr n)) := by
  intro w g L el h
  simp only [List.map_cons, List.map_nil] at h
  rw [avI_whole _ (by omega)] at h
  exact CHAR_whole n hn w g L el h
theorem Fn_CODE (n : Nat) (hn : n < 128) : Fn 126 ([((2, 0, 0, chr n) : SV)].map avOf) (.num (enc (n : Int) 0)) := by
  intro w g L el h
  simp only [List.map_cons, List.map_nil] at h
  rw [avI_str] at h
  have H := hid h
  clear h
  go_enter Tryz.func126, Tryz.ntmps126
  go_wp2_with fail
  refine (code_any n hn _ g L el (H.out.keep ((Below.refl _ _).alloc (Nat.le_refl _) _))).mono ?_
  rintro e w1 ⟨rfl, hb1⟩
  have hB1 := Bk.below (Bk.new w 78 #[.string ⟨#[]⟩, .float .f64 0, .string ⟨#[]⟩, .slice none 0 0, .slice none 0 0, .bool false, .string ⟨#[]⟩, .int .u8 0, .pointer none, .pointer none]) hb1 (by simp)
  have hd1 : Below w.heap.size w w1 := Below.lift ((Below.refl _ _).alloc (Nat.le_refl _) _) (by simp) hb1
  have hz1 : w.heap.size < w1.heap.size := by have := hb1.size; simp at this; omega
  obtain ⟨q0, q1, q2, q3, q4, q5, q6, q7, q8, q9, qf⟩ := hB1.cells10
  clear hb1
  unfold fa
  go_wp2_with fail
  exact end_cell Tryz.results126 rfl (Bk.set10 hB1 _ _ _ _ _ _ _ _ _ _) Tryz.underlying78 rfl info_fa rfl
    ⟨rfl, Below.set10 hd1 (Nat.le_refl _) _ _ _ _ _ _ _ _ _ _⟩
end Go.Proofs.YtndabbepepbnmaaGreatDoor
