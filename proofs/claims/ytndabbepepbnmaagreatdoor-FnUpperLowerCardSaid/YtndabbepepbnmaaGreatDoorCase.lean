import Derived.Test.YtndabbepepbnmaaGreatDoorShelf
import Derived.Test.YtndabbepepbnmaaGreatDoorTwo
namespace Go.Proofs.YtndabbepepbnmaaGreatDoor
open Go.RowKit
attribute [local go_sem] run_store_float

theorem value_str (s : ByteArray) (w : World) : Calls Tryz.prog 156 #[fa 0 s false es 2] w fun e w' => e = .returned (.string s) ∧ Below w.heap.size w w' := by
  unfold fa
  go_enter Tryz.func156, Tryz.ntmps156
  go_wp2_with fail
  go_ret
  exact ⟨rfl, (Below.refl _ _).alloc (Nat.le_refl _) _⟩

def Asc (s : ByteArray) : Prop := ∀ (j : Nat) (b : UInt8), s.data.toList[j]? = some b → b.toNat < 128
def lowerS (s : ByteArray) : ByteArray := ⟨(Lib.toLowerA s.data.toList).toArray⟩
def upperS (s : ByteArray) : ByteArray := ⟨(Lib.toUpperA s.data.toList).toArray⟩
theorem lower_any (s : ByteArray) (w : World) (hs : s.size ≤ 140737488355328) (ha : Asc s) :
    Calls Tryz.prog 155 #[.string s] w fun e w' => e = .returned (.string (lowerS s)) ∧ Below w.heap.size w w' := Tryz.strings_ToLower_ascii s w hs ha
theorem upper_any (s : ByteArray) (w : World) (hs : s.size ≤ 140737488355328) (ha : Asc s) :
    Calls Tryz.prog 157 #[.string s] w fun e w' => e = .returned (.string (upperS s)) ∧ Below w.heap.size w w' := Tryz.strings_ToUpper_ascii s w hs ha

set_option maxRecDepth 100000 in
theorem LOWER_text (s : ByteArray) (hs : s.size ≤ 140737488355328) (ha : Asc s) (w : World) (g L : Nat) (el : List Nat) (h : IsL w L el [.iface 78 (fa 0 s false es 2)]) :
    Calls Tryz.prog 116 #[ptr g, ptr L] w fun e w' => e = .returned (fa 0 (lowerS s) false es 2) ∧ Below w.heap.size w w' := by
  obtain ⟨f, hf, hflt, hv⟩ := h.at_ (i := 0) rfl
  unfold fa at hv
  have hta := fun (u : Value) wx => run_typeAssert_struct (P := Tryz.prog) 78 20 u wx Tryz.underlying78
  have H := hid h
  have Hf := hid hf
  have Ha := hid ha
  clear h hf ha
  go_enter Tryz.func116, Tryz.ntmps116
  go_wp2_with fail
  refine (len_any (H.out.keep ((Below.refl _ _).alloc (Nat.le_refl _) _))).mono ?_
  rintro e w1 ⟨rfl, rfl⟩
  go_wp2_with fail
  refine (front_any (H.out.keep ((Below.refl _ _).alloc (Nat.le_refl _) _)) Hf.out).mono ?_
  rintro e w1 ⟨rfl, rfl⟩
  go_wp2_with fail
  refine (value_str s _).mono ?_
  rintro e w1 ⟨rfl, hb1⟩
  have hz1 : w.heap.size < w1.heap.size := by have := hb1.size; simp at this; omega
  have hB1 := Bk.below (Bk.new w 78 #[.string ⟨#[]⟩, .float .f64 0, .string ⟨#[]⟩, .slice none 0 0, .slice none 0 0, .bool false, .string ⟨#[]⟩, .int .u8 0, .pointer none, .pointer none]) hb1 (by simp)
  have hd1 : Below w.heap.size w w1 := Below.lift ((Below.refl _ _).alloc (Nat.le_refl _) _) (by simp) hb1
  clear hb1
  go_wp2_with fail
  refine (lower_any s _ hs Ha.out).mono ?_
  rintro e w2 ⟨rfl, hb2⟩
  have hB2 := hB1.below hb2 (by omega)
  have hd2 := Below.lift hd1 (by omega) hb2
  have hz2 : w.heap.size < w2.heap.size := by have := hb2.size; omega
  clear hb2 hB1 hd1
  go_wp2_with fail
  refine (newString_any _ _).mono ?_
  rintro e w3 ⟨rfl, hb3⟩
  have hB3 := hB2.below hb3 (by omega)
  have hd3 := Below.lift hd2 (by omega) hb3
  have hz3 : w.heap.size < w3.heap.size := by have := hb3.size; omega
  obtain ⟨q0, q1, q2, q3, q4, q5, q6, q7, q8, q9, qf⟩ := hB3.cells10
  clear hb3 hB2 hd2
  unfold fa
  go_wp2_with fail
  exact end_cell Tryz.results116 rfl (Bk.set10 hB3 _ _ _ _ _ _ _ _ _ _) Tryz.underlying78 rfl info_fa rfl
    ⟨rfl, Below.set10 hd3 (Nat.le_refl _) _ _ _ _ _ _ _ _ _ _⟩

theorem Fn_LOWER (s : ByteArray) (hs : s.size ≤ 140737488355328) (ha : Asc s) : Fn 116 ([((2, 0, 0, s) : SV)].map avOf) (.str (lowerS s)) := by
  intro w g L el h
  simp only [List.map_cons, List.map_nil] at h
  rw [avI_str] at h
  exact LOWER_text s hs ha w g L el h

set_option maxRecDepth 100000 in
theorem UPPER_text (s : ByteArray) (hs : s.size ≤ 140737488355328) (ha : Asc s) (w : World) (g L : Nat) (el : List Nat) (h : IsL w L el [.iface 78 (fa 0 s false es 2)]) :
    Calls Tryz.prog 117 #[ptr g, ptr L] w fun e w' => e = .returned (fa 0 (upperS s) false es 2) ∧ Below w.heap.size w w' := by
  obtain ⟨f, hf, hflt, hv⟩ := h.at_ (i := 0) rfl
  unfold fa at hv
  have hta := fun (u : Value) wx => run_typeAssert_struct (P := Tryz.prog) 78 20 u wx Tryz.underlying78
  have H := hid h
  have Hf := hid hf
  have Ha := hid ha
  clear h hf ha
  go_enter Tryz.func117, Tryz.ntmps117
  go_wp2_with fail
  refine (len_any (H.out.keep ((Below.refl _ _).alloc (Nat.le_refl _) _))).mono ?_
  rintro e w1 ⟨rfl, rfl⟩
  go_wp2_with fail
  refine (front_any (H.out.keep ((Below.refl _ _).alloc (Nat.le_refl _) _)) Hf.out).mono ?_
  rintro e w1 ⟨rfl, rfl⟩
  go_wp2_with fail
  refine (value_str s _).mono ?_
  rintro e w1 ⟨rfl, hb1⟩
  have hz1 : w.heap.size < w1.heap.size := by have := hb1.size; simp at this; omega
  have hB1 := Bk.below (Bk.new w 78 #[.string ⟨#[]⟩, .float .f64 0, .string ⟨#[]⟩, .slice none 0 0, .slice none 0 0, .bool false, .string ⟨#[]⟩, .int .u8 0, .pointer none, .pointer none]) hb1 (by simp)
  have hd1 : Below w.heap.size w w1 := Below.lift ((Below.refl _ _).alloc (Nat.le_refl _) _) (by simp) hb1
  clear hb1
  go_wp2_with fail
  refine (upper_any s _ hs Ha.out).mono ?_
  rintro e w2 ⟨rfl, hb2⟩
  have hB2 := hB1.below hb2 (by omega)
  have hd2 := Below.lift hd1 (by omega) hb2
  have hz2 : w.heap.size < w2.heap.size := by have := hb2.size; omega
  clear hb2 hB1 hd1
  go_wp2_with fail
  refine (newString_any _ _).mono ?_
  rintro e w3 ⟨rfl, hb3⟩
  have hB3 := hB2.below hb3 (by omega)
  have hd3 := Below.lift hd2 (by omega) hb3
  have hz3 : w.heap.size < w3.heap.size := by have := hb3.size; omega
  obtain ⟨q0, q1, q2, q3, q4, q5, q6, q7, q8, q9, qf⟩ := hB3.cells10
  clear hb3 hB2 hd2
  unfold fa
  go_wp2_with fail
  exact end_cell Tryz.results117 rfl (Bk.set10 hB3 _ _ _ _ _ _ _ _ _ _) Tryz.underlying78 rfl info_fa rfl
    ⟨rfl, Below.set10 hd3 (Nat.le_refl _) _ _ _ _ _ _ _ _ _ _⟩

theorem Fn_UPPER (s : ByteArray) (hs : s.size ≤ 140737488355328) (ha : Asc s) : Fn 117 ([((2, 0, 0, s) : SV)].map avOf) (.str (upperS s)) := by
  intro w g L el h
  simp only [List.map_cons, List.map_nil] at h
  rw [avI_str] at h
  exact UPPER_text s hs ha w g L el h

theorem lowerS_size (s : ByteArray) : (lowerS s).size = s.size := by
  show (Lib.toLowerA s.data.toList).toArray.size = s.data.size
  simp [Lib.toLowerA]
theorem upperS_size (s : ByteArray) : (upperS s).size = s.size := by
  show (Lib.toUpperA s.data.toList).toArray.size = s.data.size
  simp [Lib.toUpperA]
theorem lowerB_asc (b : UInt8) (h : b.toNat < 128) : (Lib.lowerB b).toNat < 128 ∧ Lib.lowerB (Lib.lowerB b) = Lib.lowerB b ∧ Lib.lowerB (Lib.upperB b) = Lib.lowerB b := by
  have key : ∀ n : Fin 128, (Lib.lowerB (UInt8.ofNat n)).toNat < 128 ∧ Lib.lowerB (Lib.lowerB (UInt8.ofNat n)) = Lib.lowerB (UInt8.ofNat n) ∧ Lib.lowerB (Lib.upperB (UInt8.ofNat n)) = Lib.lowerB (UInt8.ofNat n) := by decide
  have := key ⟨b.toNat, h⟩
  simpa using this
theorem upperB_asc (b : UInt8) (h : b.toNat < 128) : (Lib.upperB b).toNat < 128 ∧ Lib.upperB (Lib.upperB b) = Lib.upperB b := by
  have key : ∀ n : Fin 128, (Lib.upperB (UInt8.ofNat n)).toNat < 128 ∧ Lib.upperB (Lib.upperB (UInt8.ofNat n)) = Lib.upperB (UInt8.ofNat n) := by decide
  have := key ⟨b.toNat, h⟩
  simpa using this
theorem asc_lower (s : ByteArray) (h : Asc s) : Asc (lowerS s) := by
  intro j b hb
  have e : (lowerS s).data.toList = s.data.toList.map Lib.lowerB := by simp [lowerS, Lib.toLowerA]
  rw [e, List.getElem?_map] at hb
  cases hc : s.data.toList[j]? with
  | none => rw [hc] at hb; cases hb
  | some c =>
    rw [hc] at hb
    injection hb with hb
    subst hb
    exact (lowerB_asc c (h j c hc)).1
theorem asc_upper (s : ByteArray) (h : Asc s) : Asc (upperS s) := by
  intro j b hb
  have e : (upperS s).data.toList = s.data.toList.map Lib.upperB := by simp [upperS, Lib.toUpperA]
  rw [e, List.getElem?_map] at hb
  cases hc : s.data.toList[j]? with
  | none => rw [hc] at hb; cases hb
  | some c =>
    rw [hc] at hb
    injection hb with hb
    subst hb
    exact (upperB_asc c (h j c hc)).1
theorem asc_mem (s : ByteArray) (h : Asc s) (b : UInt8) (hb : b ∈ s.data.toList) : b.toNat < 128 := by
  obtain ⟨j, hj⟩ := List.getElem?_of_mem hb
  exact h j b hj
theorem lower_twice (s : ByteArray) (h : Asc s) : lowerS (lowerS s) = lowerS s := by
  show (⟨(Lib.toLowerA (Lib.toLowerA s.data.toList).toArray.toList).toArray⟩ : ByteArray) = ⟨(Lib.toLowerA s.data.toList).toArray⟩
  congr 2
  simp only [Lib.toLowerA, List.map_map]
  exact List.map_congr_left fun b hb => (lowerB_asc b (asc_mem s h b hb)).2.1
theorem upper_twice (s : ByteArray) (h : Asc s) : upperS (upperS s) = upperS s := by
  show (⟨(Lib.toUpperA (Lib.toUpperA s.data.toList).toArray.toList).toArray⟩ : ByteArray) = ⟨(Lib.toUpperA s.data.toList).toArray⟩
  congr 2
  simp only [Lib.toUpperA, List.map_map]
  exact List.map_congr_left fun b hb => (upperB_asc b (asc_mem s h b hb)).2
theorem lower_upper (s : ByteArray) (h : Asc s) : lowerS (upperS s) = lowerS s := by
  show (⟨(Lib.toLowerA (Lib.toUpperA s.data.toList).toArray.toList).toArray⟩ : ByteArray) = ⟨(Lib.toLowerA s.data.toList).toArray⟩
  congr 2
  simp only [Lib.toLowerA, Lib.toUpperA, List.map_map]
  exact List.map_congr_left fun b hb => (lowerB_asc b (asc_mem s h b hb)).2.2
end Go.Proofs.YtndabbepepbnmaaGreatDoor
