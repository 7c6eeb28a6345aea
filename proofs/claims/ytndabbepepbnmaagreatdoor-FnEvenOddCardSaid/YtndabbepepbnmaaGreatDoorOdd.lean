import Derived.Test.YtndabbepepbnmaaGreatDoorEven
namespace Go.Proofs.YtndabbepepbnmaaGreatDoor
open Go.RowKit Ieee
attribute [local go_sem] run_store_float

set_option maxRecDepth 100000 in
theorem ODD_walk (x y q T R p0 p D : Nat) (s c : Bool) (hx : fin x) (hxz : nz x = x)
    (hS : ∀ w, Calls Tryz.prog 152 #[.float .f64 x] w fun e w' => e = .returned (.bool s) ∧ w = w')
    (h00 : (FloatKind.f64.format.order x 0 == some .eq) = false) (hy : floatBits .sub .f64 x 4607182418800017408 = some y) (hq : floatBits .quo .f64 y 4611686018427387904 = some q) (hM : ∀ w, Calls Tryz.prog 143 #[.float .f64 q] w fun e w' => e = .returned (.tuple #[.float .f64 T, .float .f64 R]) ∧ w = w')
    (hp0 : floatBits .mul .f64 T 4611686018427387904 = some p0) (hp : floatBits .add .f64 p0 4607182418800017408 = some p)
    (hc : (FloatKind.f64.format.order R 0 != some .eq) = c)
    (hD : if c then (if s then floatBits .sub .f64 p 4611686018427387904 = some D else floatBits .add .f64 p 4611686018427387904 = some D) else D = p) (hf : fin D)
    (w : World) (g L : Nat) (el : List Nat) (h : IsL w L el [.iface 78 (fa x es false es 1)]) :
    Calls Tryz.prog 114 #[ptr g, ptr L] w fun e w' => e = .returned (fa (nz D) es false es 1) ∧ Below w.heap.size w w' := by
  obtain ⟨f0, hf0, hlt0, hv0⟩ := h.at_ (i := 0) rfl
  unfold fa at hv0
  have hta := fun (u : Value) wx => run_typeAssert_struct (P := Tryz.prog) 78 20 u wx Tryz.underlying78
  have Hq := hid (fun wx => run_float_arith (P := Tryz.prog) wx .quo 39 .f64 y 4611686018427387904 q hq)
  have Hy := hid (fun wx => run_float_arith (P := Tryz.prog) wx .sub 39 .f64 x 4607182418800017408 y hy)
  have H00 := hid h00
  have Hp0 := hid (fun wx => run_float_arith (P := Tryz.prog) wx .mul 39 .f64 T 4611686018427387904 p0 hp0)
  have Hp := hid (fun wx => run_float_arith (P := Tryz.prog) wx .add 39 .f64 p0 4607182418800017408 p hp)
  have H := hid h
  have Hf0 := hid hf0
  have HM := hid hM
  have HS := hid hS
  have Hf := hid hf
  have Hx := hid hx
  have Hxz := hid hxz
  have Hc := hid hc
  have HD := hid hD
  clear h hf0 hq hp hD hM hS hf hx hxz hc hy h00 hp0
  go_enter Tryz.func114, Tryz.ntmps114
  go_wp2_with fail
  refine (len_any (H.out.keep ((Below.refl _ _).alloc (Nat.le_refl _) _))).mono ?_
  rintro e w1 ⟨rfl, rfl⟩
  go_wp2_with fail
  refine (back_any (H.out.keep ((Below.refl _ _).alloc (Nat.le_refl _) _)) Hf0.out (by simp)).mono ?_
  rintro e w1 ⟨rfl, rfl⟩
  go_wp2_with fail
  refine (toNumber_num x es false es _ Hx.out).mono ?_
  rintro e w1 ⟨rfl, hb1⟩
  rw [Hxz.out]
  have hz1 : w.heap.size < w1.heap.size := by have := hb1.size; simp at this; omega
  have hB1 := Bk.below (Bk.new w 78 #[.string ⟨#[]⟩, .float .f64 0, .string ⟨#[]⟩, .slice none 0 0, .slice none 0 0, .bool false, .string ⟨#[]⟩, .int .u8 0, .pointer none, .pointer none]) hb1 (by simp)
  have hd1 : Below w.heap.size w w1 := Below.lift ((Below.refl _ _).alloc (Nat.le_refl _) _) (by simp) hb1
  clear hb1
  have h00 := H00.out
  unfold fa
  go_wp2_with fail
  clear h00
  refine (HS.out _).mono ?_
  rintro e w2 ⟨rfl, rfl⟩
  have hq := Hq.out
  have hy := Hy.out
  go_wp2_with fail
  clear hq hy
  refine (HM.out _).mono ?_
  rintro e w3 ⟨rfl, rfl⟩
  have hc := Hc.out
  have hp := Hp.out
  have hp0 := Hp0.out
  have hB2 := hB1.alloc (.cells #[.string es, .float .f64 x, .string es, .slice none 0 0, .slice none 0 0, .bool false, .string es, .int .u8 1, .pointer none, .pointer none] 78)
  have hd2 := hd1.alloc (by omega) (.cells #[.string es, .float .f64 x, .string es, .slice none 0 0, .slice none 0 0, .bool false, .string es, .int .u8 1, .pointer none, .pointer none] 78)
  cases c
  · have h2 : D = p := by simpa using HD.out
    subst h2
    clear HD
    go_wp2_with fail
    clear hc hp hp0
    refine (newNumber_any _ _ Hf.out).mono ?_
    rintro e w4 ⟨rfl, hb4⟩
    have hB4 := hB2.below hb4 (by simp; omega)
    have hd4 := Below.lift hd2 (by simp; omega) hb4
    obtain ⟨q0, q1, q2, q3, q4, q5, q6, q7, q8, q9, qf⟩ := hB4.cells10
    clear hb4 hB2 hd2
    unfold fa
    go_wp2_with fail
    exact end_cell Tryz.results114 rfl (Bk.set10 hB4 _ _ _ _ _ _ _ _ _ _) Tryz.underlying78 rfl info_fa rfl
      ⟨rfl, Below.set10 hd4 (Nat.le_refl _) _ _ _ _ _ _ _ _ _ _⟩
  · cases s
    · have h2 := fun wx => run_float_arith (P := Tryz.prog) wx .add 39 .f64 p 4611686018427387904 D (by simpa using HD.out)
      clear HD
      go_wp2_with fail
      clear hc hp hp0 h2
      refine (newNumber_any _ _ Hf.out).mono ?_
      rintro e w4 ⟨rfl, hb4⟩
      have hB4 := hB2.below hb4 (by simp; omega)
      have hd4 := Below.lift hd2 (by simp; omega) hb4
      obtain ⟨q0, q1, q2, q3, q4, q5, q6, q7, q8, q9, qf⟩ := hB4.cells10
      clear hb4 hB2 hd2
      unfold fa
      go_wp2_with fail
      exact end_cell Tryz.results114 rfl (Bk.set10 hB4 _ _ _ _ _ _ _ _ _ _) Tryz.underlying78 rfl info_fa rfl
        ⟨rfl, Below.set10 hd4 (Nat.le_refl _) _ _ _ _ _ _ _ _ _ _⟩
    · have h2 := fun wx => run_float_arith (P := Tryz.prog) wx .sub 39 .f64 p 4611686018427387904 D (by simpa using HD.out)
      clear HD
      go_wp2_with fail
      clear hc hp hp0 h2
      refine (newNumber_any _ _ Hf.out).mono ?_
      rintro e w4 ⟨rfl, hb4⟩
      have hB4 := hB2.below hb4 (by simp; omega)
      have hd4 := Below.lift hd2 (by simp; omega) hb4
      obtain ⟨q0, q1, q2, q3, q4, q5, q6, q7, q8, q9, qf⟩ := hB4.cells10
      clear hb4 hB2 hd2
      unfold fa
      go_wp2_with fail
      exact end_cell Tryz.results114 rfl (Bk.set10 hB4 _ _ _ _ _ _ _ _ _ _) Tryz.underlying78 rfl info_fa rfl
        ⟨rfl, Below.set10 hd4 (Nat.le_refl _) _ _ _ _ _ _ _ _ _ _⟩

set_option maxRecDepth 100000 in
theorem ODD_zero (w : World) (g L : Nat) (el : List Nat) (h : IsL w L el [.iface 78 (fa 0 es false es 1)]) :
    Calls Tryz.prog 114 #[ptr g, ptr L] w fun e w' => e = .returned (fa one64 es false es 1) ∧ Below w.heap.size w w' := by
  obtain ⟨f0, hf0, hlt0, hv0⟩ := h.at_ (i := 0) rfl
  unfold fa at hv0
  have hta := fun (u : Value) wx => run_typeAssert_struct (P := Tryz.prog) 78 20 u wx Tryz.underlying78
  have H := hid h
  have Hf0 := hid hf0
  have h00 : (FloatKind.f64.format.order 0 0 == some .eq) = true := by rw [order_zero0]; rfl
  have hone : Hid (fin one64) := by show Ieee.double.order one64 one64 = some .eq; decide
  have hnz : nz one64 = one64 := by unfold nz; rw [order_one]; simp
  clear h hf0
  go_enter Tryz.func114, Tryz.ntmps114
  go_wp2_with fail
  refine (len_any (H.out.keep ((Below.refl _ _).alloc (Nat.le_refl _) _))).mono ?_
  rintro e w1 ⟨rfl, rfl⟩
  go_wp2_with fail
  refine (back_any (H.out.keep ((Below.refl _ _).alloc (Nat.le_refl _) _)) Hf0.out (by simp)).mono ?_
  rintro e w1 ⟨rfl, rfl⟩
  go_wp2_with fail
  refine (toNumber_num 0 es false es _ fin_zero).mono ?_
  rintro e w1 ⟨rfl, hb1⟩
  rw [show nz 0 = 0 by unfold nz; rw [order_zero0]; simp]
  have hz1 : w.heap.size < w1.heap.size := by have := hb1.size; simp at this; omega
  have hB1 := Bk.below (Bk.new w 78 #[.string ⟨#[]⟩, .float .f64 0, .string ⟨#[]⟩, .slice none 0 0, .slice none 0 0, .bool false, .string ⟨#[]⟩, .int .u8 0, .pointer none, .pointer none]) hb1 (by simp)
  have hd1 : Below w.heap.size w w1 := Below.lift ((Below.refl _ _).alloc (Nat.le_refl _) _) (by simp) hb1
  clear hb1
  unfold fa
  go_wp2_with fail
  have hB2 := hB1.alloc (.cells #[.string es, .float .f64 0, .string es, .slice none 0 0, .slice none 0 0, .bool false, .string es, .int .u8 1, .pointer none, .pointer none] 78)
  have hd2 := hd1.alloc (by omega) (.cells #[.string es, .float .f64 0, .string es, .slice none 0 0, .slice none 0 0, .bool false, .string es, .int .u8 1, .pointer none, .pointer none] 78)
  refine (newNumber_any _ _ hone.out).mono ?_
  rintro e w4 ⟨rfl, hb4⟩
  have hB4 := hB2.below hb4 (by simp; omega)
  have hd4 := Below.lift hd2 (by simp; omega) hb4
  obtain ⟨q0, q1, q2, q3, q4, q5, q6, q7, q8, q9, qf⟩ := hB4.cells10
  clear hb4 hB2 hd2
  rw [hnz]
  unfold fa
  go_wp2_with fail
  exact end_cell Tryz.results114 rfl (Bk.set10 hB4 _ _ _ _ _ _ _ _ _ _) Tryz.underlying78 rfl info_fa rfl
    ⟨rfl, Below.set10 hd4 (Nat.le_refl _) _ _ _ _ _ _ _ _ _ _⟩
end Go.Proofs.YtndabbepepbnmaaGreatDoor
