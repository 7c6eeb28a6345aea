import Derived.Test.YtndabbepepbnmaaGreatDoorTwo
import Derived.Test.YtndabbepepbnmaaGreatDoorTrunc
namespace Go.Proofs.YtndabbepepbnmaaGreatDoor
open Go.RowKit
attribute [local go_sem] run_store_float

set_option maxRecDepth 100000 in
theorem MOD_walk (x y q T R T2 p D : Nat) (c : Bool) (hx : fin x) (hy : fin y) (hxz : nz x = x) (hyz : nz y = y) (hy0 : (FloatKind.f64.format.order y 0 == some .eq) = false)
    (hq : floatBits .quo .f64 x y = some q) (hM : ∀ w, Calls Tryz.prog 143 #[.float .f64 q] w fun e w' => e = .returned (.tuple #[.float .f64 T, .float .f64 R]) ∧ w = w')
    (hc : (FloatKind.f64.format.order R 0 == some .lt) = c) (h2 : if c then floatBits .sub .f64 T one64 = some T2 else T2 = T)
    (hp : floatBits .mul .f64 y T2 = some p) (hD : floatBits .sub .f64 x p = some D) (hf : fin D)
    (w : World) (g L : Nat) (el : List Nat) (h : IsL w L el [.iface 78 (fa x es false es 1), .iface 78 (fa y es false es 1)]) :
    Calls Tryz.prog 107 #[ptr g, ptr L] w fun e w' => e = .returned (fa (nz D) es false es 1) ∧ Below w.heap.size w w' := by
  obtain ⟨f0, hf0, hlt0, hv0⟩ := h.at_ (i := 0) rfl
  obtain ⟨f1, hf1, hlt1, hv1⟩ := h.at_ (i := 1) rfl
  unfold fa at hv0 hv1
  have hta := fun (u : Value) wx => run_typeAssert_struct (P := Tryz.prog) 78 20 u wx Tryz.underlying78
  have Hq := hid (fun wx => run_float_arith (P := Tryz.prog) wx .quo 39 .f64 x y q hq)
  have Hp := hid (fun wx => run_float_arith (P := Tryz.prog) wx .mul 39 .f64 y T2 p hp)
  have HD := hid (fun wx => run_float_arith (P := Tryz.prog) wx .sub 39 .f64 x p D hD)
  have H := hid h
  have Hf0 := hid hf0
  have Hf1 := hid hf1
  have HM := hid hM
  have Hf := hid hf
  have Hx := hid hx
  have Hy := hid hy
  have Hxz := hid hxz
  have Hyz := hid hyz
  have H0 := hid hy0
  have Hc := hid hc
  have Hh2 := hid h2
  clear h hf0 hf1 hq hp hD hM hf hx hy hxz hyz hy0 hc h2
  go_enter Tryz.func107, Tryz.ntmps107
  go_wp2_with fail
  refine (len_any (H.out.keep ((Below.refl _ _).alloc (Nat.le_refl _) _))).mono ?_
  rintro e w1 ⟨rfl, rfl⟩
  go_wp2_with fail
  refine (front_any (H.out.keep ((Below.refl _ _).alloc (Nat.le_refl _) _)) Hf0.out).mono ?_
  rintro e w1 ⟨rfl, rfl⟩
  go_wp2_with fail
  refine (toNumber_num x es false es _ Hx.out).mono ?_
  rintro e w1 ⟨rfl, hb1⟩
  rw [Hxz.out]
  have hz1 : w.heap.size < w1.heap.size := by have := hb1.size; simp at this; omega
  have hB1 := Bk.below (Bk.new w 78 #[.string ⟨#[]⟩, .float .f64 0, .string ⟨#[]⟩, .slice none 0 0, .slice none 0 0, .bool false, .string ⟨#[]⟩, .int .u8 0, .pointer none, .pointer none]) hb1 (by simp)
  have hd1 : Below w.heap.size w w1 := Below.lift ((Below.refl _ _).alloc (Nat.le_refl _) _) (by simp) hb1
  clear hb1
  unfold fa
  go_wp2_with fail
  refine (back_any (H.out.keep (hd1.alloc (by omega) _)) Hf1.out (by simp)).mono ?_
  rintro e w2 ⟨rfl, rfl⟩
  have g1 : w1.cell? ⟨f1, 3, none⟩ = _ := (hd1.cell (p := ⟨f1, 3, none⟩) hlt1).trans hv1
  have g1l : f1 < w1.heap.size := by omega
  go_wp2_with fail
  refine (toNumber_num y es false es _ Hy.out).mono ?_
  rintro e w2 ⟨rfl, hb2⟩
  rw [Hyz.out]
  have hB2 := (hB1.alloc _).below hb2 (by simp; omega)
  have hd2 := Below.lift (hd1.alloc (by omega) _) (by simp; omega) hb2
  have hN1 := Bk.below (Bk.new w1 78 #[.string es, .float .f64 x, .string es, .slice none 0 0, .slice none 0 0, .bool false, .string es, .int .u8 1, .pointer none, .pointer none]) hb2 (by simp)
  have hz2 : w1.heap.size < w2.heap.size := by have := hb2.size; simp at this; omega
  obtain ⟨c0, c1, c2, c3, c4, c5, c6, c7, c8, c9, cf⟩ := hN1.cells10
  clear hb2 hB1 hN1 g1
  have h0 := H0.out
  have hq := Hq.out
  unfold fa
  go_wp2_with fail
  clear h0 hq
  refine (HM.out _).mono ?_
  rintro e w3 ⟨rfl, rfl⟩
  have hc := Hc.out
  have hp := Hp.out
  have hD := HD.out
  have hl2 : w.heap.size < w2.heap.size := by omega
  cases c
  · have h2 : T2 = T := by simpa using Hh2.out
    subst h2
    clear Hh2
    go_wp2_with fail
    clear hc hp hD
    refine (newNumber_any _ _ Hf.out).mono ?_
    rintro e w4 ⟨rfl, hb4⟩
    have hB4 := (hB2.alloc _).below hb4 (by simp; omega)
    have hd4 := Below.lift (hd2.alloc (by omega) _) (by simp; omega) hb4
    obtain ⟨q0, q1, q2, q3, q4, q5, q6, q7, q8, q9, qf⟩ := hB4.cells10
    clear hb4 hB2 hd2
    unfold fa
    go_wp2_with fail
    exact end_cell Tryz.results107 rfl (Bk.set10 hB4 _ _ _ _ _ _ _ _ _ _) Tryz.underlying78 rfl info_fa rfl
      ⟨rfl, Below.set10 hd4 (Nat.le_refl _) _ _ _ _ _ _ _ _ _ _⟩
  · have h2 := fun wx => run_float_arith (P := Tryz.prog) wx .sub 39 .f64 T one64 T2 (by simpa using Hh2.out)
    rw [show one64 = 4607182418800017408 from rfl] at h2
    clear Hh2
    go_wp2_with fail
    clear hc hp hD h2
    refine (newNumber_any _ _ Hf.out).mono ?_
    rintro e w4 ⟨rfl, hb4⟩
    have hB4 := (hB2.alloc _).below hb4 (by simp; omega)
    have hd4 := Below.lift (hd2.alloc (by omega) _) (by simp; omega) hb4
    obtain ⟨q0, q1, q2, q3, q4, q5, q6, q7, q8, q9, qf⟩ := hB4.cells10
    clear hb4 hB2 hd2
    unfold fa
    go_wp2_with fail
    exact end_cell Tryz.results107 rfl (Bk.set10 hB4 _ _ _ _ _ _ _ _ _ _) Tryz.underlying78 rfl info_fa rfl
      ⟨rfl, Below.set10 hd4 (Nat.le_refl _) _ _ _ _ _ _ _ _ _ _⟩
end Go.Proofs.YtndabbepepbnmaaGreatDoor
