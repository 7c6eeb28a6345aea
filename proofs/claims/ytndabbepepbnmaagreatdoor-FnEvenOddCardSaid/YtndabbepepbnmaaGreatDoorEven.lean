import Derived.Test.YtndabbepepbnmaaGreatDoorOrdE
namespace Go.Proofs.YtndabbepepbnmaaGreatDoor
open Go.RowKit Ieee
attribute [local go_sem] run_store_float

theorem sign_wrap (s : Bool) (m k : Nat) (hm : m < 9007199254740992) (hk : k ≤ 1000) : decide (wrap64 ((E s m k : Nat) : Int) < 0) = s := by
  have hl := low_lt m k hm
  have hE := E_bits s m k hm hk
  unfold wrap64
  rw [hE]
  cases s
  · apply decide_eq_false
    simp only [sb, Bool.false_eq_true, if_false]
    omega
  · apply decide_eq_true
    simp only [sb, if_true]
    omega

set_option maxRecDepth 100000 in
theorem signbit_E (s : Bool) (m k : Nat) (hm : m < 9007199254740992) (hk : k ≤ 1000) (w : World) :
    Calls Tryz.prog 152 #[.float .f64 (E s m k)] w fun e w' => e = .returned (.bool s) ∧ w = w' := by
  have h1 := fun wx => run_tobits (E s m k) wx
  have h2 := sign_wrap s m k hm hk
  go_enter Tryz.func152, Tryz.ntmps152
  go_wp2_with fail
  go_ret
  exact ⟨rfl, rfl⟩

set_option maxRecDepth 100000 in
theorem EVEN_walk (x q T R p D : Nat) (s c : Bool) (hx : fin x) (hxz : nz x = x)
    (hS : ∀ w, Calls Tryz.prog 152 #[.float .f64 x] w fun e w' => e = .returned (.bool s) ∧ w = w')
    (hq : floatBits .quo .f64 x 4611686018427387904 = some q) (hM : ∀ w, Calls Tryz.prog 143 #[.float .f64 q] w fun e w' => e = .returned (.tuple #[.float .f64 T, .float .f64 R]) ∧ w = w')
    (hp : floatBits .mul .f64 T 4611686018427387904 = some p)
    (hc : (FloatKind.f64.format.order R 0 != some .eq) = c)
    (hD : if c then (if s then floatBits .sub .f64 p 4611686018427387904 = some D else floatBits .add .f64 p 4611686018427387904 = some D) else D = p) (hf : fin D)
    (w : World) (g L : Nat) (el : List Nat) (h : IsL w L el [.iface 78 (fa x es false es 1)]) :
    Calls Tryz.prog 113 #[ptr g, ptr L] w fun e w' => e = .returned (fa (nz D) es false es 1) ∧ Below w.heap.size w w' := by
  obtain ⟨f0, hf0, hlt0, hv0⟩ := h.at_ (i := 0) rfl
  unfold fa at hv0
  have hta := fun (u : Value) wx => run_typeAssert_struct (P := Tryz.prog) 78 20 u wx Tryz.underlying78
  have Hq := hid (fun wx => run_float_arith (P := Tryz.prog) wx .quo 39 .f64 x 4611686018427387904 q hq)
  have Hp := hid (fun wx => run_float_arith (P := Tryz.prog) wx .mul 39 .f64 T 4611686018427387904 p hp)
  have H := hid h
  have Hf0 := hid hf0
  have HM := hid hM
  have HS := hid hS
  have Hf := hid hf
  have Hx := hid hx
  have Hxz := hid hxz
  have Hc := hid hc
  have HD := hid hD
  clear h hf0 hq hp hD hM hS hf hx hxz hc
  go_enter Tryz.func113, Tryz.ntmps113
  go_wp2_with fail
  refine (len_any (H.out.keep ((Below.refl _ _).alloc (Nat.le_refl _) _))).mono ?_
  rintro e w1 ⟨rfl, rfl⟩
  go_wp2_with fail
  refine (front_any (H.out.keep ((Below.refl _ _).alloc (Nat.le_refl _) _)) Hf0.out).mono ?_
  rintro e w1 ⟨rfl, rfl⟩
  go_wp2_with fail
  refine (toNumber_num x es false es _ Hx.out).mono ?_
  rintro e w1 ⟨rfl, hb1⟩
  rw [Hxz.out]
  have hz1 : w.heap.size < w1.heap.size := by have := hb1.size; simp at this; omega
  have hB1 := Bk.below (Bk.new w 78 #[.string ⟨#[]⟩, .float .f64 0, .string ⟨#[]⟩, .slice none 0 0, .slice none 0 0, .bool false, .string ⟨#[]⟩, .int .u8 0, .pointer none, .pointer none]) hb1 (by simp)
  have hd1 : Below w.heap.size w w1 := Below.lift ((Below.refl _ _).alloc (Nat.le_refl _) _) (by simp) hb1
  clear hb1
  unfold fa
  go_wp2_with fail
  refine (HS.out _).mono ?_
  rintro e w2 ⟨rfl, rfl⟩
  have hq := Hq.out
  go_wp2_with fail
  clear hq
  refine (HM.out _).mono ?_
  rintro e w3 ⟨rfl, rfl⟩
  have hc := Hc.out
  have hp := Hp.out
  have hB2 := hB1.alloc (.cells #[.string es, .float .f64 x, .string es, .slice none 0 0, .slice none 0 0, .bool false, .string es, .int .u8 1, .pointer none, .pointer none] 78)
  have hd2 := hd1.alloc (by omega) (.cells #[.string es, .float .f64 x, .string es, .slice none 0 0, .slice none 0 0, .bool false, .string es, .int .u8 1, .pointer none, .pointer none] 78)
  cases c
  · have h2 : D = p := by simpa using HD.out
    subst h2
    clear HD
    go_wp2_with fail
    clear hc hp
    refine (newNumber_any _ _ Hf.out).mono ?_
    rintro e w4 ⟨rfl, hb4⟩
    have hB4 := hB2.below hb4 (by simp; omega)
    have hd4 := Below.lift hd2 (by simp; omega) hb4
    obtain ⟨q0, q1, q2, q3, q4, q5, q6, q7, q8, q9, qf⟩ := hB4.cells10
    clear hb4 hB2 hd2
    unfold fa
    go_wp2_with fail
    exact end_cell Tryz.results113 rfl (Bk.set10 hB4 _ _ _ _ _ _ _ _ _ _) Tryz.underlying78 rfl info_fa rfl
      ⟨rfl, Below.set10 hd4 (Nat.le_refl _) _ _ _ _ _ _ _ _ _ _⟩
  · cases s
    · have h2 := fun wx => run_float_arith (P := Tryz.prog) wx .add 39 .f64 p 4611686018427387904 D (by simpa using HD.out)
      clear HD
      go_wp2_with fail
      clear hc hp h2
      refine (newNumber_any _ _ Hf.out).mono ?_
      rintro e w4 ⟨rfl, hb4⟩
      have hB4 := hB2.below hb4 (by simp; omega)
      have hd4 := Below.lift hd2 (by simp; omega) hb4
      obtain ⟨q0, q1, q2, q3, q4, q5, q6, q7, q8, q9, qf⟩ := hB4.cells10
      clear hb4 hB2 hd2
      unfold fa
      go_wp2_with fail
      exact end_cell Tryz.results113 rfl (Bk.set10 hB4 _ _ _ _ _ _ _ _ _ _) Tryz.underlying78 rfl info_fa rfl
        ⟨rfl, Below.set10 hd4 (Nat.le_refl _) _ _ _ _ _ _ _ _ _ _⟩
    · have h2 := fun wx => run_float_arith (P := Tryz.prog) wx .sub 39 .f64 p 4611686018427387904 D (by simpa using HD.out)
      clear HD
      go_wp2_with fail
      clear hc hp h2
      refine (newNumber_any _ _ Hf.out).mono ?_
      rintro e w4 ⟨rfl, hb4⟩
      have hB4 := hB2.below hb4 (by simp; omega)
      have hd4 := Below.lift hd2 (by simp; omega) hb4
      obtain ⟨q0, q1, q2, q3, q4, q5, q6, q7, q8, q9, qf⟩ := hB4.cells10
      clear hb4 hB2 hd2
      unfold fa
      go_wp2_with fail
      exact end_cell Tryz.results113 rfl (Bk.set10 hB4 _ _ _ _ _ _ _ _ _ _) Tryz.underlying78 rfl info_fa rfl
        ⟨rfl, Below.set10 hd4 (Nat.le_refl _) _ _ _ _ _ _ _ _ _ _⟩
end Go.Proofs.YtndabbepepbnmaaGreatDoor
