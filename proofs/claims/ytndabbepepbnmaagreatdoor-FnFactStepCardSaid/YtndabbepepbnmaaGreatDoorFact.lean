import Derived.Test.YtndabbepepbnmaaGreatDoorToNum
import Derived.Deep.LoopGhost
namespace Go.Proofs.YtndabbepepbnmaaGreatDoor
open Go.RowKit
attribute [local go_sem] run_store_float

def fct : Nat → Nat
  | 0 => 1
  | n + 1 => (n + 1) * fct n
theorem fct_le : ∀ n, n ≤ 13 → fct n ≤ 6227020800 := by decide
theorem fct_pos : ∀ n, 0 < fct n
  | 0 => by decide
  | n + 1 => Nat.mul_pos (by omega) (fct_pos n)
theorem enc_two : enc 2 0 = 4611686018427387904 := by decide

theorem fact_any (n : Nat) (hn : n ≤ 13) (w : World) :
    Calls Tryz.prog 136 #[.float .f64 (enc (n : Int) 0)] w fun e w' => e = .returned (.float .f64 (enc (fct n : Int) 0)) ∧ w = w' := by
  go_enter Tryz.func136, Tryz.ntmps136
  go_wp2_with fail
  rw [← enc_two, show (4607182418800017408 : Nat) = enc 1 0 from enc_one.symm]
  go_loopg [3, 4] 12 (fun g v i wr => w = wr ∧ ∃ k : Nat, 2 ≤ k ∧ k ≤ 14 ∧ (k = 2 ∨ k ≤ n + 1) ∧ g = 14 - k ∧ v = .float .f64 (enc (fct (k - 1) : Int) 0) ∧ i = .float .f64 (enc (k : Int) 0))
  case atStart => exact ⟨rfl, 2, by omega, by omega, .inl rfl, rfl, rfl, rfl⟩
  case round =>
    obtain ⟨rfl, k, hk2, hk14, hkn, hg, rfl, rfl⟩ := hrel
    by_cases hkle : k ≤ n
    · have hlt : (FloatKind.f64.format.order (enc (k : Int) 0) (enc (n : Int) 0) == some .lt || FloatKind.f64.format.order (enc (k : Int) 0) (enc (n : Int) 0) == some .eq) = true := by
        rcases Nat.lt_or_ge k n with h | h
        · rw [lt_true (by omega) (by omega) (by omega) (by omega)]; rfl
        · rw [eq_true' (by omega) (by omega) (by omega) (by omega)]; rfl
      have hf := fct_le (k - 1) (by omega)
      have hmul := fun wx => run_float_arith (P := Tryz.prog) wx .mul 39 .f64 (enc (fct (k - 1) : Int) 0) (enc (k : Int) 0) _ (mul_whole _ _ (by omega) (by omega) (by omega) (by omega) (by
        simp only [Int.natAbs_natCast]
        have := Nat.mul_le_mul hf hk14
        omega))
      have hadd := fun wx => run_float_arith (P := Tryz.prog) wx .add 39 .f64 (enc (k : Int) 0) (enc 1 0) _ (add_whole (k : Int) 1 0 (by omega) (by decide) (by omega) (by omega))
      have he : Hid ((fct (k - 1) : Int) * (k : Int) = (fct (k + 1 - 1) : Int)) := by
        show _ = _
        obtain ⟨j, rfl⟩ : ∃ j, k = j + 1 := ⟨k - 1, by omega⟩
        show (fct j : Int) * ((j + 1 : Nat) : Int) = ((fct (j + 1) : Nat) : Int)
        rw [fct, Nat.mul_comm, Int.natCast_mul]
      have hg' := hid hg
      clear hf hkn hg
      go_wp2_with fail
      go_roundg (14 - (k + 1))
      case measure => rw [hg'.out]; omega
      case rel => exact ⟨rfl, k + 1, by omega, by omega, .inr (by omega), rfl, by rw [he.out], by simp⟩
    · have hlt : (FloatKind.f64.format.order (enc (k : Int) 0) (enc (n : Int) 0) == some .lt || FloatKind.f64.format.order (enc (k : Int) 0) (enc (n : Int) 0) == some .eq) = false := by
        rw [gt_true (by omega) (by omega) (by omega) (by omega)]; rfl
      have he : Hid ((fct (k - 1) : Int) = (fct n : Int)) := by
        show _ = _
        rcases hkn with rfl | h
        · have : n = 0 ∨ n = 1 := by omega
          rcases this with rfl | rfl <;> rfl
        · rw [show k - 1 = n by omega]
      clear hkn hg
      go_wp2_with fail
      go_ret
      exact ⟨congrArg (fun z : Int => Ending.returned (Value.float .f64 (enc z 0))) he.out, rfl⟩

set_option maxRecDepth 100000 in
theorem FACT_whole (n : Nat) (hn : n ≤ 13) (w : World) (g L : Nat) (el : List Nat) (h : IsL w L el [.iface 78 (fa (enc (n : Int) 0) es false es 1)]) :
    Calls Tryz.prog 101 #[ptr g, ptr L] w fun e w' => e = .returned (fa (enc (fct n : Int) 0) es false es 1) ∧ Below w.heap.size w w' := by
  obtain ⟨f, hf, hflt, hv⟩ := h.at_ (i := 0) rfl
  unfold fa at hv
  have hta := fun (u : Value) wx => run_typeAssert_struct (P := Tryz.prog) 78 20 u wx Tryz.underlying78
  have hlt0 : (FloatKind.f64.format.order (enc (n : Int) 0) 0 == some .lt) = false := by
    rw [order_zero _ _ (by omega) (by omega)]
    rcases Nat.eq_zero_or_pos n with h | h
    · subst h; rfl
    · rw [Int.compare_eq_gt.2 (by omega)]; rfl
  have hfl := fct_le n hn
  have H := hid h
  have Hf := hid hf
  have Hl0 := hid hlt0
  clear h hf hlt0
  go_enter Tryz.func101, Tryz.ntmps101
  go_wp2_with fail
  refine (len_any (H.out.keep ((Below.refl _ _).alloc (Nat.le_refl _) _))).mono ?_
  rintro e w1 ⟨rfl, rfl⟩
  go_wp2_with fail
  refine (front_any (H.out.keep ((Below.refl _ _).alloc (Nat.le_refl _) _)) Hf.out).mono ?_
  rintro e w1 ⟨rfl, rfl⟩
  go_wp2_with fail
  refine (toNumber_whole (n : Int) (by omega) _).mono ?_
  rintro e w1 ⟨rfl, hb1⟩
  have hz1 : w.heap.size < w1.heap.size := by have := hb1.size; simp at this; omega
  have hB1 := Bk.below (Bk.new w 78 #[.string ⟨#[]⟩, .float .f64 0, .string ⟨#[]⟩, .slice none 0 0, .slice none 0 0, .bool false, .string ⟨#[]⟩, .int .u8 0, .pointer none, .pointer none]) hb1 (by simp)
  have hd1 : Below w.heap.size w w1 := Below.lift ((Below.refl _ _).alloc (Nat.le_refl _) _) (by simp) hb1
  clear hb1
  have hl0 := Hl0.out
  unfold fa
  go_wp2_with fail
  refine (fact_any n hn _).mono ?_
  rintro e w2 ⟨rfl, rfl⟩
  clear hl0
  go_wp2_with fail
  refine (newNumber_any _ _ (fin_enc (fct n : Int) 0 (by omega) (by omega))).mono ?_
  rintro e w2 ⟨rfl, hb2⟩
  rw [nz_whole _ (by omega)]
  have hB2 := (hB1.alloc _).below hb2 (by simp; omega)
  have hd2 := Below.lift (hd1.alloc (by omega) _) (by simp; omega) hb2
  obtain ⟨q0, q1, q2, q3, q4, q5, q6, q7, q8, q9, qf⟩ := hB2.cells10
  clear hb2 hB1 hd1
  unfold fa
  go_wp2_with fail
  exact end_cell Tryz.results101 rfl (Bk.set10 hB2 _ _ _ _ _ _ _ _ _ _) Tryz.underlying78 rfl info_fa rfl
    ⟨rfl, Below.set10 hd2 (Nat.le_refl _) _ _ _ _ _ _ _ _ _ _⟩

theorem Fn_FACT (n : Nat) (hn : n ≤ 13) : Fn 101 ([((1, (n : Int), 1, es) : SV)].map avOf) (.num (enc (fct n : Int) 0)) := by
  intro w g L el h
  rw [List.map_cons, List.map_nil, List.map_cons, List.map_nil, avI_whole _ (by omega)] at h
  exact FACT_whole n hn w g L el h
end Go.Proofs.YtndabbepepbnmaaGreatDoor
