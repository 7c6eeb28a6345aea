import Derived.Test.YtndabbepepbnmaaGreatDoorGcdW
import Derived.Test.YtndabbepepbnmaaGreatDoorSaidGCD
import Derived.Test.YtndabbepepbnmaaGreatDoorSaidLCM
namespace Go.Proofs.YtndabbepepbnmaaGreatDoor
open Go.RowKit
attribute [local go_sem] run_store_float

theorem Fn_GCD (a b : Nat) (ha : 1 ≤ a) (hb : 1 ≤ b) (ha2 : a ≤ 1000000) (hb2 : b ≤ 1000000) : Fn 118 ([((1, (a : Int), 1, es) : SV), (1, (b : Int), 1, es)].map avOf) (.num (enc (Nat.gcd a b : Nat) 0)) := by
  intro w g L el h
  simp only [List.map_cons, List.map_nil] at h
  rw [avI_whole _ (by omega), avI_whole _ (by omega)] at h
  exact GCD_whole a b ha hb ha2 hb2 w g L el h
theorem Fn_LCM (a b : Nat) (ha : 1 ≤ a) (hb : 1 ≤ b) (ha2 : a ≤ 1000000) (hb2 : b ≤ 1000000) : Fn 119 ([((1, (a : Int), 1, es) : SV), (1, (b : Int), 1, es)].map avOf) (.num (enc (a * b / Nat.gcd a b : Nat) 0)) := by
  intro w g L el h
  simp only [List.map_cons, List.map_nil] at h
  rw [avI_whole _ (by omega), avI_whole _ (by omega)] at h
  exact LCM_whole a b ha hb ha2 hb2 w g L el h

set_option maxRecDepth 100000 in
theorem gcd_in (a b : Nat) (w : World) (ha : 1 ≤ a) (hb : 1 ≤ b) (ha2 : a ≤ 1000) (hb2 : b ≤ 1000) :
    Calls Tryz.prog 12 #[.int .i64 (a : Int), .int .i64 (b : Int)] w fun e w' => e = .returned (.bool true) ∧ Below w.heap.size w w' := by
  have F1 := hid (Fn_GCD a b ha hb (by omega) (by omega))
  have F2 := hid (Fn_LCM a b ha hb (by omega) (by omega))
  have hd0 : 1 ≤ Nat.gcd a b := Nat.gcd_pos_of_pos_left b ha
  have hdle : Nat.gcd a b ≤ 1000 := Nat.le_trans (Nat.gcd_le_left b ha) ha2
  have hr2 : a * b ≤ 1000 * 1000 := Nat.mul_le_mul ha2 hb2
  have hr3 : a * b / Nat.gcd a b ≤ a * b := Nat.div_le_self _ _
  have hm : Nat.gcd a b * (a * b / Nat.gcd a b) = a * b := Nat.mul_div_cancel' (Nat.dvd_trans (Nat.gcd_dvd_left a b) (Nat.dvd_mul_right a b))
  have ta : (a : Int).tmod (Nat.gcd a b : Int) = 0 := Int.tmod_eq_zero_of_dvd (Int.natCast_dvd_natCast.2 (Nat.gcd_dvd_left a b))
  have tb : (b : Int).tmod (Nat.gcd a b : Int) = 0 := Int.tmod_eq_zero_of_dvd (Int.natCast_dvd_natCast.2 (Nat.gcd_dvd_right a b))
  generalize a * b / Nat.gcd a b = r at *
  generalize Nat.gcd a b = d at *
  have tm : (d : Int) * (r : Int) = (a : Int) * (b : Int) := by rw [← Int.natCast_mul, ← Int.natCast_mul, hm]
  have bm : (a : Int) * (b : Int) ≤ 1000000 := by rw [← Int.natCast_mul]; omega
  have bm0 : 0 ≤ (a : Int) * (b : Int) := by rw [← Int.natCast_mul]; omega
  have hdz : ((d : Int) == 0) = false := by simp; omega
  have Hm := hid tm
  clear hm hr2 tm
  go_enter Tryz.func12, Tryz.ntmps12
  go_wp2_with fail
  refine (argWhole_ok _ _ (by omega) (by omega)).mono ?_
  rintro e w1 ⟨rfl, hb1⟩
  go_wp2_with fail
  refine (argWhole_ok _ _ (by omega) (by omega)).mono ?_
  rintro e w2 ⟨rfl, hb2⟩
  have hd2 := Below.lift hb1 hb1.size hb2
  clear hb1 hb2
  unfold sv
  go_wp2_with fail
  have HA := hid (Args.two (1, (a : Int), 1, es) (1, (b : Int), 1, es) w2 24 (svOk_whole _ (by omega)) (svOk_whole _ (by omega)))
  refine (said_GCD _ (d : Int) (by omega) (by omega) F1.out _ _ HA.out).mono ?_
  rintro e w3 ⟨rfl, hb3⟩
  have HA3 := hid (HA.out.keep hb3)
  have hd3 : Below w.heap.size w w3 := Below.lift (hd2.alloc hd2.size _) (by have := hd2.size; simp; omega) hb3
  clear hd2 hb3 HA
  unfold sv
  go_wp2_with fail
  refine (said_LCM _ (r : Int) (by omega) (by omega) F2.out _ _ HA3.out).mono ?_
  rintro e w4 ⟨rfl, hb4⟩
  have hd4 : Below w.heap.size w w4 := Below.lift hd3 hd3.size hb4
  clear hd3 hb4 HA3
  have tm := Hm.out
  have tw : IntKind.i64.wrap ((d : Int) * (r : Int)) = (a : Int) * (b : Int) := by
    rw [tm]; simp [IntKind.wrap, IntKind.bits, IntKind.signed]; omega
  have tw2 : IntKind.i64.wrap ((a : Int) * (b : Int)) = (a : Int) * (b : Int) := by
    simp [IntKind.wrap, IntKind.bits, IntKind.signed]; omega
  unfold sv
  go_wp2_with fail
  go_ret
  exact ⟨rfl, (hd4.alloc hd4.size _).alloc (by have := hd4.size; simp; omega) _⟩

set_option maxRecDepth 100000 in
theorem law_FnGcdLcm (a b : Int) (w : World) (ha1 : -9223372036854775808 ≤ a) (ha2 : a ≤ 9223372036854775807) (hb1 : -9223372036854775808 ≤ b) (hb2 : b ≤ 9223372036854775807) :
    Calls Tryz.prog 12 #[.int .i64 a, .int .i64 b] w fun e w' => e = .returned (.bool true) ∧ Below w.heap.size w w' := by
  by_cases h1 : a < 1
  · go_enter Tryz.func12, Tryz.ntmps12
    go_wp2_with fail
    go_ret
    exact ⟨rfl, Below.refl _ _⟩
  by_cases h2 : b < 1
  · go_enter Tryz.func12, Tryz.ntmps12
    go_wp2_with fail
    go_ret
    exact ⟨rfl, Below.refl _ _⟩
  by_cases h3 : 1000 < a
  · go_enter Tryz.func12, Tryz.ntmps12
    go_wp2_with fail
    go_ret
    exact ⟨rfl, Below.refl _ _⟩
  by_cases h4 : 1000 < b
  · go_enter Tryz.func12, Tryz.ntmps12
    go_wp2_with fail
    go_ret
    exact ⟨rfl, Below.refl _ _⟩
  have ha : 0 ≤ a := by omega
  have hb : 0 ≤ b := by omega
  obtain ⟨A, rfl⟩ := Int.eq_ofNat_of_zero_le ha
  obtain ⟨B, rfl⟩ := Int.eq_ofNat_of_zero_le hb
  exact gcd_in A B w (by omega) (by omega) (by omega) (by omega)
end Go.Proofs.YtndabbepepbnmaaGreatDoor
