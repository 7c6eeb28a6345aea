import Derived.Test.YtndabbepepbnmaaGreatDoorBit
import Derived.Test.YtndabbepepbnmaaGreatDoorSaidBITAND
import Derived.Test.YtndabbepepbnmaaGreatDoorSaidBITOR
import Derived.Test.YtndabbepepbnmaaGreatDoorSaidBITXOR
namespace Go.Proofs.YtndabbepepbnmaaGreatDoor
open Go.RowKit
attribute [local go_sem] run_store_float

set_option maxRecDepth 100000 in
theorem bits_in (a b : Nat) (w : World) (ha : a < 2147483648) (hb : b < 2147483648) :
    Calls Tryz.prog 5 #[.int .i64 (a : Int), .int .i64 (b : Int)] w fun e w' => e = .returned (.bool true) ∧ Below w.heap.size w w' := by
  have F1 := hid (Fn_BITAND a b ha hb)
  have F2 := hid (Fn_BITOR a b ha hb)
  have F3 := hid (Fn_BITXOR a b ha hb)
  have s1 := and_add_or (a + 1) a b (by omega)
  have s2 := xor_add_and (a + 1) a b (by omega)
  generalize (a &&& b) = p at *
  generalize (a ||| b) = q at *
  generalize (a ^^^ b) = r at *
  go_enter Tryz.func5, Tryz.ntmps5
  go_wp2_with fail
  refine (argWhole_ok _ _ (by omega) (by omega)).mono ?_
  rintro e w1 ⟨rfl, hb1⟩
  go_wp2_with fail
  refine (argWhole_ok _ _ (by omega) (by omega)).mono ?_
  rintro e w2 ⟨rfl, hb2⟩
  have hd2 := Below.lift hb1 hb1.size hb2
  clear hb1 hb2
  unfold sv
  go_wp2_with fail
  have HA := hid (Args.two (1, (a : Int), 1, es) (1, (b : Int), 1, es) w2 24 (svOk_whole _ (by omega)) (svOk_whole _ (by omega)))
  refine (said_BITAND _ (p : Int) (by omega) (by omega) F1.out _ _ HA.out).mono ?_
  rintro e w3 ⟨rfl, hb3⟩
  have HA3 := hid (HA.out.keep hb3)
  have hd3 : Below w.heap.size w w3 := Below.lift (hd2.alloc hd2.size _) (by have := hd2.size; simp; omega) hb3
  clear hd2 hb3 HA
  unfold sv
  go_wp2_with fail
  refine (said_BITOR _ (q : Int) (by omega) (by omega) F2.out _ _ HA3.out).mono ?_
  rintro e w4 ⟨rfl, hb4⟩
  have HA4 := hid (HA3.out.keep hb4)
  have hd4 : Below w.heap.size w w4 := Below.lift hd3 hd3.size hb4
  clear hd3 hb4 HA3
  unfold sv
  go_wp2_with fail
  refine (said_BITXOR _ (r : Int) (by omega) (by omega) F3.out _ _ HA4.out).mono ?_
  rintro e w5 ⟨rfl, hb5⟩
  have hd5 : Below w.heap.size w w5 := Below.lift hd4 hd4.size hb5
  clear hd4 hb5 HA4
  have t1 : (p : Int) + (q : Int) = (a : Int) + (b : Int) := by omega
  have t2 : (r : Int) = (q : Int) - (p : Int) := by omega
  unfold sv
  go_wp2_with fail
  go_ret
  exact ⟨rfl, ((hd5.alloc hd5.size _).alloc (by have := hd5.size; simp; omega) _).alloc (by have := hd5.size; simp; omega) _⟩

set_option maxRecDepth 100000 in
theorem law_FnBits (a b : Int) (w : World) (ha1 : -9223372036854775808 ≤ a) (ha2 : a ≤ 9223372036854775807) (hb1 : -9223372036854775808 ≤ b) (hb2 : b ≤ 9223372036854775807) :
    Calls Tryz.prog 5 #[.int .i64 a, .int .i64 b] w fun e w' => e = .returned (.bool true) ∧ Below w.heap.size w w' := by
  by_cases h1 : a < 0
  · go_enter Tryz.func5, Tryz.ntmps5
    go_wp2_with fail
    go_ret
    exact ⟨rfl, Below.refl _ _⟩
  by_cases h2 : b < 0
  · go_enter Tryz.func5, Tryz.ntmps5
    go_wp2_with fail
    go_ret
    exact ⟨rfl, Below.refl _ _⟩
  by_cases h3 : 2147483647 < a
  · go_enter Tryz.func5, Tryz.ntmps5
    go_wp2_with fail
    go_ret
    exact ⟨rfl, Below.refl _ _⟩
  by_cases h4 : 2147483647 < b
  · go_enter Tryz.func5, Tryz.ntmps5
    go_wp2_with fail
    go_ret
    exact ⟨rfl, Below.refl _ _⟩
  have ha : 0 ≤ a := by omega
  have hb : 0 ≤ b := by omega
  obtain ⟨A, rfl⟩ := Int.eq_ofNat_of_zero_le ha
  obtain ⟨B, rfl⟩ := Int.eq_ofNat_of_zero_le hb
  exact bits_in A B w (by omega) (by omega)
end Go.Proofs.YtndabbepepbnmaaGreatDoor
