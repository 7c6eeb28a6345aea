import Derived.Test.YtndabbepepbnmaaGreatDoorCode
import Derived.Test.YtndabbepepbnmaaGreatDoorSelf
import Derived.Test.YtndabbepepbnmaaGreatDoorSaidCHAR
import Derived.Test.YtndabbepepbnmaaGreatDoorSaidCODE
namespace Go.Proofs.YtndabbepepbnmaaGreatDoor
open Go.RowKit
attribute [local go_sem] run_store_float

set_option maxRecDepth 100000 in
theorem law_FnCharCode (n : Int) (w : World) (hn1 : -9223372036854775808 ≤ n) (hn2 : n ≤ 9223372036854775807) :
    Calls Tryz.prog 16 #[.int .i64 n] w fun e w' => e = .returned (.bool true) ∧ Below w.heap.size w w' := by
  by_cases h1 : n < 32
  · go_enter Tryz.func16, Tryz.ntmps16
    go_wp2_with fail
    go_ret
    exact ⟨rfl, Below.refl _ _⟩
  by_cases h2 : 126 < n
  · go_enter Tryz.func16, Tryz.ntmps16
    go_wp2_with fail
    go_ret
    exact ⟨rfl, Below.refl _ _⟩
  have h0 : 0 ≤ n := by omega
  obtain ⟨m, rfl⟩ := Int.eq_ofNat_of_zero_le h0
  have F1 := hid (Fn_CHAR m (by omega))
  have F2 := hid (Fn_CODE m (by omega))
  clear hn1 hn2 h0
  go_enter Tryz.func16, Tryz.ntmps16
  go_wp2_with fail
  refine (argWhole_ok _ _ (by omega) (by omega)).mono ?_
  rintro e w1 ⟨rfl, hb1⟩
  unfold sv
  go_wp2_with fail
  refine (said_CHAR _ (chr m) F1.out _ _ (Args.one (1, (m : Int), 1, es) w1 24 (svOk_whole _ (by omega)))).mono ?_
  rintro e w2 ⟨rfl, hb2⟩
  have hd2 : Below w.heap.size w w2 := Below.lift (hb1.alloc hb1.size _) (by have := hb1.size; simp; omega) hb2
  clear hb1 hb2
  unfold sv
  go_wp2_with fail
  refine (said_CODE _ (m : Int) (by omega) (by omega) F2.out _ _ (Args.one (2, 0, 0, chr m) w2 24 (svOk_str _))).mono ?_
  rintro e w3 ⟨rfl, hb3⟩
  have hd3 : Below w.heap.size w w3 := Below.lift (hd2.alloc hd2.size _) (by have := hd2.size; simp; omega) hb3
  clear hd2 hb3
  go_wp2_with fail
  refine (argWhole_ok _ _ (by omega) (by omega)).mono ?_
  rintro e w4 ⟨rfl, hb4⟩
  have hd4 := Below.lift hd3 hd3.size hb4
  clear hd3 hb4
  go_wp2_with fail
  refine (self_yes (1, (m : Int), 1, es) _).mono ?_
  rintro e w5 ⟨rfl, hb5⟩
  have hd5 := Below.lift hd4 hd4.size hb5
  go_wp2_with fail
  go_ret
  exact ⟨rfl, hd5⟩
end Go.Proofs.YtndabbepepbnmaaGreatDoor
