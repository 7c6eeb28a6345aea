import Derived.Test.YtndabbepepbnmaaGreatDoorModA
import Derived.Test.YtndabbepepbnmaaGreatDoorSaidMOD
namespace Go.Proofs.YtndabbepepbnmaaGreatDoor
open Go.RowKit
attribute [local go_sem] run_store_float

set_option maxRecDepth 100000 in
theorem mod_in (n k : Int) (w : World) (h1 : n ≤ 1000000000) (h2 : -1000000000 ≤ n) (h3 : k ≤ 1000000000) (h4 : -1000000000 ≤ k) (h5 : k ≠ 0) :
    Calls Tryz.prog 6 #[.int .i64 n, .int .i64 k] w fun e w' => e = .returned (.bool true) ∧ Below w.heap.size w w' := by
  obtain ⟨d, hF, hm, hp, hq⟩ := MOD_num n k (by omega) (by omega) h5
  have HF := hid hF
  have hd1 : -1000000000 ≤ d := by
    rcases Int.lt_or_gt_of_ne h5 with h | h
    · have := hq h; omega
    · have := hp h; omega
  have hd2 : d ≤ 1000000000 := by
    rcases Int.lt_or_gt_of_ne h5 with h | h
    · have := hq h; omega
    · have := hp h; omega
  have hk0 : (k == 0) = false := by simpa using h5
  have hr : (k < 0 ∧ d ≤ 0 ∧ k < d) ∨ (0 < k ∧ 0 ≤ d ∧ d < k) := by
    rcases Int.lt_or_gt_of_ne h5 with h | h
    · exact .inl ⟨h, hq h⟩
    · exact .inr ⟨h, hp h⟩
  clear hF hp hq
  rcases hr with ⟨hs, r1, r2⟩ | ⟨hs, r1, r2⟩
  all_goals
    go_enter Tryz.func6, Tryz.ntmps6
    go_wp2_with fail
    refine (argWhole_ok _ _ (by omega) (by omega)).mono ?_
    rintro e w1 ⟨rfl, hb1⟩
    go_wp2_with fail
    refine (argWhole_ok _ _ (by omega) (by omega)).mono ?_
    rintro e w2 ⟨rfl, hb2⟩
    have hd2' := Below.lift hb1 hb1.size hb2
    clear hb1 hb2
    unfold sv
    go_wp2_with fail
    refine (said_MOD _ d (by omega) (by omega) HF.out _ _ (Args.two (1, n, 1, es) (1, k, 1, es) w2 _ (svOk_whole _ (by omega)) (svOk_whole _ (by omega)))).mono ?_
    rintro e w3 ⟨rfl, hb3⟩
    have hd3 : Below w.heap.size w w3 := Below.lift (hd2'.alloc hd2'.size _) (by have := hd2'.size; simp; omega) hb3
    clear hd2' hb3
    unfold sv
    go_wp2_with fail
    go_ret
    exact ⟨rfl, hd3.alloc hd3.size _⟩

set_option maxRecDepth 100000 in
theorem law_FnModQuotient (n k : Int) (w : World) (hn1 : -9223372036854775808 ≤ n) (hn2 : n ≤ 9223372036854775807) (hk1 : -9223372036854775808 ≤ k) (hk2 : k ≤ 9223372036854775807) :
    Calls Tryz.prog 6 #[.int .i64 n, .int .i64 k] w fun e w' => e = .returned (.bool true) ∧ Below w.heap.size w w' := by
  by_cases h1 : 1000000000 < n
  · go_enter Tryz.func6, Tryz.ntmps6
    go_wp2_with fail
    go_ret
    exact ⟨rfl, Below.refl _ _⟩
  by_cases h2 : n < -1000000000
  · go_enter Tryz.func6, Tryz.ntmps6
    go_wp2_with fail
    go_ret
    exact ⟨rfl, Below.refl _ _⟩
  by_cases h3 : 1000000000 < k
  · go_enter Tryz.func6, Tryz.ntmps6
    go_wp2_with fail
    go_ret
    exact ⟨rfl, Below.refl _ _⟩
  by_cases h4 : k < -1000000000
  · go_enter Tryz.func6, Tryz.ntmps6
    go_wp2_with fail
    go_ret
    exact ⟨rfl, Below.refl _ _⟩
  by_cases h5 : k = 0
  · subst h5
    go_enter Tryz.func6, Tryz.ntmps6
    go_wp2_with fail
    go_ret
    exact ⟨rfl, Below.refl _ _⟩
  exact mod_in n k w (by omega) (by omega) (by omega) (by omega) h5
end Go.Proofs.YtndabbepepbnmaaGreatDoor
