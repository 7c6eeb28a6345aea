import Derived.Test.YtndabbepepbnmaaGreatDoorFact
import Derived.Test.YtndabbepepbnmaaGreatDoorSaidFACT
namespace Go.Proofs.YtndabbepepbnmaaGreatDoor
open Go.RowKit
attribute [local go_sem] run_store_float

theorem said_FACT_whole (n : Nat) (hn : n ≤ 13) (z : Int) (hz : z = n) (v : Value) (w : World) (h : Args w v [(1, z, 1, es)]) :
    Calls Tryz.prog 18 #[.func (.func 19) #[] #[], v] w fun e w' => e = .returned (sv 1 (fct n : Int) 1 es) ∧ Below w.heap.size w w' := by
  subst hz
  have := fct_le n hn
  exact said_FACT _ _ (by omega) (by omega) (Fn_FACT n hn) v w h

set_option maxRecDepth 100000 in
theorem law_FnFactStep (n : Int) (w : World) (hn1 : -9223372036854775808 ≤ n) (hn2 : n ≤ 9223372036854775807) :
    Calls Tryz.prog 3 #[.int .i64 n] w fun e w' => e = .returned (.bool true) ∧ Below w.heap.size w w' := by
  by_cases h : n < 1 ∨ 13 < n
  · rcases h with h | h
    all_goals
      go_enter Tryz.func3, Tryz.ntmps3
      go_wp2_with fail
      go_ret
      exact ⟨rfl, Below.refl _ _⟩
  · obtain ⟨m, rfl⟩ : ∃ m : Nat, n = (m : Int) + 1 := ⟨(n - 1).toNat, by omega⟩
    have hm : m ≤ 12 := by omega
    clear h hn1 hn2
    go_enter Tryz.func3, Tryz.ntmps3
    go_wp2_with fail
    refine (argWhole_ok _ _ (by omega) (by omega)).mono ?_
    rintro e w1 ⟨rfl, hb1⟩
    unfold sv
    go_wp2_with fail
    refine (said_FACT_whole (m + 1) (by omega) ((m : Int) + 1) (by omega) _ _ (Args.one (1, (m : Int) + 1, 1, es) w1 _ (svOk_whole _ (by omega)))).mono ?_
    rintro e w2 ⟨rfl, hb2⟩
    have hd2 : Below w.heap.size w w2 := Below.lift (hb1.alloc hb1.size _) (by have := hb1.size; simp; omega) hb2
    clear hb1 hb2
    go_wp2_with fail
    refine (argWhole_ok _ _ (by omega) (by omega)).mono ?_
    rintro e w3 ⟨rfl, hb3⟩
    have hd3 := Below.lift hd2 hd2.size hb3
    clear hd2 hb3
    unfold sv
    go_wp2_with fail
    refine (said_FACT_whole m (by omega) (m : Int) rfl _ _ (Args.one (1, (m : Int), 1, es) w3 _ (svOk_whole _ (by omega)))).mono ?_
    rintro e w4 ⟨rfl, hb4⟩
    have hd4 : Below w.heap.size w w4 := Below.lift (hd3.alloc hd3.size _) (by have := hd3.size; simp; omega) hb4
    clear hd3 hb4
    have hp : ((m : Int) + 1) * (fct m : Int) = (fct (m + 1) : Int) := by
      rw [fct, Int.natCast_mul]; rfl
    have hA : (fct (m + 1) : Int) ≤ 6227020800 := by have := fct_le (m + 1) (by omega); omega
    have hA0 : (0 : Int) ≤ (fct (m + 1) : Int) := by omega
    have hB : (0 : Int) < (fct m : Int) := by have := fct_pos m; omega
    unfold sv
    go_wp2_with fail
    go_ret
    exact ⟨congrArg (fun b => Ending.returned (Value.bool b)) (decide_eq_true (fct_pos m)), (hd4.alloc hd4.size _).alloc (by have := hd4.size; simp; omega) _⟩
end Go.Proofs.YtndabbepepbnmaaGreatDoor
