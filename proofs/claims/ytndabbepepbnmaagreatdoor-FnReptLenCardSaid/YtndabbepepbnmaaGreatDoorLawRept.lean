import Derived.Test.YtndabbepepbnmaaGreatDoorRept
import Derived.Test.YtndabbepepbnmaaGreatDoorSelf
import Derived.Test.YtndabbepepbnmaaGreatDoorSaidREPT
import Derived.Test.YtndabbepepbnmaaGreatDoorSaidLEN
namespace Go.Proofs.YtndabbepepbnmaaGreatDoor
open Go.RowKit
attribute [local go_sem] run_store_float

set_option maxRecDepth 100000 in
set_option maxHeartbeats 1000000 in
theorem law_FnReptLen (s : ByteArray) (n : Int) (w : World) (hs : s.size ≤ maxLen) :
    Calls Tryz.prog 17 #[.string s, .int .i64 n] w fun e w' => e = .returned (.bool true) ∧ Below w.heap.size w w' := by
  unfold maxLen at hs
  by_cases h1 : 2147483647 < s.size
  · go_enter Tryz.func17, Tryz.ntmps17
    go_wp2_with fail
    go_ret
    exact ⟨rfl, Below.refl _ _⟩
  by_cases h2 : 100 < s.size
  · go_enter Tryz.func17, Tryz.ntmps17
    go_wp2_with fail
    go_ret
    exact ⟨rfl, Below.refl _ _⟩
  by_cases h3 : n < 0
  · go_enter Tryz.func17, Tryz.ntmps17
    go_wp2_with fail
    refine (ascii_any s _ (by omega)).mono ?_
    rintro e w1 ⟨he, rfl⟩
    rcases he with rfl | ⟨rfl, hp⟩
    all_goals
      try clear hp
      go_wp2_with fail
      go_ret
      exact ⟨rfl, Below.refl _ _⟩
  by_cases h4 : 100 < n
  · go_enter Tryz.func17, Tryz.ntmps17
    go_wp2_with fail
    refine (ascii_any s _ (by omega)).mono ?_
    rintro e w1 ⟨he, rfl⟩
    rcases he with rfl | ⟨rfl, hp⟩
    all_goals
      try clear hp
      go_wp2_with fail
      go_ret
      exact ⟨rfl, Below.refl _ _⟩
  go_enter Tryz.func17, Tryz.ntmps17
  go_wp2_with fail
  refine (ascii_any s _ (by omega)).mono ?_
  rintro e w1 ⟨he, rfl⟩
  rcases he with rfl | ⟨rfl, hp⟩
  · go_wp2_with fail
    go_ret
    exact ⟨rfl, Below.refl _ _⟩
  obtain ⟨k, hk⟩ : ∃ k : Nat, n = (k : Int) := ⟨n.toNat, by omega⟩
  subst hk
  have hk100 : k ≤ 100 := by omega
  have hs100 : s.size ≤ 100 := by omega
  have hmn : k * s.size ≤ 10000 := Nat.mul_le_mul hk100 hs100
  have hm1 : (k : Int) * (s.size : Int) ≤ 10000 := by rw [← Int.natCast_mul]; omega
  have hm0 : 0 ≤ (k : Int) * (s.size : Int) := by rw [← Int.natCast_mul]; omega
  have F1 := hid (Fn_REPT s k hk100 hs100)
  have F2 := hid (Fn_LEN (rep s k) (rep_plain s k hp) (by rw [rep_size]; omega))
  have HN : Hid (((rep s k).size : Int) = (k : Int) * (s.size : Int)) := by show _ = _; rw [rep_size]; exact Int.natCast_mul _ _
  have HR : Hid ((rep s k).size ≤ 10000) := by show _ ≤ _; rw [rep_size]; exact hmn
  clear hp hmn
  go_wp2_with fail
  refine (str_any s _).mono ?_
  rintro e w2 ⟨rfl, hb2⟩
  unfold sv
  go_wp2_with fail
  refine (argWhole_ok (k : Int) _ (by omega) (by omega)).mono ?_
  rintro e w3 ⟨rfl, hb3⟩
  unfold sv
  have hd3 := Below.lift hb2 hb2.size hb3
  clear hb2 hb3
  go_wp2_with fail
  refine (said_REPT [(2, 0, 0, s), (1, (k : Int), 1, es)] (rep s k) F1.out _ _ (Args.two (2, 0, 0, s) (1, (k : Int), 1, es) w3 24 (svOk_str _) (svOk_whole _ (by omega)))).mono ?_
  rintro e w4 ⟨rfl, hb4⟩
  have hd4 : Below w.heap.size w w4 := Below.lift (hd3.alloc hd3.size _) (by have := hd3.size; simp; omega) hb4
  clear hd3 hb4
  unfold sv
  go_wp2_with fail
  refine (said_LEN [(2, 0, 0, rep s k)] ((rep s k).size : Int) (by omega) (by have := HR.out; omega) F2.out _ _ (Args.one (2, 0, 0, rep s k) w4 24 (svOk_str _))).mono ?_
  rintro e w5 ⟨rfl, hb5⟩
  have hd5 : Below w.heap.size w w5 := Below.lift (hd4.alloc hd4.size _) (by have := hd4.size; simp; omega) hb5
  clear hd4 hb5
  rw [HN.out]
  unfold sv
  go_wp2_with fail
  obtain ⟨m, hm⟩ : ∃ m, (k : Int) * (s.size : Int) = m := ⟨_, rfl⟩
  rw [hm] at hm0 hm1
  rw [hm]
  clear hm F1 F2 HN
  refine (argWhole_ok m _ (by omega) (by omega)).mono ?_
  rintro e w6 ⟨rfl, hb6⟩
  have hd6 := Below.lift hd5 hd5.size hb6
  clear hd5 hb6
  go_wp2_with fail
  refine (self_yes (1, m, 1, es) _).mono ?_
  rintro e w7 ⟨rfl, hb7⟩
  have hd7 := Below.lift hd6 hd6.size hb7
  go_wp2_with fail
  go_ret
  exact ⟨rfl, hd7⟩
end Go.Proofs.YtndabbepepbnmaaGreatDoor
