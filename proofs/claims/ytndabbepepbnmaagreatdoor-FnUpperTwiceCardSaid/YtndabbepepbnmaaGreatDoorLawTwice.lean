import Derived.Test.YtndabbepepbnmaaGreatDoorLawText
import Derived.Deep.RegionHeld3
namespace Go.Proofs.YtndabbepepbnmaaGreatDoor
open Go.RowKit
attribute [local go_sem] run_store_float

set_option maxRecDepth 100000 in
set_option maxHeartbeats 1000000 in
theorem law_FnLowerTwice (s : ByteArray) (w : World) (hs : s.size ≤ maxLen) :
    Calls Tryz.prog 10 #[.string s] w fun e w' => e = .returned (.bool true) ∧ Below w.heap.size w w' := by
  unfold maxLen at hs
  by_cases h1 : 2147483647 < s.size
  · go_enter Tryz.func10, Tryz.ntmps10
    go_wp2_with fail
    go_ret
    exact ⟨rfl, Below.refl _ _⟩
  by_cases h2 : 1000 < s.size
  · go_enter Tryz.func10, Tryz.ntmps10
    go_wp2_with fail
    refine (short_no s _ _ _ ((Bk.new w _ #[.string s]).cell 0) h2).mono ?_
    rintro e w1 ⟨rfl, rfl⟩
    go_wp2_with fail
    go_ret
    exact ⟨rfl, (Below.refl _ _).alloc (Nat.le_refl _) _⟩
  go_enter Tryz.func10, Tryz.ntmps10
  go_wp2_with fail
  refine (short_yes s _ _ _ ((Bk.new w _ #[.string s]).cell 0) (by omega)).mono ?_
  rintro e w1 ⟨rfl, rfl⟩
  go_wp2_with fail
  refine (ascii_any s _ (by omega)).mono ?_
  rintro e w1 ⟨he, rfl⟩
  rcases he with rfl | ⟨rfl, hp⟩
  · go_wp2_with fail
    go_ret
    exact ⟨rfl, (Below.refl _ _).alloc (Nat.le_refl _) _⟩
  have ha := hid hp.asc
  have F1 := hid (Fn_LOWER s (by omega) ha.out)
  have F2 : Hid (Fn 116 ([((2, 0, 0, lowerS s) : SV)].map avOf) (.str (lowerS s))) := by
    have := Fn_LOWER (lowerS s) (by rw [lowerS_size]; omega) (asc_lower s ha.out)
    rwa [lower_twice s ha.out] at this
  clear hp
  go_wp2_with fail
  refine (str_any s _).mono ?_
  rintro e w2 ⟨rfl, hb2⟩
  have hd2 : Below w.heap.size w w2 := Below.lift ((Below.refl _ _).alloc (Nat.le_refl _) _) (by simp) hb2
  clear hb2
  unfold sv
  go_wp2_with fail
  refine (said_LOWER _ (lowerS s) F1.out _ _ (Args.one (2, 0, 0, s) w2 24 (svOk_str' s))).mono ?_
  rintro e w3 ⟨rfl, hb3⟩
  have hd3 : Below w.heap.size w w3 := Below.lift (hd2.alloc hd2.size _) (by have := hd2.size; simp; omega) hb3
  clear hd2 hb3
  unfold sv
  go_wp2_with fail
  generalize lowerS s = u at *
  have hB := Bk.new w3 24 #[.int .i64 2, .int .i64 0, .int .i64 0, .string u, .slice none 0 0]
  have hd4 := hd3.alloc hd3.size (.cells #[.int .i64 2, .int .i64 0, .int .i64 0, .string u, .slice none 0 0] 24)
  have hlt : w3.heap.size < (w3.alloc (.cells #[.int .i64 2, .int .i64 0, .int .i64 0, .string u, .slice none 0 0] 24)).heap.size := by simp
  generalize w3.alloc (.cells #[.int .i64 2, .int .i64 0, .int .i64 0, .string u, .slice none 0 0] 24) = W at *
  obtain ⟨q0, q1, q2, q3, q4, qf⟩ := hB.cells5
  clear hB hd3
  go_region_held3 (fun w' => w'.cell? ⟨w3.heap.size, 0, none⟩ = some (.int .i64 2) ∧ w'.cell? ⟨w3.heap.size, 1, none⟩ = some (.int .i64 0) ∧ w'.cell? ⟨w3.heap.size, 2, none⟩ = some (.int .i64 0) ∧ w'.cell? ⟨w3.heap.size, 3, none⟩ = some (.string u) ∧ w'.cell? ⟨w3.heap.size, 4, none⟩ = some (.slice none 0 0))
    (first | exact ⟨(hk6.cell (p := ⟨w3.heap.size, 0, none⟩) hlt).trans q0, (hk6.cell (p := ⟨w3.heap.size, 1, none⟩) hlt).trans q1, (hk6.cell (p := ⟨w3.heap.size, 2, none⟩) hlt).trans q2, (hk6.cell (p := ⟨w3.heap.size, 3, none⟩) hlt).trans q3, (hk6.cell (p := ⟨w3.heap.size, 4, none⟩) hlt).trans q4⟩ | exact ⟨(hk5.cell (p := ⟨w3.heap.size, 0, none⟩) hlt).trans q0, (hk5.cell (p := ⟨w3.heap.size, 1, none⟩) hlt).trans q1, (hk5.cell (p := ⟨w3.heap.size, 2, none⟩) hlt).trans q2, (hk5.cell (p := ⟨w3.heap.size, 3, none⟩) hlt).trans q3, (hk5.cell (p := ⟨w3.heap.size, 4, none⟩) hlt).trans q4⟩ | go_keep | exact ⟨q0, q1, q2, q3, q4⟩)
    (first
      | (go_at_call 18; refine (said_LOWER _ u F2.out _ (W.alloc (.cells (svCells (2, 0, 0, u)).toArray 24)).drew ((Args.one (2, 0, 0, u) W 24 (svOk_str' _)).keep (Below.drew (Below.refl _ _)))).mono ?_; rintro e w5 ⟨rfl, hb5⟩; have hk5 : Below W.heap.size W w5 := Below.lift (Below.drew ((Below.refl _ _).alloc (Nat.le_refl _) _)) (by simp) hb5)
      | (go_at_call 23; refine (self_yes (2, 0, 0, u) _).mono ?_; rintro e w6 ⟨rfl, hb6⟩; have hk6 : Below W.heap.size W w6 := Below.lift hk5 hk5.size hb6))
  all_goals
    go_wp2_with fail
    go_ret
    exact ⟨rfl, hd4.trans (hk6.mono hd4.size)⟩

set_option maxRecDepth 100000 in
set_option maxHeartbeats 1000000 in
theorem law_FnUpperTwice (s : ByteArray) (w : World) (hs : s.size ≤ maxLen) :
    Calls Tryz.prog 11 #[.string s] w fun e w' => e = .returned (.bool true) ∧ Below w.heap.size w w' := by
  unfold maxLen at hs
  by_cases h1 : 2147483647 < s.size
  · go_enter Tryz.func11, Tryz.ntmps11
    go_wp2_with fail
    go_ret
    exact ⟨rfl, Below.refl _ _⟩
  by_cases h2 : 1000 < s.size
  · go_enter Tryz.func11, Tryz.ntmps11
    go_wp2_with fail
    refine (short_no s _ _ _ ((Bk.new w _ #[.string s]).cell 0) h2).mono ?_
    rintro e w1 ⟨rfl, rfl⟩
    go_wp2_with fail
    go_ret
    exact ⟨rfl, (Below.refl _ _).alloc (Nat.le_refl _) _⟩
  go_enter Tryz.func11, Tryz.ntmps11
  go_wp2_with fail
  refine (short_yes s _ _ _ ((Bk.new w _ #[.string s]).cell 0) (by omega)).mono ?_
  rintro e w1 ⟨rfl, rfl⟩
  go_wp2_with fail
  refine (ascii_any s _ (by omega)).mono ?_
  rintro e w1 ⟨he, rfl⟩
  rcases he with rfl | ⟨rfl, hp⟩
  · go_wp2_with fail
    go_ret
    exact ⟨rfl, (Below.refl _ _).alloc (Nat.le_refl _) _⟩
  have ha := hid hp.asc
  have F1 := hid (Fn_UPPER s (by omega) ha.out)
  have F2 : Hid (Fn 117 ([((2, 0, 0, upperS s) : SV)].map avOf) (.str (upperS s))) := by
    have := Fn_UPPER (upperS s) (by rw [upperS_size]; omega) (asc_upper s ha.out)
    rwa [upper_twice s ha.out] at this
  clear hp
  go_wp2_with fail
  refine (str_any s _).mono ?_
  rintro e w2 ⟨rfl, hb2⟩
  have hd2 : Below w.heap.size w w2 := Below.lift ((Below.refl _ _).alloc (Nat.le_refl _) _) (by simp) hb2
  clear hb2
  unfold sv
  go_wp2_with fail
  refine (said_UPPER _ (upperS s) F1.out _ _ (Args.one (2, 0, 0, s) w2 24 (svOk_str' s))).mono ?_
  rintro e w3 ⟨rfl, hb3⟩
  have hd3 : Below w.heap.size w w3 := Below.lift (hd2.alloc hd2.size _) (by have := hd2.size; simp; omega) hb3
  clear hd2 hb3
  unfold sv
  go_wp2_with fail
  generalize upperS s = u at *
  have hB := Bk.new w3 24 #[.int .i64 2, .int .i64 0, .int .i64 0, .string u, .slice none 0 0]
  have hd4 := hd3.alloc hd3.size (.cells #[.int .i64 2, .int .i64 0, .int .i64 0, .string u, .slice none 0 0] 24)
  have hlt : w3.heap.size < (w3.alloc (.cells #[.int .i64 2, .int .i64 0, .int .i64 0, .string u, .slice none 0 0] 24)).heap.size := by simp
  generalize w3.alloc (.cells #[.int .i64 2, .int .i64 0, .int .i64 0, .string u, .slice none 0 0] 24) = W at *
  obtain ⟨q0, q1, q2, q3, q4, qf⟩ := hB.cells5
  clear hB hd3
  go_region_held3 (fun w' => w'.cell? ⟨w3.heap.size, 0, none⟩ = some (.int .i64 2) ∧ w'.cell? ⟨w3.heap.size, 1, none⟩ = some (.int .i64 0) ∧ w'.cell? ⟨w3.heap.size, 2, none⟩ = some (.int .i64 0) ∧ w'.cell? ⟨w3.heap.size, 3, none⟩ = some (.string u) ∧ w'.cell? ⟨w3.heap.size, 4, none⟩ = some (.slice none 0 0))
    (first | exact ⟨(hk6.cell (p := ⟨w3.heap.size, 0, none⟩) hlt).trans q0, (hk6.cell (p := ⟨w3.heap.size, 1, none⟩) hlt).trans q1, (hk6.cell (p := ⟨w3.heap.size, 2, none⟩) hlt).trans q2, (hk6.cell (p := ⟨w3.heap.size, 3, none⟩) hlt).trans q3, (hk6.cell (p := ⟨w3.heap.size, 4, none⟩) hlt).trans q4⟩ | exact ⟨(hk5.cell (p := ⟨w3.heap.size, 0, none⟩) hlt).trans q0, (hk5.cell (p := ⟨w3.heap.size, 1, none⟩) hlt).trans q1, (hk5.cell (p := ⟨w3.heap.size, 2, none⟩) hlt).trans q2, (hk5.cell (p := ⟨w3.heap.size, 3, none⟩) hlt).trans q3, (hk5.cell (p := ⟨w3.heap.size, 4, none⟩) hlt).trans q4⟩ | go_keep | exact ⟨q0, q1, q2, q3, q4⟩)
    (first
      | (go_at_call 18; refine (said_UPPER _ u F2.out _ (W.alloc (.cells (svCells (2, 0, 0, u)).toArray 24)).drew ((Args.one (2, 0, 0, u) W 24 (svOk_str' _)).keep (Below.drew (Below.refl _ _)))).mono ?_; rintro e w5 ⟨rfl, hb5⟩; have hk5 : Below W.heap.size W w5 := Below.lift (Below.drew ((Below.refl _ _).alloc (Nat.le_refl _) _)) (by simp) hb5)
      | (go_at_call 23; refine (self_yes (2, 0, 0, u) _).mono ?_; rintro e w6 ⟨rfl, hb6⟩; have hk6 : Below W.heap.size W w6 := Below.lift hk5 hk5.size hb6))
  all_goals
    go_wp2_with fail
    go_ret
    exact ⟨rfl, hd4.trans (hk6.mono hd4.size)⟩
end Go.Proofs.YtndabbepepbnmaaGreatDoor
