import Derived.Test.YtndabbepepbnmaaGreatDoorCase
import Derived.Test.YtndabbepepbnmaaGreatDoorAscii
import Derived.Test.YtndabbepepbnmaaGreatDoorSelf
import Derived.Test.YtndabbepepbnmaaGreatDoorSaidUPPER
import Derived.Test.YtndabbepepbnmaaGreatDoorSaidLOWER
namespace Go.Proofs.YtndabbepepbnmaaGreatDoor
open Go.RowKit
attribute [local go_sem] run_store_float

theorem svOk_str' (s : ByteArray) : svOk (2, 0, 0, s) := ⟨fun h => absurd h (by simp), by simp⟩
theorem Plain.asc {s : ByteArray} (h : Plain s) : Asc s := fun j b hb => by have := h j b hb; omega

set_option maxRecDepth 100000 in
theorem law_FnUpperLower (s : ByteArray) (w : World) (hs : s.size ≤ maxLen) :
    Calls Tryz.prog 13 #[.string s] w fun e w' => e = .returned (.bool true) ∧ Below w.heap.size w w' := by
  unfold maxLen at hs
  by_cases h1 : 2147483647 < s.size
  · go_enter Tryz.func13, Tryz.ntmps13
    go_wp2_with fail
    go_ret
    exact ⟨rfl, Below.refl _ _⟩
  by_cases h2 : 1000 < s.size
  · go_enter Tryz.func13, Tryz.ntmps13
    go_wp2_with fail
    refine (short_no s _ _ _ ((Bk.new w _ #[.string s]).cell 0) h2).mono ?_
    rintro e w1 ⟨rfl, rfl⟩
    go_wp2_with fail
    go_ret
    exact ⟨rfl, (Below.refl _ _).alloc (Nat.le_refl _) _⟩
  go_enter Tryz.func13, Tryz.ntmps13
  go_wp2_with fail
  refine (short_yes s _ _ _ ((Bk.new w _ #[.string s]).cell 0) (by omega)).mono ?_
  rintro e w1 ⟨rfl, rfl⟩
  go_wp2_with fail
  refine (ascii_any s _ (by omega)).mono ?_
  rintro e w1 ⟨he, rfl⟩
  rcases he with rfl | ⟨rfl, hp⟩
  · go_wp2_with fail
    go_ret
    exact ⟨rfl, (Below.refl _ _).alloc (Nat.le_refl _) _⟩
  have ha := hid hp.asc
  have F1 := hid (Fn_UPPER s (by omega) ha.out)
  have F2 := hid (Fn_LOWER s (by omega) ha.out)
  have F3 : Hid (Fn 116 ([((2, 0, 0, upperS s) : SV)].map avOf) (.str (lowerS s))) := by
    have := Fn_LOWER (upperS s) (by rw [upperS_size]; omega) (asc_upper s ha.out)
    rwa [lower_upper s ha.out] at this
  have hsz := lowerS_size s
  have hd0 : Below w.heap.size w (w.alloc (.cells #[.string s] 71)) := (Below.refl _ _).alloc (Nat.le_refl _) _
  go_wp2_with fail
  refine (str_any s _).mono ?_
  rintro e w2 ⟨rfl, hb2⟩
  have hd2 : Below w.heap.size w w2 := Below.lift ((Below.refl _ _).alloc (Nat.le_refl _) _) (by simp) hb2
  clear hb2 hp hd0
  unfold sv
  go_wp2_with fail
  have HA := hid (Args.one (2, 0, 0, s) w2 24 (svOk_str' s))
  refine (said_UPPER _ (upperS s) F1.out _ _ HA.out).mono ?_
  rintro e w3 ⟨rfl, hb3⟩
  have HA3 := hid (HA.out.keep hb3)
  have hd3 : Below w.heap.size w w3 := Below.lift (hd2.alloc hd2.size _) (by have := hd2.size; simp; omega) hb3
  clear hd2 hb3 HA
  unfold sv
  go_wp2_with fail
  refine (said_LOWER _ (lowerS s) F3.out _ _ (Args.one (2, 0, 0, upperS s) w3 24 (svOk_str' _))).mono ?_
  rintro e w4 ⟨rfl, hb4⟩
  have HA4 := hid ((HA3.out.keep ((Below.refl _ _).alloc (Nat.le_refl _) _)).keep hb4)
  have hd4 : Below w.heap.size w w4 := Below.lift (hd3.alloc hd3.size _) (by have := hd3.size; simp; omega) hb4
  clear hd3 hb4 HA3
  unfold sv
  go_wp2_with fail
  refine (said_LOWER _ (lowerS s) F2.out _ _ HA4.out).mono ?_
  rintro e w5 ⟨rfl, hb5⟩
  have hd5 : Below w.heap.size w w5 := Below.lift hd4 hd4.size hb5
  clear hd4 hb5 HA4
  unfold sv
  go_wp2_with fail
  refine (self_yes (2, 0, 0, lowerS s) _).mono ?_
  rintro e w6 ⟨rfl, hb6⟩
  have hB := ((Bk.new w5 24 #[.int .i64 2, .int .i64 0, .int .i64 0, .string (lowerS s), .slice none 0 0]).alloc (.cells #[.int .i64 2, .int .i64 0, .int .i64 0, .string (lowerS s), .slice none 0 0] 24)).below hb6 (by simp; omega)
  have hd6 : Below w.heap.size w w6 := Below.lift ((hd5.alloc hd5.size _).alloc (by have := hd5.size; simp; omega) _) (by have := hd5.size; simp; omega) hb6
  obtain ⟨q0, q1, q2, q3, q4, qf⟩ := hB.cells5
  clear hb6 hB hd5
  go_wp2_with fail
  go_ret
  exact ⟨rfl, hd6⟩
end Go.Proofs.YtndabbepepbnmaaGreatDoor
