import Derived.Test.YtjnlghokhlmjlaaGreatDoorFitsNot
namespace Go.Proofs.YtjnlghokhlmjlaaGreatDoor
open Go.RowKit
attribute [local go_sem] run_store_float

set_option maxRecDepth 100000 in
theorem Fits_NOT (v : Value) (r : Bool) (w : World)
    (H1 : ∀ W, Below w.heap.size w W → Calls Tryz.prog 69 #[.string ⟨#[78, 79, 84]⟩, v] W fun e w' => e = .returned (.tuple #[.bool false, .bool false]) ∧ Below W.heap.size W w')
    (H2 : ∀ W, Below w.heap.size w W → Calls Tryz.prog 70 #[.string ⟨#[78, 79, 84]⟩, v] W fun e w' => e = .returned (.tuple #[.bool false, .bool false]) ∧ W = w')
    (H3 : ∀ W, Below w.heap.size w W → Calls Tryz.prog 71 #[.string ⟨#[78, 79, 84]⟩, v] W fun e w' => e = .returned (.tuple #[.bool r, .bool true]) ∧ Below W.heap.size W w') :
    Calls Tryz.prog 47 #[.string ⟨#[78, 79, 84]⟩, v] w fun e w' => e = .returned (.bool r) ∧ Below w.heap.size w w' := by
  have K1 := hid H1
  have K2 := hid H2
  have K3 := hid H3
  clear H1 H2 H3
  go_enter Tryz.func47, Tryz.ntmps47
  go_wp2_with fail
  refine (K1.out _ (Below.refl _ _)).mono ?_
  rintro e w1 ⟨rfl, hb1⟩
  go_wp2_with fail
  refine (K2.out _ hb1).mono ?_
  rintro e w2 ⟨rfl, rfl⟩
  go_wp2_with fail
  refine (K3.out _ hb1).mono ?_
  rintro e w2 ⟨rfl, hb2⟩
  go_wp2_with fail
  go_ret
  exact ⟨rfl, Below.lift hb1 hb1.size hb2⟩

set_option maxRecDepth 100000 in
theorem CallOver_no_NOT (v : Value) (w : World)
    (H1 : ∀ W, Below w.heap.size w W → Calls Tryz.prog 47 #[.string ⟨#[78, 79, 84]⟩, v] W fun e w' => e = .returned (.bool false) ∧ Below W.heap.size W w') :
    Calls Tryz.prog 36 #[.string ⟨#[78, 79, 84]⟩, v, v] w fun e w' => e = .returned (sv 6 0 0 es) ∧ Below w.heap.size w w' := by
  have K1 := hid H1
  clear H1
  go_enter Tryz.func36, Tryz.ntmps36
  go_wp2_with fail
  refine (K1.out _ ((Below.refl _ _).alloc (Nat.le_refl _) _)).mono ?_
  rintro e w1 ⟨rfl, hb1⟩
  go_wp2_with fail
  refine (doubt_any _).mono ?_
  rintro e w2 ⟨rfl, hb2⟩
  have hz1 : w.heap.size + 1 ≤ w1.heap.size := by have := hb1.size; simpa using this
  have hB := (Bk.below (Bk.new w 27 #[.int .i64 0, .int .i64 0, .int .i64 0, .string ⟨#[]⟩, .slice none 0 0]) hb1 (by simp)).below hb2 (by omega)
  obtain ⟨q0, q1, q2, q3, q4, qf⟩ := hB.cells5
  unfold sv
  go_wp2_with fail
  exact end_cell Tryz.results36 rfl (Bk.set5 hB _ _ _ _ _) Tryz.underlying27 rfl info_sv rfl
    ⟨rfl, Below.set5 (Below.lift (Below.lift ((Below.refl _ _).alloc (Nat.le_refl _) _) (by simp) hb1) (by omega) hb2) (by simp) _ _ _ _ _⟩

set_option maxRecDepth 100000 in
set_option maxHeartbeats 400000 in
theorem CallOver_NOT (v : Value) (k n d : Int) (t : ByteArray) (w : World)
    (H1 : ∀ W, Below w.heap.size w W → Calls Tryz.prog 47 #[.string ⟨#[78, 79, 84]⟩, v] W fun e w' => e = .returned (.bool true) ∧ Below W.heap.size W w')
    (H2 : ∀ W, Below w.heap.size w W → Calls Tryz.prog 53 #[.string ⟨#[78, 79, 84]⟩, v] W fun e w' => e = .returned (.tuple #[sv k n d t, .bool true]) ∧ Below W.heap.size W w') :
    Calls Tryz.prog 36 #[.string ⟨#[78, 79, 84]⟩, v, v] w fun e w' => e = .returned (sv k n d t) ∧ Below w.heap.size w w' := by
  have K1 := hid H1
  have K2 := hid H2
  clear H1 H2
  go_enter Tryz.func36, Tryz.ntmps36
  go_wp2_with fail
  refine (K1.out _ ((Below.refl _ _).alloc (Nat.le_refl _) _)).mono ?_
  rintro e w1 ⟨rfl, hb1⟩
  have hB1 := Bk.below (Bk.new w 27 #[.int .i64 0, .int .i64 0, .int .i64 0, .string ⟨#[]⟩, .slice none 0 0]) hb1 (by simp)
  have hz1 : w.heap.size + 1 ≤ w1.heap.size := by have := hb1.size; simpa using this
  have hd1 : Below w.heap.size w w1 := Below.lift ((Below.refl _ _).alloc (Nat.le_refl _) _) (by simp) hb1
  clear hb1
  go_wp2_with fail
  refine (Stat_miss_NOT v _).mono ?_
  rintro e w2 ⟨rfl, hb2⟩
  have hB2 := hB1.below hb2 (by omega)
  have hd2 := Below.lift hd1 (by omega) hb2
  have hz2 : w.heap.size + 1 ≤ w2.heap.size := by have := hb2.size; omega
  clear hB1 hd1 hb2 hz1
  unfold sv
  go_wp2_with fail
  refine (Criteria_miss_NOT v _).mono ?_
  rintro e w3 ⟨rfl, hb3⟩
  have hB3 := (hB2.alloc _).below hb3 (by simp; omega)
  have hd3 := Below.lift (hd2.alloc (by omega) _) (by simp; omega) hb3
  have hz3 : w.heap.size + 1 ≤ w3.heap.size := by have := hb3.size; simp at this; omega
  clear hB2 hd2 hb3 hz2
  unfold sv
  go_wp2_with fail
  refine (Lookup_miss_NOT v _).mono ?_
  rintro e w4 ⟨rfl, hb4⟩
  have hB4 := (hB3.alloc _).below hb4 (by simp; omega)
  have hd4 := Below.lift (hd3.alloc (by omega) _) (by simp; omega) hb4
  have hz4 : w.heap.size + 1 ≤ w4.heap.size := by have := hb4.size; simp at this; omega
  clear hB3 hd3 hb4 hz3
  unfold sv
  go_wp2_with fail
  refine (CallMath_miss_NOT v _).mono ?_
  rintro e w5 ⟨rfl, hb5⟩
  have hB5 := (hB4.alloc _).below hb5 (by simp; omega)
  have hd5 := Below.lift (hd4.alloc (by omega) _) (by simp; omega) hb5
  have hz5 : w.heap.size + 1 ≤ w5.heap.size := by have := hb5.size; simp at this; omega
  clear hB4 hd4 hb5 hz4
  unfold sv
  go_wp2_with fail
  refine (CallText_miss_NOT v _).mono ?_
  rintro e w6 ⟨rfl, hb6⟩
  have hB6 := (hB5.alloc _).below hb6 (by simp; omega)
  have hd6 := Below.lift (hd5.alloc (by omega) _) (by simp; omega) hb6
  have hz6 : w.heap.size + 1 ≤ w6.heap.size := by have := hb6.size; simp at this; omega
  clear hB5 hd5 hb6 hz5
  unfold sv
  go_wp2_with fail
  refine (K2.out _ (hd6.alloc (by omega) _)).mono ?_
  rintro e w7 ⟨rfl, hb7⟩
  have hB7 := (hB6.alloc _).below hb7 (by simp; omega)
  have hd7 := Below.lift (hd6.alloc (by omega) _) (by simp; omega) hb7
  have hz7 : w.heap.size + 1 ≤ w7.heap.size := by have := hb7.size; simp at this; omega
  clear hB6 hd6 hb7 hz6
  have hy7 : w.heap.size < w7.heap.size := by omega
  obtain ⟨q0, q1, q2, q3, q4, qf⟩ := hB7.cells5
  unfold sv
  go_wp2_with fail
  exact end_cell Tryz.results36 rfl ((Bk.set5 hB7 _ _ _ _ _).alloc _) Tryz.underlying27 rfl info_sv rfl
    ⟨rfl, (Below.set5 hd7 (Nat.le_refl _) _ _ _ _ _).alloc (by simp [World.setCell]; omega) _⟩

theorem Call_NOT (v : Value) (k n d : Int) (t : ByteArray) (w : World)
    (H1 : ∀ W, Below w.heap.size w W → Calls Tryz.prog 36 #[.string ⟨#[78, 79, 84]⟩, v, v] W fun e w' => e = .returned (sv k n d t) ∧ Below W.heap.size W w') :
    Calls Tryz.prog 19 #[.string ⟨#[78, 79, 84]⟩, v] w fun e w' => e = .returned (sv k n d t) ∧ Below w.heap.size w w' := by
  have K1 := hid H1
  clear H1
  go_enter Tryz.func19, Tryz.ntmps19
  go_wp2_with fail
  refine (K1.out _ ((Below.refl _ _).alloc (Nat.le_refl _) _)).mono ?_
  rintro e w1 ⟨rfl, hb1⟩
  have hB := Bk.below (Bk.new w 27 #[.int .i64 0, .int .i64 0, .int .i64 0, .string ⟨#[]⟩, .slice none 0 0]) hb1 (by simp)
  obtain ⟨q0, q1, q2, q3, q4, qf⟩ := hB.cells5
  unfold sv
  go_wp2_with fail
  exact end_cell Tryz.results19 rfl (Bk.set5 hB _ _ _ _ _) Tryz.underlying27 rfl info_sv rfl
    ⟨rfl, Below.set5 (Below.lift ((Below.refl _ _).alloc (Nat.le_refl _) _) (by simp) hb1) (by simp) _ _ _ _ _⟩
set_option maxRecDepth 100000 in
theorem Fits_IFS (v : Value) (r : Bool) (w : World)
    (H1 : ∀ W, Below w.heap.size w W → Calls Tryz.prog 69 #[.string ⟨#[73, 70, 83]⟩, v] W fun e w' => e = .returned (.tuple #[.bool false, .bool false]) ∧ Below W.heap.size W w')
    (H2 : ∀ W, Below w.heap.size w W → Calls Tryz.prog 70 #[.string ⟨#[73, 70, 83]⟩, v] W fun e w' => e = .returned (.tuple #[.bool false, .bool false]) ∧ W = w')
    (H3 : ∀ W, Below w.heap.size w W → Calls Tryz.prog 71 #[.string ⟨#[73, 70, 83]⟩, v] W fun e w' => e = .returned (.tuple #[.bool r, .bool true]) ∧ Below W.heap.size W w') :
    Calls Tryz.prog 47 #[.string ⟨#[73, 70, 83]⟩, v] w fun e w' => e = .returned (.bool r) ∧ Below w.heap.size w w' := by
  have K1 := hid H1
  have K2 := hid H2
  have K3 := hid H3
  clear H1 H2 H3
  go_enter Tryz.func47, Tryz.ntmps47
  go_wp2_with fail
  refine (K1.out _ (Below.refl _ _)).mono ?_
  rintro e w1 ⟨rfl, hb1⟩
  go_wp2_with fail
  refine (K2.out _ hb1).mono ?_
  rintro e w2 ⟨rfl, rfl⟩
  go_wp2_with fail
  refine (K3.out _ hb1).mono ?_
  rintro e w2 ⟨rfl, hb2⟩
  go_wp2_with fail
  go_ret
  exact ⟨rfl, Below.lift hb1 hb1.size hb2⟩

set_option maxRecDepth 100000 in
theorem CallOver_no_IFS (v : Value) (w : World)
    (H1 : ∀ W, Below w.heap.size w W → Calls Tryz.prog 47 #[.string ⟨#[73, 70, 83]⟩, v] W fun e w' => e = .returned (.bool false) ∧ Below W.heap.size W w') :
    Calls Tryz.prog 36 #[.string ⟨#[73, 70, 83]⟩, v, v] w fun e w' => e = .returned (sv 6 0 0 es) ∧ Below w.heap.size w w' := by
  have K1 := hid H1
  clear H1
  go_enter Tryz.func36, Tryz.ntmps36
  go_wp2_with fail
  refine (K1.out _ ((Below.refl _ _).alloc (Nat.le_refl _) _)).mono ?_
  rintro e w1 ⟨rfl, hb1⟩
  go_wp2_with fail
  refine (doubt_any _).mono ?_
  rintro e w2 ⟨rfl, hb2⟩
  have hz1 : w.heap.size + 1 ≤ w1.heap.size := by have := hb1.size; simpa using this
  have hB := (Bk.below (Bk.new w 27 #[.int .i64 0, .int .i64 0, .int .i64 0, .string ⟨#[]⟩, .slice none 0 0]) hb1 (by simp)).below hb2 (by omega)
  obtain ⟨q0, q1, q2, q3, q4, qf⟩ := hB.cells5
  unfold sv
  go_wp2_with fail
  exact end_cell Tryz.results36 rfl (Bk.set5 hB _ _ _ _ _) Tryz.underlying27 rfl info_sv rfl
    ⟨rfl, Below.set5 (Below.lift (Below.lift ((Below.refl _ _).alloc (Nat.le_refl _) _) (by simp) hb1) (by omega) hb2) (by simp) _ _ _ _ _⟩

set_option maxRecDepth 100000 in
set_option maxHeartbeats 400000 in
theorem CallOver_IFS (v : Value) (k n d : Int) (t : ByteArray) (w : World)
    (H1 : ∀ W, Below w.heap.size w W → Calls Tryz.prog 47 #[.string ⟨#[73, 70, 83]⟩, v] W fun e w' => e = .returned (.bool true) ∧ Below W.heap.size W w')
    (H2 : ∀ W, Below w.heap.size w W → Calls Tryz.prog 53 #[.string ⟨#[73, 70, 83]⟩, v] W fun e w' => e = .returned (.tuple #[sv k n d t, .bool true]) ∧ Below W.heap.size W w') :
    Calls Tryz.prog 36 #[.string ⟨#[73, 70, 83]⟩, v, v] w fun e w' => e = .returned (sv k n d t) ∧ Below w.heap.size w w' := by
  have K1 := hid H1
  have K2 := hid H2
  clear H1 H2
  go_enter Tryz.func36, Tryz.ntmps36
  go_wp2_with fail
  refine (K1.out _ ((Below.refl _ _).alloc (Nat.le_refl _) _)).mono ?_
  rintro e w1 ⟨rfl, hb1⟩
  have hB1 := Bk.below (Bk.new w 27 #[.int .i64 0, .int .i64 0, .int .i64 0, .string ⟨#[]⟩, .slice none 0 0]) hb1 (by simp)
  have hz1 : w.heap.size + 1 ≤ w1.heap.size := by have := hb1.size; simpa using this
  have hd1 : Below w.heap.size w w1 := Below.lift ((Below.refl _ _).alloc (Nat.le_refl _) _) (by simp) hb1
  clear hb1
  go_wp2_with fail
  refine (Stat_miss_IFS v _).mono ?_
  rintro e w2 ⟨rfl, hb2⟩
  have hB2 := hB1.below hb2 (by omega)
  have hd2 := Below.lift hd1 (by omega) hb2
  have hz2 : w.heap.size + 1 ≤ w2.heap.size := by have := hb2.size; omega
  clear hB1 hd1 hb2 hz1
  unfold sv
  go_wp2_with fail
  refine (Criteria_miss_IFS v _).mono ?_
  rintro e w3 ⟨rfl, hb3⟩
  have hB3 := (hB2.alloc _).below hb3 (by simp; omega)
  have hd3 := Below.lift (hd2.alloc (by omega) _) (by simp; omega) hb3
  have hz3 : w.heap.size + 1 ≤ w3.heap.size := by have := hb3.size; simp at this; omega
  clear hB2 hd2 hb3 hz2
  unfold sv
  go_wp2_with fail
  refine (Lookup_miss_IFS v _).mono ?_
  rintro e w4 ⟨rfl, hb4⟩
  have hB4 := (hB3.alloc _).below hb4 (by simp; omega)
  have hd4 := Below.lift (hd3.alloc (by omega) _) (by simp; omega) hb4
  have hz4 : w.heap.size + 1 ≤ w4.heap.size := by have := hb4.size; simp at this; omega
  clear hB3 hd3 hb4 hz3
  unfold sv
  go_wp2_with fail
  refine (CallMath_miss_IFS v _).mono ?_
  rintro e w5 ⟨rfl, hb5⟩
  have hB5 := (hB4.alloc _).below hb5 (by simp; omega)
  have hd5 := Below.lift (hd4.alloc (by omega) _) (by simp; omega) hb5
  have hz5 : w.heap.size + 1 ≤ w5.heap.size := by have := hb5.size; simp at this; omega
  clear hB4 hd4 hb5 hz4
  unfold sv
  go_wp2_with fail
  refine (CallText_miss_IFS v _).mono ?_
  rintro e w6 ⟨rfl, hb6⟩
  have hB6 := (hB5.alloc _).below hb6 (by simp; omega)
  have hd6 := Below.lift (hd5.alloc (by omega) _) (by simp; omega) hb6
  have hz6 : w.heap.size + 1 ≤ w6.heap.size := by have := hb6.size; simp at this; omega
  clear hB5 hd5 hb6 hz5
  unfold sv
  go_wp2_with fail
  refine (K2.out _ (hd6.alloc (by omega) _)).mono ?_
  rintro e w7 ⟨rfl, hb7⟩
  have hB7 := (hB6.alloc _).below hb7 (by simp; omega)
  have hd7 := Below.lift (hd6.alloc (by omega) _) (by simp; omega) hb7
  have hz7 : w.heap.size + 1 ≤ w7.heap.size := by have := hb7.size; simp at this; omega
  clear hB6 hd6 hb7 hz6
  have hy7 : w.heap.size < w7.heap.size := by omega
  obtain ⟨q0, q1, q2, q3, q4, qf⟩ := hB7.cells5
  unfold sv
  go_wp2_with fail
  exact end_cell Tryz.results36 rfl ((Bk.set5 hB7 _ _ _ _ _).alloc _) Tryz.underlying27 rfl info_sv rfl
    ⟨rfl, (Below.set5 hd7 (Nat.le_refl _) _ _ _ _ _).alloc (by simp [World.setCell]; omega) _⟩

theorem Call_IFS (v : Value) (k n d : Int) (t : ByteArray) (w : World)
    (H1 : ∀ W, Below w.heap.size w W → Calls Tryz.prog 36 #[.string ⟨#[73, 70, 83]⟩, v, v] W fun e w' => e = .returned (sv k n d t) ∧ Below W.heap.size W w') :
    Calls Tryz.prog 19 #[.string ⟨#[73, 70, 83]⟩, v] w fun e w' => e = .returned (sv k n d t) ∧ Below w.heap.size w w' := by
  have K1 := hid H1
  clear H1
  go_enter Tryz.func19, Tryz.ntmps19
  go_wp2_with fail
  refine (K1.out _ ((Below.refl _ _).alloc (Nat.le_refl _) _)).mono ?_
  rintro e w1 ⟨rfl, hb1⟩
  have hB := Bk.below (Bk.new w 27 #[.int .i64 0, .int .i64 0, .int .i64 0, .string ⟨#[]⟩, .slice none 0 0]) hb1 (by simp)
  obtain ⟨q0, q1, q2, q3, q4, qf⟩ := hB.cells5
  unfold sv
  go_wp2_with fail
  exact end_cell Tryz.results19 rfl (Bk.set5 hB _ _ _ _ _) Tryz.underlying27 rfl info_sv rfl
    ⟨rfl, Below.set5 (Below.lift ((Below.refl _ _).alloc (Nat.le_refl _) _) (by simp) hb1) (by simp) _ _ _ _ _⟩
end Go.Proofs.YtjnlghokhlmjlaaGreatDoor
