import Derived.Test.YtjnlghokhlmjlaaGreatDoorFitsNot
namespace Go.Proofs.YtjnlghokhlmjlaaGreatDoor
open Go.RowKit
attribute [local go_sem] run_store_float

set_option maxRecDepth 100000 in
theorem Fits_ISNUMBER (v : Value) (r : Bool) (w : World)
    (H1 : ∀ W, Below w.heap.size w W → Calls Tryz.prog 69 #[.string ⟨#[73, 83, 78, 85, 77, 66, 69, 82]⟩, v] W fun e w' => e = .returned (.tuple #[.bool false, .bool false]) ∧ Below W.heap.size W w')
    (H2 : ∀ W, Below w.heap.size w W → Calls Tryz.prog 70 #[.string ⟨#[73, 83, 78, 85, 77, 66, 69, 82]⟩, v] W fun e w' => e = .returned (.tuple #[.bool false, .bool false]) ∧ W = w')
    (H3 : ∀ W, Below w.heap.size w W → Calls Tryz.prog 71 #[.string ⟨#[73, 83, 78, 85, 77, 66, 69, 82]⟩, v] W fun e w' => e = .returned (.tuple #[.bool r, .bool true]) ∧ Below W.heap.size W w') :
    Calls Tryz.prog 47 #[.string ⟨#[73, 83, 78, 85, 77, 66, 69, 82]⟩, v] w fun e w' => e = .returned (.bool r) ∧ Below w.heap.size w w' := by
  have K1 := hid H1
  have K2 := hid H2
  have K3 := hid H3
  clear H1 H2 H3
  go_enter Tryz.func47, Tryz.ntmps47
  go_wp2_with fail
  refine (K1.out _ (Below.refl _ _)).mono ?_
  rintro e w1 ⟨rfl, hb1⟩
  go_wp2_with fail
  refine (K2.out _ hb1).mono ?_
  rintro e w2 ⟨rfl, rfl⟩
  go_wp2_with fail
  refine (K3.out _ hb1).mono ?_
  rintro e w2 ⟨rfl, hb2⟩
  go_wp2_with fail
  go_ret
  exact ⟨rfl, Below.lift hb1 hb1.size hb2⟩

set_option maxRecDepth 100000 in
theorem CallOver_no_ISNUMBER (v : Value) (w : World)
    (H1 : ∀ W, Below w.heap.size w W → Calls Tryz.prog 47 #[.string ⟨#[73, 83, 78, 85, 77, 66, 69, 82]⟩, v] W fun e w' => e = .returned (.bool false) ∧ Below W.heap.size W w') :
    Calls Tryz.prog 36 #[.string ⟨#[73, 83, 78, 85, 77, 66, 69, 82]⟩, v, v] w fun e w' => e = .returned (sv 6 0 0 es) ∧ Below w.heap.size w w' := by
  have K1 := hid H1
  clear H1
  go_enter Tryz.func36, Tryz.ntmps36
  go_wp2_with fail
  refine (K1.out _ ((Below.refl _ _).alloc (Nat.le_refl _) _)).mono ?_
  rintro e w1 ⟨rfl, hb1⟩
  go_wp2_with fail
  refine (doubt_any _).mono ?_
  rintro e w2 ⟨rfl, hb2⟩
  have hz1 : w.heap.size + 1 ≤ w1.heap.size := by have := hb1.size; simpa using this
  have hB := (Bk.below (Bk.new w 27 #[.int .i64 0, .int .i64 0, .int .i64 0, .string ⟨#[]⟩, .slice none 0 0]) hb1 (by simp)).below hb2 (by omega)
  obtain ⟨q0, q1, q2, q3, q4, qf⟩ := hB.cells5
  unfold sv
  go_wp2_with fail
  exact end_cell Tryz.results36 rfl (Bk.set5 hB _ _ _ _ _) Tryz.underlying27 rfl info_sv rfl
    ⟨rfl, Below.set5 (Below.lift (Below.lift ((Below.refl _ _).alloc (Nat.le_refl _) _) (by simp) hb1) (by omega) hb2) (by simp) _ _ _ _ _⟩

set_option maxRecDepth 100000 in
set_option maxHeartbeats 1000000 in
theorem CallOver_ISNUMBER (v : Value) (k n d : Int) (t : ByteArray) (w : World)
    (H1 : ∀ W, Below w.heap.size w W → Calls Tryz.prog 47 #[.string ⟨#[73, 83, 78, 85, 77, 66, 69, 82]⟩, v] W fun e w' => e = .returned (.bool true) ∧ Below W.heap.size W w')
    (H2 : ∀ W, Below w.heap.size w W → Calls Tryz.prog 54 #[.string ⟨#[73, 83, 78, 85, 77, 66, 69, 82]⟩, v] W fun e w' => e = .returned (.tuple #[sv k n d t, .bool true]) ∧ Below W.heap.size W w') :
    Calls Tryz.prog 36 #[.string ⟨#[73, 83, 78, 85, 77, 66, 69, 82]⟩, v, v] w fun e w' => e = .returned (sv k n d t) ∧ Below w.heap.size w w' := by
  have K1 := hid H1
  have K2 := hid H2
  clear H1 H2
  go_enter Tryz.func36, Tryz.ntmps36
  go_wp2_with fail
  refine (K1.out _ ((Below.refl _ _).alloc (Nat.le_refl _) _)).mono ?_
  rintro e w1 ⟨rfl, hb1⟩
  have hB1 := Bk.below (Bk.new w 27 #[.int .i64 0, .int .i64 0, .int .i64 0, .string ⟨#[]⟩, .slice none 0 0]) hb1 (by simp)
  have hz1 : w.heap.size + 1 ≤ w1.heap.size := by have := hb1.size; simpa using this
  have hd1 : Below w.heap.size w w1 := Below.lift ((Below.refl _ _).alloc (Nat.le_refl _) _) (by simp) hb1
  clear hb1
  go_wp2_with fail
  refine (Stat_miss_ISNUMBER v _).mono ?_
  rintro e w2 ⟨rfl, hb2⟩
  have hB2 := hB1.below hb2 (by omega)
  have hd2 := Below.lift hd1 (by omega) hb2
  have hz2 : w.heap.size + 1 ≤ w2.heap.size := by have := hb2.size; omega
  clear hB1 hd1 hb2 hz1
  unfold sv
  go_wp2_with fail
  refine (Criteria_miss_ISNUMBER v _).mono ?_
  rintro e w3 ⟨rfl, hb3⟩
  have hB3 := (hB2.alloc _).below hb3 (by simp; omega)
  have hd3 := Below.lift (hd2.alloc (by omega) _) (by simp; omega) hb3
  have hz3 : w.heap.size + 1 ≤ w3.heap.size := by have := hb3.size; simp at this; omega
  clear hB2 hd2 hb3 hz2
  unfold sv
  go_wp2_with fail
  refine (Lookup_miss_ISNUMBER v _).mono ?_
  rintro e w4 ⟨rfl, hb4⟩
  have hB4 := (hB3.alloc _).below hb4 (by simp; omega)
  have hd4 := Below.lift (hd3.alloc (by omega) _) (by simp; omega) hb4
  have hz4 : w.heap.size + 1 ≤ w4.heap.size := by have := hb4.size; simp at this; omega
  clear hB3 hd3 hb4 hz3
  unfold sv
  go_wp2_with fail
  refine (CallMath_miss_ISNUMBER v _).mono ?_
  rintro e w5 ⟨rfl, hb5⟩
  have hB5 := (hB4.alloc _).below hb5 (by simp; omega)
  have hd5 := Below.lift (hd4.alloc (by omega) _) (by simp; omega) hb5
  have hz5 : w.heap.size + 1 ≤ w5.heap.size := by have := hb5.size; simp at this; omega
  clear hB4 hd4 hb5 hz4
  unfold sv
  go_wp2_with fail
  refine (CallText_miss_ISNUMBER v _).mono ?_
  rintro e w6 ⟨rfl, hb6⟩
  have hB6 := (hB5.alloc _).below hb6 (by simp; omega)
  have hd6 := Below.lift (hd5.alloc (by omega) _) (by simp; omega) hb6
  have hz6 : w.heap.size + 1 ≤ w6.heap.size := by have := hb6.size; simp at this; omega
  clear hB5 hd5 hb6 hz5
  unfold sv
  go_wp2_with fail
  refine (CallLogic_miss_ISNUMBER v _).mono ?_
  rintro e w7 ⟨rfl, hb7⟩
  have hB7 := (hB6.alloc _).below hb7 (by simp; omega)
  have hd7 := Below.lift (hd6.alloc (by omega) _) (by simp; omega) hb7
  have hz7 : w.heap.size + 1 ≤ w7.heap.size := by have := hb7.size; simp at this; omega
  clear hB6 hd6 hb7 hz6
  unfold sv
  go_wp2_with fail
  refine (K2.out _ (hd7.alloc (by omega) _)).mono ?_
  rintro e w8 ⟨rfl, hb8⟩
  have hB8 := (hB7.alloc _).below hb8 (by simp; omega)
  have hd8 := Below.lift (hd7.alloc (by omega) _) (by simp; omega) hb8
  have hz8 : w.heap.size + 1 ≤ w8.heap.size := by have := hb8.size; simp at this; omega
  clear hB7 hd7 hb8 hz7
  have hy8 : w.heap.size < w8.heap.size := by omega
  obtain ⟨q0, q1, q2, q3, q4, qf⟩ := hB8.cells5
  unfold sv
  go_wp2_with fail
  exact end_cell Tryz.results36 rfl ((Bk.set5 hB8 _ _ _ _ _).alloc _) Tryz.underlying27 rfl info_sv rfl
    ⟨rfl, (Below.set5 hd8 (Nat.le_refl _) _ _ _ _ _).alloc (by simp [World.setCell]; omega) _⟩

theorem Call_ISNUMBER (v : Value) (k n d : Int) (t : ByteArray) (w : World)
    (H1 : ∀ W, Below w.heap.size w W → Calls Tryz.prog 36 #[.string ⟨#[73, 83, 78, 85, 77, 66, 69, 82]⟩, v, v] W fun e w' => e = .returned (sv k n d t) ∧ Below W.heap.size W w') :
    Calls Tryz.prog 19 #[.string ⟨#[73, 83, 78, 85, 77, 66, 69, 82]⟩, v] w fun e w' => e = .returned (sv k n d t) ∧ Below w.heap.size w w' := by
  have K1 := hid H1
  clear H1
  go_enter Tryz.func19, Tryz.ntmps19
  go_wp2_with fail
  refine (K1.out _ ((Below.refl _ _).alloc (Nat.le_refl _) _)).mono ?_
  rintro e w1 ⟨rfl, hb1⟩
  have hB := Bk.below (Bk.new w 27 #[.int .i64 0, .int .i64 0, .int .i64 0, .string ⟨#[]⟩, .slice none 0 0]) hb1 (by simp)
  obtain ⟨q0, q1, q2, q3, q4, qf⟩ := hB.cells5
  unfold sv
  go_wp2_with fail
  exact end_cell Tryz.results19 rfl (Bk.set5 hB _ _ _ _ _) Tryz.underlying27 rfl info_sv rfl
    ⟨rfl, Below.set5 (Below.lift ((Below.refl _ _).alloc (Nat.le_refl _) _) (by simp) hb1) (by simp) _ _ _ _ _⟩

/-- every, of one value -/
theorem every_one (a : SV) (v : Value) (w : World) (h : Sl w w.heap.size 5 v 1 ([a].flatMap svCells))
    (hf : ∀ W, Calls Tryz.prog 152 #[svV a] W fun e w' => (∃ b : Bool, e = .returned (.bool b)) ∧ Below W.heap.size W w') :
    Calls Tryz.prog 151 #[v, .func (.func 152) #[] #[]] w fun e w' => (∃ b : Bool, e = .returned (.bool b)) ∧ Below w.heap.size w w' := by
  obtain ⟨A, c, rfl, _, hc⟩ := h
  obtain ⟨b, o, rfl, hbB, hcell⟩ := hc (by omega)
  have HF := hid hf
  have HC := hid hcell
  clear hf hcell hc
  go_enter Tryz.func151, Tryz.ntmps151
  go_wp2_with fail
  go_loopw [5] (fun i wr => (i = .int .i64 0 ∨ i = .int .i64 1) ∧ Below w.heap.size w wr) (fun i _ => 1 - (intOf i).toNat)
  case atStart => exact ⟨.inl rfl, Below.refl _ _⟩
  case round =>
    obtain ⟨hi, hb⟩ := hrel
    rcases hi with rfl | rfl
    · have g0 : wr.cell? ⟨b, o, none⟩ = some (.int .i64 a.1) := (hb.cell (p := ⟨b, o, none⟩) hbB).trans (HC.out 0 _ rfl)
      have g1 : wr.cell? ⟨b, o + 1, none⟩ = some (.int .i64 a.2.1) := (hb.cell (p := ⟨b, o + 1, none⟩) hbB).trans (HC.out 1 _ rfl)
      have g2 : wr.cell? ⟨b, o + 2, none⟩ = some (.int .i64 a.2.2.1) := (hb.cell (p := ⟨b, o + 2, none⟩) hbB).trans (HC.out 2 _ rfl)
      have g3 : wr.cell? ⟨b, o + 3, none⟩ = some (.string a.2.2.2) := (hb.cell (p := ⟨b, o + 3, none⟩) hbB).trans (HC.out 3 _ rfl)
      have g4 : wr.cell? ⟨b, o + 4, none⟩ = some (.slice none 0 0) := (hb.cell (p := ⟨b, o + 4, none⟩) hbB).trans (HC.out 4 _ rfl)
      go_wp2_with fail
      refine (HF.out _).mono ?_
      rintro e w2 ⟨⟨p, rfl⟩, hb2⟩
      have hb3 : Below w.heap.size w w2 := Below.lift hb hb.size hb2
      clear hb hb2 g0 g1 g2 g3 g4
      cases p
      · go_wp2_with fail
        go_ret
        exact ⟨⟨_, rfl⟩, hb3⟩
      · go_wp2_with fail
        go_roundw
        case rel => exact ⟨.inr rfl, hb3⟩
        case measure => simp [intOf]
    · go_wp2_with fail
      go_ret
      exact ⟨⟨_, rfl⟩, hb⟩

set_option maxRecDepth 100000 in
theorem fitsNumbers_one (a : SV) (A : Option Addr) (c : Nat) (w : World) (h : Sl w w.heap.size 5 (.slice A 1 c) 1 ([a].flatMap svCells))
    (hf : ∀ W, Calls Tryz.prog 152 #[svV a] W fun e w' => (∃ b : Bool, e = .returned (.bool b)) ∧ Below W.heap.size W w') :
    Calls Tryz.prog 69 #[.string ⟨#[73, 83, 78, 85, 77, 66, 69, 82]⟩, .slice A 1 c] w fun e w' => e = .returned (.tuple #[.bool false, .bool false]) ∧ Below w.heap.size w w' := by
  have HV := hid h
  have HF := hid hf
  clear h hf
  go_enter Tryz.func69, Tryz.ntmps69
  go_wp2_with fail
  refine (every_one a _ w HV.out HF.out).mono ?_
  rintro e w1 ⟨⟨b, rfl⟩, hb⟩
  go_wp2_with fail
  go_ret2
  exact ⟨rfl, hb⟩

theorem single_any (k n d : Int) (t : ByteArray) (h5 : (k == 5) = false) (w : World) : Calls Tryz.prog 169 #[sv k n d t] w fun e w' => e = .returned (.bool (!(k == 6))) ∧ Below w.heap.size w w' := by
  unfold sv
  have h5' : (k != 5) = true := by simpa using h5
  obtain ⟨c, hc⟩ : ∃ c, (k == 6) = c := ⟨_, rfl⟩
  have hc' : (k != 6) = !c := by rw [← hc]; rfl
  have HC := hid hc
  cases c
  all_goals
    go_enter Tryz.func169, Tryz.ntmps169
    go_wp2_with fail
    go_ret
    exact ⟨by rw [HC.out]; rfl, (Below.refl _ _).alloc (Nat.le_refl _) _⟩

set_option maxRecDepth 100000 in
theorem fitsChoices_ISNUMBER (a : SV) (h5 : (a.1 == 5) = false) (A : Option Addr) (c : Nat) (w : World) (h : Sl w w.heap.size 5 (.slice A 1 c) 1 ([a].flatMap svCells)) :
    Calls Tryz.prog 71 #[.string ⟨#[73, 83, 78, 85, 77, 66, 69, 82]⟩, .slice A 1 c] w fun e w' => e = .returned (.tuple #[.bool (!(a.1 == 6)), .bool true]) ∧ Below w.heap.size w w' := by
  obtain ⟨A', c', hv, _, hc⟩ := h
  simp only [Value.slice.injEq] at hv
  obtain ⟨rfl, _, rfl⟩ := hv
  obtain ⟨b, o, rfl, hb, hcell⟩ := hc (by omega)
  have g0 := hcell 0 _ rfl
  have g1 := hcell 1 _ rfl
  have g2 := hcell 2 _ rfl
  have g3 := hcell 3 _ rfl
  have g4 := hcell 4 _ rfl
  clear hcell hc
  rw [Nat.add_zero] at g0
  have HS := hid (single_any a.1 a.2.1 a.2.2.1 a.2.2.2 h5)
  clear h5
  generalize (!(a.1 == 6)) = r at *
  go_enter Tryz.func71, Tryz.ntmps71
  go_wp2_with fail
  refine (HS.out _).mono ?_
  rintro e w1 ⟨rfl, hb1⟩
  go_wp2_with fail
  go_ret2
  exact ⟨rfl, Below.lift ((Below.refl _ _).alloc (Nat.le_refl _) _) (by simp) hb1⟩
end Go.Proofs.YtjnlghokhlmjlaaGreatDoor
