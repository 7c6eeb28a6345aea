import Derived.Test.YtjnlghokhlmjlaaGreatDoorSameN
import Derived.Test.YtjnlghokhlmjlaaGreatDoorImpl
import Derived.Deep.RegionHeld3
namespace Go.Proofs.YtjnlghokhlmjlaaGreatDoor
open Go.RowKit
attribute [local go_sem] run_store_float

set_option maxRecDepth 100000 in
/-- agrees, where the reference says nothing of the arguments, or of the answer -/
theorem agrees_no_IFS (l : List SV) (want : SV) (A : Option Addr) (c : Nat) (w : World)
    (h : Sl w w.heap.size 5 (.slice A l.length c) l.length (l.flatMap svCells)) (hok : ∀ a ∈ l, a.1 ≠ 5) (hlen : l.length ≤ 1000) (hw5 : want.1 ≠ 5)
    (hC : ∀ W, Below w.heap.size w W → Calls Tryz.prog 19 #[.string ⟨#[73, 70, 83]⟩, .slice A l.length c] W fun e w' => e = .returned (svV want) ∧ Below W.heap.size W w')
    (hno : l.any unsure = true ∨ unsure want = true) :
    Calls Tryz.prog 8 #[.func (.func 9) #[] #[], .string ⟨#[73, 70, 83]⟩, .slice A l.length c] w fun e w' => e = .returned (.bool true) ∧ Below w.heap.size w w' := by
  have HC := hid hC
  have HS := hid h
  have HO := hid hok
  have H5 := hid hw5
  clear hC h hok hw5
  go_enter Tryz.func8, Tryz.ntmps8
  go_wp2_with fail
  refine (HC.out _ (Below.refl _ _)).mono ?_
  rintro e w1 ⟨rfl, hb1⟩
  unfold svV sv
  go_wp2_with fail
  refine (Table_any _ _ _ _ rfl _).mono ?_
  rintro e w2 ⟨rfl, hb2⟩
  have hBv := Bk.new w1 27 #[.int .i64 want.1, .int .i64 want.2.1, .int .i64 want.2.2.1, .string want.2.2.2, .slice none 0 0]
  have hBr := Bk.new (w1.alloc (.cells #[.int .i64 want.1, .int .i64 want.2.1, .int .i64 want.2.2.1, .string want.2.2.2, .slice none 0 0] 27)) 24 #[.slice A l.length c]
  have hBv2 := (hBv.alloc (.cells #[.slice A l.length c] 24)).below hb2 (by simp; omega)
  have hBr2 := hBr.below hb2 (by simp)
  rw [show (w1.alloc (.cells #[.int .i64 want.1, .int .i64 want.2.1, .int .i64 want.2.2.1, .string want.2.2.2, .slice none 0 0] 27)).heap.size = w1.heap.size + 1 by simp] at hBr2
  have hz2 : w1.heap.size + 2 ≤ w2.heap.size := by have := hb2.size; simpa using this
  have hd2 : Below w.heap.size w w2 := Below.lift (((hb1).alloc hb1.size _).alloc (by have := hb1.size; simp; omega) _) (by have := hb1.size; simp; omega) hb2
  clear hb1 hb2 hBv hBr
  go_wp2_with fail
  have HBv := hid hBv2
  have HBr := hid hBr2
  clear hBv2 hBr2
  refine (doubtful_table l (w1.heap.size + 1) 0 _ A c w2 (by omega) (HBr.out.cell 0) ((HS.out.keep hd2).more hd2.size) HO.out hlen).mono ?_
  rintro e w3 ⟨rfl, hb3⟩
  have hBv3 := HBv.out.below hb3 (by omega)
  have hd3 := Below.lift hd2 hd2.size hb3
  clear hd2 hb3 HBv HBr
  obtain ⟨q0, q1, q2, q3, q4, _⟩ := hBv3.cells5
  clear hBv3
  cases hu : l.any unsure
  · have hw : unsure want = true := by rcases hno with h | h; · rw [hu] at h; cases h
                                       · exact h
    have Hw := hid hw
    clear hw hno hu
    go_wp2_with fail
    refine (doubtful_flat want _ H5.out).mono ?_
    rintro e w4 ⟨rfl, hb4⟩
    have hx : ([want].any unsure) = true := by simp [Hw.out]
    rw [hx]
    clear hx
    go_wp2_with fail
    go_ret
    exact ⟨rfl, Below.lift hd3 hd3.size hb4⟩
  · clear hno hu
    go_wp2_with fail
    go_ret
    exact ⟨rfl, hd3⟩

set_option maxRecDepth 100000 in
set_option maxHeartbeats 1000000 in
/-- agrees, where the reference is sure, and the program says the same -/
theorem agrees_yes_IFS (l : List SV) (want : SV) (A : Option Addr) (c : Nat) (w : World)
    (h : Sl w w.heap.size 5 (.slice A l.length c) l.length (l.flatMap svCells)) (hok : ∀ a ∈ l, svOk a) (hlen : l.length ≤ 1000) (hw : svOk want) (hfw : fin (fnum want))
    (hC : ∀ W, Below w.heap.size w W → Calls Tryz.prog 19 #[.string ⟨#[73, 70, 83]⟩, .slice A l.length c] W fun e w' => e = .returned (svV want) ∧ Below W.heap.size W w')
    (hF : ∀ W v', Sl W W.heap.size 4 v' (l.map avOf).length ((l.map avOf).flatMap avCells) → Calls Tryz.prog 9 #[v'] W fun e w' => e = .returned (iv want.1 (fnum want) want.2.2.2) ∧ Below W.heap.size W w')
    (hs1 : l.any unsure = false) (hs2 : unsure want = false) :
    Calls Tryz.prog 8 #[.func (.func 9) #[] #[], .string ⟨#[73, 70, 83]⟩, .slice A l.length c] w fun e w' => e = .returned (.bool true) ∧ Below w.heap.size w w' := by
  have HC := hid hC
  have HF := hid hF
  have HS := hid h
  have HO := hid hok
  have HW := hid hw
  have HFW := hid hfw
  have HS1 := hid hs1
  have HS2 := hid hs2
  clear hC h hok hw hfw hF hs1 hs2
  go_enter Tryz.func8, Tryz.ntmps8
  go_wp2_with fail
  refine (HC.out _ (Below.refl _ _)).mono ?_
  rintro e w1 ⟨rfl, hb1⟩
  unfold svV sv
  go_wp2_with fail
  refine (Table_any _ _ _ _ rfl _).mono ?_
  rintro e w2 ⟨rfl, hb2⟩
  have hBv := Bk.new w1 27 #[.int .i64 want.1, .int .i64 want.2.1, .int .i64 want.2.2.1, .string want.2.2.2, .slice none 0 0]
  have hBr := Bk.new (w1.alloc (.cells #[.int .i64 want.1, .int .i64 want.2.1, .int .i64 want.2.2.1, .string want.2.2.2, .slice none 0 0] 27)) 24 #[.slice A l.length c]
  have hBv2 := (hBv.alloc (.cells #[.slice A l.length c] 24)).below hb2 (by simp; omega)
  have hBr2 := hBr.below hb2 (by simp)
  rw [show (w1.alloc (.cells #[.int .i64 want.1, .int .i64 want.2.1, .int .i64 want.2.2.1, .string want.2.2.2, .slice none 0 0] 27)).heap.size = w1.heap.size + 1 by simp] at hBr2
  have hz2 : w1.heap.size + 2 ≤ w2.heap.size := by have := hb2.size; simpa using this
  have hd2 : Below w.heap.size w w2 := Below.lift (((hb1).alloc hb1.size _).alloc (by have := hb1.size; simp; omega) _) (by have := hb1.size; simp; omega) hb2
  clear hb1 hb2 hBv hBr
  go_wp2_with fail
  have HBv := hid hBv2
  have HBr := hid hBr2
  clear hBv2 hBr2
  refine (doubtful_table l (w1.heap.size + 1) 0 _ A c w2 (by omega) (HBr.out.cell 0) ((HS.out.keep hd2).more hd2.size) (fun a ha => (HO.out a ha).2) hlen).mono ?_
  rintro e w3 ⟨rfl, hb3⟩
  have hBv3 := HBv.out.below hb3 (by omega)
  have hd3 := Below.lift hd2 hd2.size hb3
  have hz3 : w1.heap.size < w3.heap.size := by have := hb3.size; omega
  clear hd2 hb3 HBv HBr
  obtain ⟨q0, q1, q2, q3, q4, _⟩ := hBv3.cells5
  rw [HS1.out]
  go_wp2_with fail
  refine (doubtful_flat want _ HW.out.2).mono ?_
  rintro e w4 ⟨rfl, hb4⟩
  have hBv4 := hBv3.below hb4 hz3
  have hd4 := Below.lift hd3 hd3.size hb4
  have hz4 : w1.heap.size < w4.heap.size := by have := hb4.size; omega
  clear hd3 hb4 hBv3 q0 q1 q2 q3 q4 hz3
  obtain ⟨q0, q1, q2, q3, q4, _⟩ := hBv4.cells5
  rw [show ([want].any unsure) = false by simp [HS2.out]]
  go_wp2_with fail
  have hS4 : Sl w4 w4.heap.size 5 (.slice A l.length c) l.length (l.flatMap svCells) := (HS.out.keep hd4).more hd4.size
  have HS4 := hid hS4
  clear hS4
  clear hBv4
  go_region_held3 (fun w' => w'.cell? ⟨w1.heap.size, 0, none⟩ = some (.int .i64 want.1) ∧ w'.cell? ⟨w1.heap.size, 1, none⟩ = some (.int .i64 want.2.1) ∧ w'.cell? ⟨w1.heap.size, 2, none⟩ = some (.int .i64 want.2.2.1) ∧ w'.cell? ⟨w1.heap.size, 3, none⟩ = some (.string want.2.2.2) ∧ w'.cell? ⟨w1.heap.size, 4, none⟩ = some (.slice none 0 0))
    (first | exact ⟨(hk7.cell (p := ⟨w1.heap.size, 0, none⟩) hz4).trans q0, (hk7.cell (p := ⟨w1.heap.size, 1, none⟩) hz4).trans q1, (hk7.cell (p := ⟨w1.heap.size, 2, none⟩) hz4).trans q2, (hk7.cell (p := ⟨w1.heap.size, 3, none⟩) hz4).trans q3, (hk7.cell (p := ⟨w1.heap.size, 4, none⟩) hz4).trans q4⟩ | exact ⟨(hk6.cell (p := ⟨w1.heap.size, 0, none⟩) hz4).trans q0, (hk6.cell (p := ⟨w1.heap.size, 1, none⟩) hz4).trans q1, (hk6.cell (p := ⟨w1.heap.size, 2, none⟩) hz4).trans q2, (hk6.cell (p := ⟨w1.heap.size, 3, none⟩) hz4).trans q3, (hk6.cell (p := ⟨w1.heap.size, 4, none⟩) hz4).trans q4⟩ | exact ⟨(hk5.cell (p := ⟨w1.heap.size, 0, none⟩) hz4).trans q0, (hk5.cell (p := ⟨w1.heap.size, 1, none⟩) hz4).trans q1, (hk5.cell (p := ⟨w1.heap.size, 2, none⟩) hz4).trans q2, (hk5.cell (p := ⟨w1.heap.size, 3, none⟩) hz4).trans q3, (hk5.cell (p := ⟨w1.heap.size, 4, none⟩) hz4).trans q4⟩ | exact ⟨q0, q1, q2, q3, q4⟩)
    (first
      | (go_at_call 23; refine (all_any l _ w4.drew (HS4.out.keep (Below.drew (Below.refl _ _))) HO.out hlen).mono ?_; rintro e w5 ⟨v5, rfl, hS5, hb5⟩; have hk5 : Below w4.heap.size w4 w5 := (Below.drew (Below.refl _ _)).trans hb5)
      | (go_at_call 9; refine (HF.out _ _ hS5).mono ?_; rintro e w6 ⟨rfl, hb6⟩; have hk6 : Below w4.heap.size w4 w6 := Below.lift hk5 hk5.size hb6)
      | (go_at_call 22; refine (same_yes want _ HW.out HFW.out).mono ?_; rintro e w7 ⟨rfl, hb7⟩; have hk7 : Below w4.heap.size w4 w7 := Below.lift hk6 hk6.size hb7))
  all_goals
    go_wp2_with fail
    go_ret
    exact ⟨rfl, hd4.trans (hk7.mono hd4.size)⟩
set_option maxRecDepth 100000 in
/-- agrees, where the reference says nothing of the arguments, or of the answer -/
theorem agrees_no_ISNUMBER (l : List SV) (want : SV) (A : Option Addr) (c : Nat) (w : World)
    (h : Sl w w.heap.size 5 (.slice A l.length c) l.length (l.flatMap svCells)) (hok : ∀ a ∈ l, a.1 ≠ 5) (hlen : l.length ≤ 1000) (hw5 : want.1 ≠ 5)
    (hC : ∀ W, Below w.heap.size w W → Calls Tryz.prog 19 #[.string ⟨#[73, 83, 78, 85, 77, 66, 69, 82]⟩, .slice A l.length c] W fun e w' => e = .returned (svV want) ∧ Below W.heap.size W w')
    (hno : l.any unsure = true ∨ unsure want = true) :
    Calls Tryz.prog 8 #[.func (.func 11) #[] #[], .string ⟨#[73, 83, 78, 85, 77, 66, 69, 82]⟩, .slice A l.length c] w fun e w' => e = .returned (.bool true) ∧ Below w.heap.size w w' := by
  have HC := hid hC
  have HS := hid h
  have HO := hid hok
  have H5 := hid hw5
  clear hC h hok hw5
  go_enter Tryz.func8, Tryz.ntmps8
  go_wp2_with fail
  refine (HC.out _ (Below.refl _ _)).mono ?_
  rintro e w1 ⟨rfl, hb1⟩
  unfold svV sv
  go_wp2_with fail
  refine (Table_any _ _ _ _ rfl _).mono ?_
  rintro e w2 ⟨rfl, hb2⟩
  have hBv := Bk.new w1 27 #[.int .i64 want.1, .int .i64 want.2.1, .int .i64 want.2.2.1, .string want.2.2.2, .slice none 0 0]
  have hBr := Bk.new (w1.alloc (.cells #[.int .i64 want.1, .int .i64 want.2.1, .int .i64 want.2.2.1, .string want.2.2.2, .slice none 0 0] 27)) 24 #[.slice A l.length c]
  have hBv2 := (hBv.alloc (.cells #[.slice A l.length c] 24)).below hb2 (by simp; omega)
  have hBr2 := hBr.below hb2 (by simp)
  rw [show (w1.alloc (.cells #[.int .i64 want.1, .int .i64 want.2.1, .int .i64 want.2.2.1, .string want.2.2.2, .slice none 0 0] 27)).heap.size = w1.heap.size + 1 by simp] at hBr2
  have hz2 : w1.heap.size + 2 ≤ w2.heap.size := by have := hb2.size; simpa using this
  have hd2 : Below w.heap.size w w2 := Below.lift (((hb1).alloc hb1.size _).alloc (by have := hb1.size; simp; omega) _) (by have := hb1.size; simp; omega) hb2
  clear hb1 hb2 hBv hBr
  go_wp2_with fail
  have HBv := hid hBv2
  have HBr := hid hBr2
  clear hBv2 hBr2
  refine (doubtful_table l (w1.heap.size + 1) 0 _ A c w2 (by omega) (HBr.out.cell 0) ((HS.out.keep hd2).more hd2.size) HO.out hlen).mono ?_
  rintro e w3 ⟨rfl, hb3⟩
  have hBv3 := HBv.out.below hb3 (by omega)
  have hd3 := Below.lift hd2 hd2.size hb3
  clear hd2 hb3 HBv HBr
  obtain ⟨q0, q1, q2, q3, q4, _⟩ := hBv3.cells5
  clear hBv3
  cases hu : l.any unsure
  · have hw : unsure want = true := by rcases hno with h | h; · rw [hu] at h; cases h
                                       · exact h
    have Hw := hid hw
    clear hw hno hu
    go_wp2_with fail
    refine (doubtful_flat want _ H5.out).mono ?_
    rintro e w4 ⟨rfl, hb4⟩
    have hx : ([want].any unsure) = true := by simp [Hw.out]
    rw [hx]
    clear hx
    go_wp2_with fail
    go_ret
    exact ⟨rfl, Below.lift hd3 hd3.size hb4⟩
  · clear hno hu
    go_wp2_with fail
    go_ret
    exact ⟨rfl, hd3⟩

set_option maxRecDepth 100000 in
set_option maxHeartbeats 1000000 in
/-- agrees, where the reference is sure, and the program says the same -/
theorem agrees_yes_ISNUMBER (l : List SV) (want : SV) (A : Option Addr) (c : Nat) (w : World)
    (h : Sl w w.heap.size 5 (.slice A l.length c) l.length (l.flatMap svCells)) (hok : ∀ a ∈ l, svOk a) (hlen : l.length ≤ 1000) (hw : svOk want) (hfw : fin (fnum want))
    (hC : ∀ W, Below w.heap.size w W → Calls Tryz.prog 19 #[.string ⟨#[73, 83, 78, 85, 77, 66, 69, 82]⟩, .slice A l.length c] W fun e w' => e = .returned (svV want) ∧ Below W.heap.size W w')
    (hF : ∀ W v', Sl W W.heap.size 4 v' (l.map avOf).length ((l.map avOf).flatMap avCells) → Calls Tryz.prog 11 #[v'] W fun e w' => e = .returned (iv want.1 (fnum want) want.2.2.2) ∧ Below W.heap.size W w')
    (hs1 : l.any unsure = false) (hs2 : unsure want = false) :
    Calls Tryz.prog 8 #[.func (.func 11) #[] #[], .string ⟨#[73, 83, 78, 85, 77, 66, 69, 82]⟩, .slice A l.length c] w fun e w' => e = .returned (.bool true) ∧ Below w.heap.size w w' := by
  have HC := hid hC
  have HF := hid hF
  have HS := hid h
  have HO := hid hok
  have HW := hid hw
  have HFW := hid hfw
  have HS1 := hid hs1
  have HS2 := hid hs2
  clear hC h hok hw hfw hF hs1 hs2
  go_enter Tryz.func8, Tryz.ntmps8
  go_wp2_with fail
  refine (HC.out _ (Below.refl _ _)).mono ?_
  rintro e w1 ⟨rfl, hb1⟩
  unfold svV sv
  go_wp2_with fail
  refine (Table_any _ _ _ _ rfl _).mono ?_
  rintro e w2 ⟨rfl, hb2⟩
  have hBv := Bk.new w1 27 #[.int .i64 want.1, .int .i64 want.2.1, .int .i64 want.2.2.1, .string want.2.2.2, .slice none 0 0]
  have hBr := Bk.new (w1.alloc (.cells #[.int .i64 want.1, .int .i64 want.2.1, .int .i64 want.2.2.1, .string want.2.2.2, .slice none 0 0] 27)) 24 #[.slice A l.length c]
  have hBv2 := (hBv.alloc (.cells #[.slice A l.length c] 24)).below hb2 (by simp; omega)
  have hBr2 := hBr.below hb2 (by simp)
  rw [show (w1.alloc (.cells #[.int .i64 want.1, .int .i64 want.2.1, .int .i64 want.2.2.1, .string want.2.2.2, .slice none 0 0] 27)).heap.size = w1.heap.size + 1 by simp] at hBr2
  have hz2 : w1.heap.size + 2 ≤ w2.heap.size := by have := hb2.size; simpa using this
  have hd2 : Below w.heap.size w w2 := Below.lift (((hb1).alloc hb1.size _).alloc (by have := hb1.size; simp; omega) _) (by have := hb1.size; simp; omega) hb2
  clear hb1 hb2 hBv hBr
  go_wp2_with fail
  have HBv := hid hBv2
  have HBr := hid hBr2
  clear hBv2 hBr2
  refine (doubtful_table l (w1.heap.size + 1) 0 _ A c w2 (by omega) (HBr.out.cell 0) ((HS.out.keep hd2).more hd2.size) (fun a ha => (HO.out a ha).2) hlen).mono ?_
  rintro e w3 ⟨rfl, hb3⟩
  have hBv3 := HBv.out.below hb3 (by omega)
  have hd3 := Below.lift hd2 hd2.size hb3
  have hz3 : w1.heap.size < w3.heap.size := by have := hb3.size; omega
  clear hd2 hb3 HBv HBr
  obtain ⟨q0, q1, q2, q3, q4, _⟩ := hBv3.cells5
  rw [HS1.out]
  go_wp2_with fail
  refine (doubtful_flat want _ HW.out.2).mono ?_
  rintro e w4 ⟨rfl, hb4⟩
  have hBv4 := hBv3.below hb4 hz3
  have hd4 := Below.lift hd3 hd3.size hb4
  have hz4 : w1.heap.size < w4.heap.size := by have := hb4.size; omega
  clear hd3 hb4 hBv3 q0 q1 q2 q3 q4 hz3
  obtain ⟨q0, q1, q2, q3, q4, _⟩ := hBv4.cells5
  rw [show ([want].any unsure) = false by simp [HS2.out]]
  go_wp2_with fail
  have hS4 : Sl w4 w4.heap.size 5 (.slice A l.length c) l.length (l.flatMap svCells) := (HS.out.keep hd4).more hd4.size
  have HS4 := hid hS4
  clear hS4
  clear hBv4
  go_region_held3 (fun w' => w'.cell? ⟨w1.heap.size, 0, none⟩ = some (.int .i64 want.1) ∧ w'.cell? ⟨w1.heap.size, 1, none⟩ = some (.int .i64 want.2.1) ∧ w'.cell? ⟨w1.heap.size, 2, none⟩ = some (.int .i64 want.2.2.1) ∧ w'.cell? ⟨w1.heap.size, 3, none⟩ = some (.string want.2.2.2) ∧ w'.cell? ⟨w1.heap.size, 4, none⟩ = some (.slice none 0 0))
    (first | exact ⟨(hk7.cell (p := ⟨w1.heap.size, 0, none⟩) hz4).trans q0, (hk7.cell (p := ⟨w1.heap.size, 1, none⟩) hz4).trans q1, (hk7.cell (p := ⟨w1.heap.size, 2, none⟩) hz4).trans q2, (hk7.cell (p := ⟨w1.heap.size, 3, none⟩) hz4).trans q3, (hk7.cell (p := ⟨w1.heap.size, 4, none⟩) hz4).trans q4⟩ | exact ⟨(hk6.cell (p := ⟨w1.heap.size, 0, none⟩) hz4).trans q0, (hk6.cell (p := ⟨w1.heap.size, 1, none⟩) hz4).trans q1, (hk6.cell (p := ⟨w1.heap.size, 2, none⟩) hz4).trans q2, (hk6.cell (p := ⟨w1.heap.size, 3, none⟩) hz4).trans q3, (hk6.cell (p := ⟨w1.heap.size, 4, none⟩) hz4).trans q4⟩ | exact ⟨(hk5.cell (p := ⟨w1.heap.size, 0, none⟩) hz4).trans q0, (hk5.cell (p := ⟨w1.heap.size, 1, none⟩) hz4).trans q1, (hk5.cell (p := ⟨w1.heap.size, 2, none⟩) hz4).trans q2, (hk5.cell (p := ⟨w1.heap.size, 3, none⟩) hz4).trans q3, (hk5.cell (p := ⟨w1.heap.size, 4, none⟩) hz4).trans q4⟩ | exact ⟨q0, q1, q2, q3, q4⟩)
    (first
      | (go_at_call 23; refine (all_any l _ w4.drew (HS4.out.keep (Below.drew (Below.refl _ _))) HO.out hlen).mono ?_; rintro e w5 ⟨v5, rfl, hS5, hb5⟩; have hk5 : Below w4.heap.size w4 w5 := (Below.drew (Below.refl _ _)).trans hb5)
      | (go_at_call 11; refine (HF.out _ _ hS5).mono ?_; rintro e w6 ⟨rfl, hb6⟩; have hk6 : Below w4.heap.size w4 w6 := Below.lift hk5 hk5.size hb6)
      | (go_at_call 22; refine (same_yes want _ HW.out HFW.out).mono ?_; rintro e w7 ⟨rfl, hb7⟩; have hk7 : Below w4.heap.size w4 w7 := Below.lift hk6 hk6.size hb7))
  all_goals
    go_wp2_with fail
    go_ret
    exact ⟨rfl, hd4.trans (hk7.mono hd4.size)⟩
end Go.Proofs.YtjnlghokhlmjlaaGreatDoor
