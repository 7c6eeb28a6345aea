import Derived.Test.YtjnlghokhlmjlaaGreatDoorSpec
namespace Go.Proofs.YtjnlghokhlmjlaaGreatDoor
open Go.RowKit
attribute [local go_sem] run_store_float

set_option maxRecDepth 100000 in
theorem Stat_miss_NOT (v : Value) (w : World) : Calls Tryz.prog 48 #[.string ⟨#[78, 79, 84]⟩, v] w fun e w' => e = .returned (.tuple #[sv 0 0 0 es, .bool false]) ∧ Below w.heap.size w w' := by
  go_enter Tryz.func48, Tryz.ntmps48
  go_wp2_with fail
  exact end_cell_tmp Tryz.results48 rfl (Bk.new _ _ _) Tryz.underlying27 rfl info_sv rfl ⟨rfl, (Below.refl _ _).alloc (Nat.le_refl _) _⟩
set_option maxRecDepth 100000 in
theorem Stat_miss_IFS (v : Value) (w : World) : Calls Tryz.prog 48 #[.string ⟨#[73, 70, 83]⟩, v] w fun e w' => e = .returned (.tuple #[sv 0 0 0 es, .bool false]) ∧ Below w.heap.size w w' := by
  go_enter Tryz.func48, Tryz.ntmps48
  go_wp2_with fail
  exact end_cell_tmp Tryz.results48 rfl (Bk.new _ _ _) Tryz.underlying27 rfl info_sv rfl ⟨rfl, (Below.refl _ _).alloc (Nat.le_refl _) _⟩
set_option maxRecDepth 100000 in
theorem Stat_miss_ISNUMBER (v : Value) (w : World) : Calls Tryz.prog 48 #[.string ⟨#[73, 83, 78, 85, 77, 66, 69, 82]⟩, v] w fun e w' => e = .returned (.tuple #[sv 0 0 0 es, .bool false]) ∧ Below w.heap.size w w' := by
  go_enter Tryz.func48, Tryz.ntmps48
  go_wp2_with fail
  exact end_cell_tmp Tryz.results48 rfl (Bk.new _ _ _) Tryz.underlying27 rfl info_sv rfl ⟨rfl, (Below.refl _ _).alloc (Nat.le_refl _) _⟩
set_option maxRecDepth 100000 in
theorem Criteria_miss_NOT (v : Value) (w : World) : Calls Tryz.prog 49 #[.string ⟨#[78, 79, 84]⟩, v] w fun e w' => e = .returned (.tuple #[sv 0 0 0 es, .bool false]) ∧ Below w.heap.size w w' := by
  go_enter Tryz.func49, Tryz.ntmps49
  go_wp2_with fail
  exact end_cell_tmp Tryz.results49 rfl (Bk.new _ _ _) Tryz.underlying27 rfl info_sv rfl ⟨rfl, (Below.refl _ _).alloc (Nat.le_refl _) _⟩
set_option maxRecDepth 100000 in
theorem Criteria_miss_IFS (v : Value) (w : World) : Calls Tryz.prog 49 #[.string ⟨#[73, 70, 83]⟩, v] w fun e w' => e = .returned (.tuple #[sv 0 0 0 es, .bool false]) ∧ Below w.heap.size w w' := by
  go_enter Tryz.func49, Tryz.ntmps49
  go_wp2_with fail
  exact end_cell_tmp Tryz.results49 rfl (Bk.new _ _ _) Tryz.underlying27 rfl info_sv rfl ⟨rfl, (Below.refl _ _).alloc (Nat.le_refl _) _⟩
set_option maxRecDepth 100000 in
theorem Criteria_miss_ISNUMBER (v : Value) (w : World) : Calls Tryz.prog 49 #[.string ⟨#[73, 83, 78, 85, 77, 66, 69, 82]⟩, v] w fun e w' => e = .returned (.tuple #[sv 0 0 0 es, .bool false]) ∧ Below w.heap.size w w' := by
  go_enter Tryz.func49, Tryz.ntmps49
  go_wp2_with fail
  exact end_cell_tmp Tryz.results49 rfl (Bk.new _ _ _) Tryz.underlying27 rfl info_sv rfl ⟨rfl, (Below.refl _ _).alloc (Nat.le_refl _) _⟩
set_option maxRecDepth 100000 in
theorem Lookup_miss_NOT (v : Value) (w : World) : Calls Tryz.prog 50 #[.string ⟨#[78, 79, 84]⟩, v] w fun e w' => e = .returned (.tuple #[sv 0 0 0 es, .bool false]) ∧ Below w.heap.size w w' := by
  go_enter Tryz.func50, Tryz.ntmps50
  go_wp2_with fail
  exact end_cell_tmp Tryz.results50 rfl (Bk.new _ _ _) Tryz.underlying27 rfl info_sv rfl ⟨rfl, (Below.refl _ _).alloc (Nat.le_refl _) _⟩
set_option maxRecDepth 100000 in
theorem Lookup_miss_IFS (v : Value) (w : World) : Calls Tryz.prog 50 #[.string ⟨#[73, 70, 83]⟩, v] w fun e w' => e = .returned (.tuple #[sv 0 0 0 es, .bool false]) ∧ Below w.heap.size w w' := by
  go_enter Tryz.func50, Tryz.ntmps50
  go_wp2_with fail
  exact end_cell_tmp Tryz.results50 rfl (Bk.new _ _ _) Tryz.underlying27 rfl info_sv rfl ⟨rfl, (Below.refl _ _).alloc (Nat.le_refl _) _⟩
set_option maxRecDepth 100000 in
theorem Lookup_miss_ISNUMBER (v : Value) (w : World) : Calls Tryz.prog 50 #[.string ⟨#[73, 83, 78, 85, 77, 66, 69, 82]⟩, v] w fun e w' => e = .returned (.tuple #[sv 0 0 0 es, .bool false]) ∧ Below w.heap.size w w' := by
  go_enter Tryz.func50, Tryz.ntmps50
  go_wp2_with fail
  exact end_cell_tmp Tryz.results50 rfl (Bk.new _ _ _) Tryz.underlying27 rfl info_sv rfl ⟨rfl, (Below.refl _ _).alloc (Nat.le_refl _) _⟩
set_option maxRecDepth 100000 in
theorem CallMath_miss_NOT (v : Value) (w : World) : Calls Tryz.prog 51 #[.string ⟨#[78, 79, 84]⟩, v] w fun e w' => e = .returned (.tuple #[sv 0 0 0 es, .bool false]) ∧ Below w.heap.size w w' := by
  go_enter Tryz.func51, Tryz.ntmps51
  go_wp2_with fail
  exact end_cell_tmp Tryz.results51 rfl (Bk.new _ _ _) Tryz.underlying27 rfl info_sv rfl ⟨rfl, (Below.refl _ _).alloc (Nat.le_refl _) _⟩
set_option maxRecDepth 100000 in
theorem CallMath_miss_IFS (v : Value) (w : World) : Calls Tryz.prog 51 #[.string ⟨#[73, 70, 83]⟩, v] w fun e w' => e = .returned (.tuple #[sv 0 0 0 es, .bool false]) ∧ Below w.heap.size w w' := by
  go_enter Tryz.func51, Tryz.ntmps51
  go_wp2_with fail
  exact end_cell_tmp Tryz.results51 rfl (Bk.new _ _ _) Tryz.underlying27 rfl info_sv rfl ⟨rfl, (Below.refl _ _).alloc (Nat.le_refl _) _⟩
set_option maxRecDepth 100000 in
theorem CallMath_miss_ISNUMBER (v : Value) (w : World) : Calls Tryz.prog 51 #[.string ⟨#[73, 83, 78, 85, 77, 66, 69, 82]⟩, v] w fun e w' => e = .returned (.tuple #[sv 0 0 0 es, .bool false]) ∧ Below w.heap.size w w' := by
  go_enter Tryz.func51, Tryz.ntmps51
  go_wp2_with fail
  exact end_cell_tmp Tryz.results51 rfl (Bk.new _ _ _) Tryz.underlying27 rfl info_sv rfl ⟨rfl, (Below.refl _ _).alloc (Nat.le_refl _) _⟩
set_option maxRecDepth 100000 in
theorem CallText_miss_NOT (v : Value) (w : World) : Calls Tryz.prog 52 #[.string ⟨#[78, 79, 84]⟩, v] w fun e w' => e = .returned (.tuple #[sv 0 0 0 es, .bool false]) ∧ Below w.heap.size w w' := by
  go_enter Tryz.func52, Tryz.ntmps52
  go_wp2_with fail
  exact end_cell_tmp Tryz.results52 rfl (Bk.new _ _ _) Tryz.underlying27 rfl info_sv rfl ⟨rfl, (Below.refl _ _).alloc (Nat.le_refl _) _⟩
set_option maxRecDepth 100000 in
theorem CallText_miss_IFS (v : Value) (w : World) : Calls Tryz.prog 52 #[.string ⟨#[73, 70, 83]⟩, v] w fun e w' => e = .returned (.tuple #[sv 0 0 0 es, .bool false]) ∧ Below w.heap.size w w' := by
  go_enter Tryz.func52, Tryz.ntmps52
  go_wp2_with fail
  exact end_cell_tmp Tryz.results52 rfl (Bk.new _ _ _) Tryz.underlying27 rfl info_sv rfl ⟨rfl, (Below.refl _ _).alloc (Nat.le_refl _) _⟩
set_option maxRecDepth 100000 in
theorem CallText_miss_ISNUMBER (v : Value) (w : World) : Calls Tryz.prog 52 #[.string ⟨#[73, 83, 78, 85, 77, 66, 69, 82]⟩, v] w fun e w' => e = .returned (.tuple #[sv 0 0 0 es, .bool false]) ∧ Below w.heap.size w w' := by
  go_enter Tryz.func52, Tryz.ntmps52
  go_wp2_with fail
  exact end_cell_tmp Tryz.results52 rfl (Bk.new _ _ _) Tryz.underlying27 rfl info_sv rfl ⟨rfl, (Below.refl _ _).alloc (Nat.le_refl _) _⟩
set_option maxRecDepth 100000 in
theorem CallLogic_miss_ISNUMBER (v : Value) (w : World) : Calls Tryz.prog 53 #[.string ⟨#[73, 83, 78, 85, 77, 66, 69, 82]⟩, v] w fun e w' => e = .returned (.tuple #[sv 0 0 0 es, .bool false]) ∧ Below w.heap.size w w' := by
  go_enter Tryz.func53, Tryz.ntmps53
  go_wp2_with fail
  exact end_cell_tmp Tryz.results53 rfl (Bk.new _ _ _) Tryz.underlying27 rfl info_sv rfl ⟨rfl, (Below.refl _ _).alloc (Nat.le_refl _) _⟩
set_option maxRecDepth 100000 in
theorem fitsTexts_miss_NOT (A : Option Addr) (n c : Nat) (w : World) : Calls Tryz.prog 70 #[.string ⟨#[78, 79, 84]⟩, .slice A n c] w fun e w' => e = .returned (.tuple #[.bool false, .bool false]) ∧ w = w' := by
  go_enter Tryz.func70, Tryz.ntmps70
  go_wp2_with fail
  go_ret2
  exact ⟨rfl, rfl⟩
set_option maxRecDepth 100000 in
theorem fitsTexts_miss_IFS (A : Option Addr) (n c : Nat) (w : World) : Calls Tryz.prog 70 #[.string ⟨#[73, 70, 83]⟩, .slice A n c] w fun e w' => e = .returned (.tuple #[.bool false, .bool false]) ∧ w = w' := by
  go_enter Tryz.func70, Tryz.ntmps70
  go_wp2_with fail
  go_ret2
  exact ⟨rfl, rfl⟩
set_option maxRecDepth 100000 in
theorem fitsTexts_miss_ISNUMBER (A : Option Addr) (n c : Nat) (w : World) : Calls Tryz.prog 70 #[.string ⟨#[73, 83, 78, 85, 77, 66, 69, 82]⟩, .slice A n c] w fun e w' => e = .returned (.tuple #[.bool false, .bool false]) ∧ w = w' := by
  go_enter Tryz.func70, Tryz.ntmps70
  go_wp2_with fail
  go_ret2
  exact ⟨rfl, rfl⟩
end Go.Proofs.YtjnlghokhlmjlaaGreatDoor
