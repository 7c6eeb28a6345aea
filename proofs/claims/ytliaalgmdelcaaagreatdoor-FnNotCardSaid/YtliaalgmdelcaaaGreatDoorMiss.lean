import Derived.Test.YtliaalgmdelcaaaGreatDoorSpec
namespace Go.Proofs.YtliaalgmdelcaaaGreatDoor
open Go.RowKit
attribute [local go_sem] run_store_float

set_option maxRecDepth 100000 in
theorem Stat_miss_NOT (v : Value) (w : World) : Calls Tryz.prog 40 #[.string ⟨#[78, 79, 84]⟩, v] w fun e w' => e = .returned (.tuple #[sv 0 0 0 es, .bool false]) ∧ Below w.heap.size w w' := by
  go_enter Tryz.func40, Tryz.ntmps40
  go_wp2_with fail
  exact end_cell_tmp Tryz.results40 rfl (Bk.new _ _ _) Tryz.underlying27 rfl info_sv rfl ⟨rfl, (Below.refl _ _).alloc (Nat.le_refl _) _⟩
set_option maxRecDepth 100000 in
theorem Stat_miss_IFS (v : Value) (w : World) : Calls Tryz.prog 40 #[.string ⟨#[73, 70, 83]⟩, v] w fun e w' => e = .returned (.tuple #[sv 0 0 0 es, .bool false]) ∧ Below w.heap.size w w' := by
  go_enter Tryz.func40, Tryz.ntmps40
  go_wp2_with fail
  exact end_cell_tmp Tryz.results40 rfl (Bk.new _ _ _) Tryz.underlying27 rfl info_sv rfl ⟨rfl, (Below.refl _ _).alloc (Nat.le_refl _) _⟩
set_option maxRecDepth 100000 in
theorem Stat_miss_ISNUMBER (v : Value) (w : World) : Calls Tryz.prog 40 #[.string ⟨#[73, 83, 78, 85, 77, 66, 69, 82]⟩, v] w fun e w' => e = .returned (.tuple #[sv 0 0 0 es, .bool false]) ∧ Below w.heap.size w w' := by
  go_enter Tryz.func40, Tryz.ntmps40
  go_wp2_with fail
  exact end_cell_tmp Tryz.results40 rfl (Bk.new _ _ _) Tryz.underlying27 rfl info_sv rfl ⟨rfl, (Below.refl _ _).alloc (Nat.le_refl _) _⟩
set_option maxRecDepth 100000 in
theorem Criteria_miss_NOT (v : Value) (w : World) : Calls Tryz.prog 41 #[.string ⟨#[78, 79, 84]⟩, v] w fun e w' => e = .returned (.tuple #[sv 0 0 0 es, .bool false]) ∧ Below w.heap.size w w' := by
  go_enter Tryz.func41, Tryz.ntmps41
  go_wp2_with fail
  exact end_cell_tmp Tryz.results41 rfl (Bk.new _ _ _) Tryz.underlying27 rfl info_sv rfl ⟨rfl, (Below.refl _ _).alloc (Nat.le_refl _) _⟩
set_option maxRecDepth 100000 in
theorem Criteria_miss_IFS (v : Value) (w : World) : Calls Tryz.prog 41 #[.string ⟨#[73, 70, 83]⟩, v] w fun e w' => e = .returned (.tuple #[sv 0 0 0 es, .bool false]) ∧ Below w.heap.size w w' := by
  go_enter Tryz.func41, Tryz.ntmps41
  go_wp2_with fail
  exact end_cell_tmp Tryz.results41 rfl (Bk.new _ _ _) Tryz.underlying27 rfl info_sv rfl ⟨rfl, (Below.refl _ _).alloc (Nat.le_refl _) _⟩
set_option maxRecDepth 100000 in
theorem Criteria_miss_ISNUMBER (v : Value) (w : World) : Calls Tryz.prog 41 #[.string ⟨#[73, 83, 78, 85, 77, 66, 69, 82]⟩, v] w fun e w' => e = .returned (.tuple #[sv 0 0 0 es, .bool false]) ∧ Below w.heap.size w w' := by
  go_enter Tryz.func41, Tryz.ntmps41
  go_wp2_with fail
  exact end_cell_tmp Tryz.results41 rfl (Bk.new _ _ _) Tryz.underlying27 rfl info_sv rfl ⟨rfl, (Below.refl _ _).alloc (Nat.le_refl _) _⟩
set_option maxRecDepth 100000 in
theorem Lookup_miss_NOT (v : Value) (w : World) : Calls Tryz.prog 42 #[.string ⟨#[78, 79, 84]⟩, v] w fun e w' => e = .returned (.tuple #[sv 0 0 0 es, .bool false]) ∧ Below w.heap.size w w' := by
  go_enter Tryz.func42, Tryz.ntmps42
  go_wp2_with fail
  exact end_cell_tmp Tryz.results42 rfl (Bk.new _ _ _) Tryz.underlying27 rfl info_sv rfl ⟨rfl, (Below.refl _ _).alloc (Nat.le_refl _) _⟩
set_option maxRecDepth 100000 in
theorem Lookup_miss_IFS (v : Value) (w : World) : Calls Tryz.prog 42 #[.string ⟨#[73, 70, 83]⟩, v] w fun e w' => e = .returned (.tuple #[sv 0 0 0 es, .bool false]) ∧ Below w.heap.size w w' := by
  go_enter Tryz.func42, Tryz.ntmps42
  go_wp2_with fail
  exact end_cell_tmp Tryz.results42 rfl (Bk.new _ _ _) Tryz.underlying27 rfl info_sv rfl ⟨rfl, (Below.refl _ _).alloc (Nat.le_refl _) _⟩
set_option maxRecDepth 100000 in
theorem Lookup_miss_ISNUMBER (v : Value) (w : World) : Calls Tryz.prog 42 #[.string ⟨#[73, 83, 78, 85, 77, 66, 69, 82]⟩, v] w fun e w' => e = .returned (.tuple #[sv 0 0 0 es, .bool false]) ∧ Below w.heap.size w w' := by
  go_enter Tryz.func42, Tryz.ntmps42
  go_wp2_with fail
  exact end_cell_tmp Tryz.results42 rfl (Bk.new _ _ _) Tryz.underlying27 rfl info_sv rfl ⟨rfl, (Below.refl _ _).alloc (Nat.le_refl _) _⟩
set_option maxRecDepth 100000 in
theorem CallMath_miss_NOT (v : Value) (w : World) : Calls Tryz.prog 43 #[.string ⟨#[78, 79, 84]⟩, v] w fun e w' => e = .returned (.tuple #[sv 0 0 0 es, .bool false]) ∧ Below w.heap.size w w' := by
  go_enter Tryz.func43, Tryz.ntmps43
  go_wp2_with fail
  exact end_cell_tmp Tryz.results43 rfl (Bk.new _ _ _) Tryz.underlying27 rfl info_sv rfl ⟨rfl, (Below.refl _ _).alloc (Nat.le_refl _) _⟩
set_option maxRecDepth 100000 in
theorem CallMath_miss_IFS (v : Value) (w : World) : Calls Tryz.prog 43 #[.string ⟨#[73, 70, 83]⟩, v] w fun e w' => e = .returned (.tuple #[sv 0 0 0 es, .bool false]) ∧ Below w.heap.size w w' := by
  go_enter Tryz.func43, Tryz.ntmps43
  go_wp2_with fail
  exact end_cell_tmp Tryz.results43 rfl (Bk.new _ _ _) Tryz.underlying27 rfl info_sv rfl ⟨rfl, (Below.refl _ _).alloc (Nat.le_refl _) _⟩
set_option maxRecDepth 100000 in
theorem CallMath_miss_ISNUMBER (v : Value) (w : World) : Calls Tryz.prog 43 #[.string ⟨#[73, 83, 78, 85, 77, 66, 69, 82]⟩, v] w fun e w' => e = .returned (.tuple #[sv 0 0 0 es, .bool false]) ∧ Below w.heap.size w w' := by
  go_enter Tryz.func43, Tryz.ntmps43
  go_wp2_with fail
  exact end_cell_tmp Tryz.results43 rfl (Bk.new _ _ _) Tryz.underlying27 rfl info_sv rfl ⟨rfl, (Below.refl _ _).alloc (Nat.le_refl _) _⟩
set_option maxRecDepth 100000 in
theorem CallText_miss_NOT (v : Value) (w : World) : Calls Tryz.prog 44 #[.string ⟨#[78, 79, 84]⟩, v] w fun e w' => e = .returned (.tuple #[sv 0 0 0 es, .bool false]) ∧ Below w.heap.size w w' := by
  go_enter Tryz.func44, Tryz.ntmps44
  go_wp2_with fail
  exact end_cell_tmp Tryz.results44 rfl (Bk.new _ _ _) Tryz.underlying27 rfl info_sv rfl ⟨rfl, (Below.refl _ _).alloc (Nat.le_refl _) _⟩
set_option maxRecDepth 100000 in
theorem CallText_miss_IFS (v : Value) (w : World) : Calls Tryz.prog 44 #[.string ⟨#[73, 70, 83]⟩, v] w fun e w' => e = .returned (.tuple #[sv 0 0 0 es, .bool false]) ∧ Below w.heap.size w w' := by
  go_enter Tryz.func44, Tryz.ntmps44
  go_wp2_with fail
  exact end_cell_tmp Tryz.results44 rfl (Bk.new _ _ _) Tryz.underlying27 rfl info_sv rfl ⟨rfl, (Below.refl _ _).alloc (Nat.le_refl _) _⟩
set_option maxRecDepth 100000 in
theorem CallText_miss_ISNUMBER (v : Value) (w : World) : Calls Tryz.prog 44 #[.string ⟨#[73, 83, 78, 85, 77, 66, 69, 82]⟩, v] w fun e w' => e = .returned (.tuple #[sv 0 0 0 es, .bool false]) ∧ Below w.heap.size w w' := by
  go_enter Tryz.func44, Tryz.ntmps44
  go_wp2_with fail
  exact end_cell_tmp Tryz.results44 rfl (Bk.new _ _ _) Tryz.underlying27 rfl info_sv rfl ⟨rfl, (Below.refl _ _).alloc (Nat.le_refl _) _⟩
set_option maxRecDepth 100000 in
theorem CallLogic_miss_ISNUMBER (v : Value) (w : World) : Calls Tryz.prog 45 #[.string ⟨#[73, 83, 78, 85, 77, 66, 69, 82]⟩, v] w fun e w' => e = .returned (.tuple #[sv 0 0 0 es, .bool false]) ∧ Below w.heap.size w w' := by
  go_enter Tryz.func45, Tryz.ntmps45
  go_wp2_with fail
  exact end_cell_tmp Tryz.results45 rfl (Bk.new _ _ _) Tryz.underlying27 rfl info_sv rfl ⟨rfl, (Below.refl _ _).alloc (Nat.le_refl _) _⟩
set_option maxRecDepth 100000 in
theorem fitsTexts_miss_NOT (A : Option Addr) (n c : Nat) (w : World) : Calls Tryz.prog 60 #[.string ⟨#[78, 79, 84]⟩, .slice A n c] w fun e w' => e = .returned (.tuple #[.bool false, .bool false]) ∧ w = w' := by
  go_enter Tryz.func60, Tryz.ntmps60
  go_wp2_with fail
  go_ret2
  exact ⟨rfl, rfl⟩
set_option maxRecDepth 100000 in
theorem fitsTexts_miss_IFS (A : Option Addr) (n c : Nat) (w : World) : Calls Tryz.prog 60 #[.string ⟨#[73, 70, 83]⟩, .slice A n c] w fun e w' => e = .returned (.tuple #[.bool false, .bool false]) ∧ w = w' := by
  go_enter Tryz.func60, Tryz.ntmps60
  go_wp2_with fail
  go_ret2
  exact ⟨rfl, rfl⟩
set_option maxRecDepth 100000 in
theorem fitsTexts_miss_ISNUMBER (A : Option Addr) (n c : Nat) (w : World) : Calls Tryz.prog 60 #[.string ⟨#[73, 83, 78, 85, 77, 66, 69, 82]⟩, .slice A n c] w fun e w' => e = .returned (.tuple #[.bool false, .bool false]) ∧ w = w' := by
  go_enter Tryz.func60, Tryz.ntmps60
  go_wp2_with fail
  go_ret2
  exact ⟨rfl, rfl⟩
end Go.Proofs.YtliaalgmdelcaaaGreatDoor
