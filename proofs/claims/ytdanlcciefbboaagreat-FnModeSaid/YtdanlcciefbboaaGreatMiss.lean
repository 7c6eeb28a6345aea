import Derived.Test.YtdanlcciefbboaaGreatSpec
namespace Go.Proofs.YtdanlcciefbboaaGreat
open Go.RowKit
attribute [local go_sem] run_store_float

set_option maxRecDepth 100000 in
theorem Criteria_miss_MODE (v : Value) (w : World) : Calls Tryz.prog 35 #[.string ⟨#[77, 79, 68, 69]⟩, v] w fun e w' => e = .returned (.tuple #[sv 0 0 0 es, .bool false]) ∧ Below w.heap.size w w' := by
  go_enter Tryz.func35, Tryz.ntmps35
  go_wp2_with fail
  exact end_cell_tmp Tryz.results35 rfl (Bk.new _ _ _) Tryz.underlying34 rfl info_sv rfl ⟨rfl, (Below.refl _ _).alloc (Nat.le_refl _) _⟩
set_option maxRecDepth 100000 in
theorem Lookup_miss_MODE (v : Value) (w : World) : Calls Tryz.prog 36 #[.string ⟨#[77, 79, 68, 69]⟩, v] w fun e w' => e = .returned (.tuple #[sv 0 0 0 es, .bool false]) ∧ Below w.heap.size w w' := by
  go_enter Tryz.func36, Tryz.ntmps36
  go_wp2_with fail
  exact end_cell_tmp Tryz.results36 rfl (Bk.new _ _ _) Tryz.underlying34 rfl info_sv rfl ⟨rfl, (Below.refl _ _).alloc (Nat.le_refl _) _⟩
set_option maxRecDepth 100000 in
theorem CallMath_miss_MODE (v : Value) (w : World) : Calls Tryz.prog 37 #[.string ⟨#[77, 79, 68, 69]⟩, v] w fun e w' => e = .returned (.tuple #[sv 0 0 0 es, .bool false]) ∧ Below w.heap.size w w' := by
  go_enter Tryz.func37, Tryz.ntmps37
  go_wp2_with fail
  exact end_cell_tmp Tryz.results37 rfl (Bk.new _ _ _) Tryz.underlying34 rfl info_sv rfl ⟨rfl, (Below.refl _ _).alloc (Nat.le_refl _) _⟩
set_option maxRecDepth 100000 in
theorem CallText_miss_MODE (v : Value) (w : World) : Calls Tryz.prog 38 #[.string ⟨#[77, 79, 68, 69]⟩, v] w fun e w' => e = .returned (.tuple #[sv 0 0 0 es, .bool false]) ∧ Below w.heap.size w w' := by
  go_enter Tryz.func38, Tryz.ntmps38
  go_wp2_with fail
  exact end_cell_tmp Tryz.results38 rfl (Bk.new _ _ _) Tryz.underlying34 rfl info_sv rfl ⟨rfl, (Below.refl _ _).alloc (Nat.le_refl _) _⟩
set_option maxRecDepth 100000 in
theorem CallLogic_miss_MODE (v : Value) (w : World) : Calls Tryz.prog 39 #[.string ⟨#[77, 79, 68, 69]⟩, v] w fun e w' => e = .returned (.tuple #[sv 0 0 0 es, .bool false]) ∧ Below w.heap.size w w' := by
  go_enter Tryz.func39, Tryz.ntmps39
  go_wp2_with fail
  exact end_cell_tmp Tryz.results39 rfl (Bk.new _ _ _) Tryz.underlying34 rfl info_sv rfl ⟨rfl, (Below.refl _ _).alloc (Nat.le_refl _) _⟩
set_option maxRecDepth 100000 in
theorem fitsTexts_miss_MODE (A : Option Addr) (n c : Nat) (w : World) : Calls Tryz.prog 53 #[.string ⟨#[77, 79, 68, 69]⟩, .slice A n c] w fun e w' => e = .returned (.tuple #[.bool false, .bool false]) ∧ w = w' := by
  go_enter Tryz.func53, Tryz.ntmps53
  go_wp2_with fail
  go_ret2
  exact ⟨rfl, rfl⟩
end Go.Proofs.YtdanlcciefbboaaGreat
