import Derived.Test.YtdanlcciefbboaaGreatOf
namespace Go.Proofs.YtdanlcciefbboaaGreat
open Go.RowKit
attribute [local go_sem] run_store_float

set_option maxRecDepth 100000 in
/-- the reference's sameness, of a flat value and itself -/
theorem self_yes (v : SV) (w : World) : Calls Tryz.prog 151 #[svV v, svV v] w fun e w' => e = .returned (.bool true) ∧ Below w.heap.size w w' := by
  unfold svV sv
  go_enter Tryz.func151, Tryz.ntmps151
  go_wp2_with fail
  go_loop [5] (fun i => i = .int .i64 0) (fun _ => 0)
  case atStart => rfl
  case round =>
    obtain rfl := hrel
    go_wp2_with fail
    go_ret
    exact ⟨rfl, ((Below.refl _ _).alloc (Nat.le_refl _) _).alloc (by simp) _⟩
end Go.Proofs.YtdanlcciefbboaaGreat
