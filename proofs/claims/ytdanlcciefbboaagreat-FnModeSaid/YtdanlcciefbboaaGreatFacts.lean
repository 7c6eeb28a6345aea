import Derived.Test.YtdanlcciefbboaaGreatRows
import Derived.JoinedOf
import Derived.KernelRfl
import Derived.SevenTiedAt
namespace Go.Proofs.YtdanlcciefbboaaGreat

/-! closed facts of the program alone, which every row wants -/
theorem and_intro {a b : Bool} (h : a = true) (h' : b = true) : (a && b) = true := by rw [h, h']; rfl
theorem fact_laidOut : laidOutB Tryz.pinned.checked.prog = true := by kernel_rfl
theorem fact_rowed : mapsRowed Tryz.pinned.checked.prog = true := by kernel_rfl
theorem fact_keys : Tryz.pinned.checked.prog.plainKeys = true := by kernel_rfl
theorem fact_heard : Tryz.pinned.checked.prog.stopsHeard = true := by kernel_rfl
theorem fact_enter : Tryz.pinned.checked.prog.mayEnter = true := by kernel_rfl
theorem fact_lifted : Tryz.pinned.checked.prog.liftsFinal = false := by kernel_rfl
theorem fact_make : Tryz.pinned.checked.prog.make = some Make.cut := by kernel_rfl
theorem fact_looks : true = Tryz.pinned.checked.prog.looks [] := by kernel_rfl
end Go.Proofs.YtdanlcciefbboaaGreat
