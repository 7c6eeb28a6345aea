import Derived.Test.YtdanlcciefbboaaGreatEl
import Derived.Test.YtdanlcciefbboaaGreatOf
import Derived.Test.YtdanlcciefbboaaGreatCalmF
namespace Go.Proofs.YtdanlcciefbboaaGreat
open Go.RowKit
attribute [local go_sem] run_store_float

theorem fin_fnum (a : SV) (h : svOk a) (hn : a.1 = 3 → a.2.1.natAbs < 9007199254740992) : fin (fnum a) := by
  by_cases h1 : a.1 = 1
  · exact (avOk_of a h).1 h1
  · unfold fnum
    rw [if_neg h1]
    by_cases h3 : a.1 = 3
    · rw [if_pos h3]; exact fin_enc _ _ (hn h3) (by omega)
    · rw [if_neg h3]; exact fin_zero

set_option maxRecDepth 100000 in
/-- same of a value and itself, turned -/
theorem same_yes (v : SV) (w : World) (h : svOk v) (hf : fin (fnum v)) :
    Calls Tryz.prog 12 #[iv v.1 (fnum v) v.2.2.2, svV v] w fun e w' => e = .returned (.bool true) ∧ Below w.heap.size w w' := by
  obtain ⟨x, hx⟩ : ∃ x, x = fnum v := ⟨_, rfl⟩
  have hof := fun W => of_any v W h
  rw [← hx] at hf ⊢
  have Hof := hid hof
  rw [← hx] at Hof
  unfold fin at hf
  clear hof hx h
  unfold iv svV sv
  go_enter Tryz.func12, Tryz.ntmps12
  go_wp2_with fail
  refine (Hof.out _).mono ?_
  rintro e w1 ⟨rfl, hb1⟩
  have hB := (Bk.below ((Bk.new w 42 #[.int .i64 v.1, .float .f64 x, .string v.2.2.2, .slice none 0 0]).alloc (.cells #[.int .i64 v.1, .int .i64 v.2.1, .int .i64 v.2.2.1, .string v.2.2.2, .slice none 0 0] 34)) hb1 (by simp; omega))
  obtain ⟨q0, q1, q2, q3, qf⟩ := hB.cells4
  have hz : w.heap.size + 2 ≤ w1.heap.size := by have := hb1.size; simpa using this
  have hz' : w.heap.size < w1.heap.size := by omega
  have hd : Below w.heap.size w w1 := Below.lift (((Below.refl _ _).alloc (Nat.le_refl _) _).alloc (by simp) _) (by simp; omega) hb1
  clear hb1 hB
  unfold iv
  go_wp2_with fail
  go_loop [6] (fun i => i = .int .i64 0) (fun _ => 0)
  case atStart => rfl
  case round =>
    obtain rfl := hrel
    go_wp2_with fail
    go_ret
    exact ⟨rfl, hd.alloc (by omega) _⟩

end Go.Proofs.YtdanlcciefbboaaGreat
