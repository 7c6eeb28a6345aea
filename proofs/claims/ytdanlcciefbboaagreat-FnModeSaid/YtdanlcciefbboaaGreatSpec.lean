import Derived.Test.YtdanlcciefbboaaGreatProg
import Derived.Test.YtdanlcciefbboaaGreatMem
namespace Go.Proofs.YtdanlcciefbboaaGreat
open Go.RowKit
attribute [local go_sem] run_store_float

/-- a flat value of the reference (no rows) -/
def sv (k n d : Int) (t : ByteArray) : Value := .agg #[.int .i64 k, .int .i64 n, .int .i64 d, .string t, .slice none 0 0]
def es : ByteArray := ⟨#[]⟩

theorem info_sv : (Tryz.prog.info? 34).map (·.size) = some 5 := by kernel_rfl

theorem doubt_any (w : World) : Calls Tryz.prog 33 #[] w fun e w' => e = .returned (sv 6 0 0 es) ∧ Below w.heap.size w w' := by
  go_enter Tryz.func33, Tryz.ntmps33
  go_wp2
  exact end_cell Tryz.results33 rfl (Bk.new w _ _) Tryz.underlying34 rfl info_sv rfl ⟨rfl, (Below.refl _ _).alloc (Nat.le_refl _) _⟩

def b2i (b : Bool) : Int := if b then 1 else 0
theorem bool_any (b : Bool) (w : World) : Calls Tryz.prog 30 #[.bool b] w fun e w' => e = .returned (sv 3 (b2i b) 0 es) ∧ Below w.heap.size w w' := by
  cases b
  all_goals
    go_enter Tryz.func30, Tryz.ntmps30
    go_wp2
    exact end_cell Tryz.results30 rfl (Bk.new w _ _) Tryz.underlying34 rfl info_sv rfl ⟨rfl, (Below.refl _ _).alloc (Nat.le_refl _) _⟩

theorem int_ok (n : Int) (w : World) (h1 : -99999999999 ≤ n) (h2 : n ≤ 99999999999) : Calls Tryz.prog 27 #[.int .i64 n] w fun e w' => e = .returned (sv 1 n 1 es) ∧ Below w.heap.size w w' := by
  go_enter Tryz.func27, Tryz.ntmps27
  go_wp2
  exact end_cell Tryz.results27 rfl (Bk.new w _ _) Tryz.underlying34 rfl info_sv rfl ⟨rfl, (Below.refl _ _).alloc (Nat.le_refl _) _⟩

theorem int_no (n : Int) (w : World) (h : n < -99999999999 ∨ 99999999999 < n) : Calls Tryz.prog 27 #[.int .i64 n] w fun e w' => e = .returned (sv 6 0 0 es) ∧ Below w.heap.size w w' := by
  rcases h with h | h
  all_goals
    go_enter Tryz.func27, Tryz.ntmps27
    go_wp2_with fail
    refine (doubt_any _).mono ?_
    rintro e w1 ⟨rfl, hb⟩
    obtain ⟨hc, hf⟩ := bcell hb
    unfold sv
    go_wp2
    exact end_cell Tryz.results27 rfl (Bk.set5 ((Bk.new w _ _).below hb (by simp)) _ _ _ _ _) Tryz.underlying34 rfl info_sv rfl
      ⟨rfl, Below.set5 (Below.lift ((Below.refl _ _).alloc (Nat.le_refl _) _) (by simp) hb) (Nat.le_refl _) _ _ _ _ _⟩

end Go.Proofs.YtdanlcciefbboaaGreat
