import Derived.Test.YtdanlcciefbboaaGreatProg
import Derived.Test.YtdanlcciefbboaaGreatMem
import Derived.Test.YtdanlcciefbboaaGreatFl
import Derived.Sort.Statements
import Derived.Sort.Walk0
namespace Go.Proofs.YtdanlcciefbboaaGreat
open Go.RowKit

/-- so many sixteenths -/
abbrev Fz := {z : Int // z.natAbs < 9007199254740992}
instance : Inhabited Fz := ⟨⟨0, by decide⟩⟩
theorem bitsF_is : ∃ f : Fz → Nat, ∀ x, f x = enc x.1 4 := ⟨fun x => enc x.1 4, fun _ => rfl⟩
/-- the float's word: by its law alone (nothing unfolds it) -/
noncomputable def bitsF : Fz → Nat := Classical.choose bitsF_is
theorem bitsF_eq (x : Fz) : bitsF x = enc x.1 4 := Classical.choose_spec bitsF_is x
noncomputable abbrev encF : Fz → Value := fun x => Value.float .f64 (bitsF x)
def ltF (x y : Fz) : Bool := decide (x.1 < y.1)
theorem swo_ltF : Go.Sort.SWO ltF where
  irrefl x := by simp [ltF]
  trans x y z h1 h2 := by simp [ltF] at *; omega
  ntrans x y z h1 h2 := by simp [ltF] at *; omega
theorem order_F (x y : Fz) : FloatKind.f64.format.order (bitsF x) (bitsF y) = some (compare x.1 y.1) := by
  rw [bitsF_eq, bitsF_eq]
  exact order_enc x.1 y.1 4 x.2 y.2 (by omega)

theorem isNaN_flt (x : Fz) (w : World) : Calls Tryz.prog 232 #[.float .f64 (bitsF x)] w fun e w' => e = .returned (.bool false) ∧ w' = w := by
  have h : FloatKind.f64.format.order (bitsF x) (bitsF x) = some .eq := by rw [order_F]; simp
  go_enter Tryz.func232, Tryz.ntmps232
  go_wp2
  go_ret
  exact ⟨rfl, rfl⟩
theorem cmp_Less_flt (x y : Fz) (w : World) : Calls Tryz.prog 220 #[.float .f64 (bitsF x), .float .f64 (bitsF y)] w fun e w' => e = .returned (.bool (ltF x y)) ∧ w' = w := by
  obtain ⟨o, ho⟩ : ∃ o, compare x.1 y.1 = o := ⟨_, rfl⟩
  have h := order_F x y
  rw [ho] at h
  have hl : ltF x y = (o == .lt) := by
    unfold ltF
    rw [← ho]
    by_cases hlt : x.1 < y.1
    · rw [decide_eq_true hlt, Int.compare_eq_lt.2 hlt]; rfl
    · rw [decide_eq_false hlt]
      cases hc : compare x.1 y.1 with
      | lt => exact absurd (Int.compare_eq_lt.1 hc) hlt
      | eq => rfl
      | gt => rfl
  rw [hl]
  cases o
  all_goals
    go_enter Tryz.func220, Tryz.ntmps220
    go_wp2_with (go_at_call 232; refine (isNaN_flt _ _).mono ?_; rintro e w' ⟨rfl, rfl⟩)
    go_ret
    exact ⟨rfl, rfl⟩
end Go.Proofs.YtdanlcciefbboaaGreat
