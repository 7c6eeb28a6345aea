import Derived.Test.YtndabbepepbnmaaGreatDoorTwo
namespace Go.Proofs.YtndabbepepbnmaaGreatDoor
open Go.RowKit
attribute [local go_sem] run_store_float

theorem value_str (s : ByteArray) (w : World) : Calls Tryz.prog 156 #[fa 0 s false es 2] w fun e w' => e = .returned (.string s) ∧ Below w.heap.size w w' := by
  unfold fa
  go_enter Tryz.func156, Tryz.ntmps156
  go_wp2_with fail
  go_ret
  exact ⟨rfl, (Below.refl _ _).alloc (Nat.le_refl _) _⟩

theorem toInt_enc0 (N : Int) (hN : N.natAbs < 9007199254740992) : floatToIntVal .f64 (enc N 0) .i64 = some N := by
  unfold floatToIntVal
  have h := toInt_E (decide (N < 0)) N.natAbs 0 hN (by omega)
  rw [← enc_E, Nat.pow_zero, Nat.div_one, sg_natAbs] at h
  show (match (Ieee.double.read (enc N 0)).toInt .zero with | some n => if IntKind.i64.min ≤ n ∧ n ≤ IntKind.i64.max then some n else none | none => none) = _
  rw [h]
  have : IntKind.i64.min ≤ N ∧ N ≤ IntKind.i64.max := by
    rw [show IntKind.i64.min = -9223372036854775808 from rfl, show IntKind.i64.max = 9223372036854775807 from rfl]; omega
  exact if_pos this
end Go.Proofs.YtndabbepepbnmaaGreatDoor
