import Derived.Test.YtndabbepepbnmaaGreatDoorTwo
import Derived.Test.YtndabbepepbnmaaGreatDoorTrunc
namespace Go.Proofs.YtndabbepepbnmaaGreatDoor
open Go.RowKit Ieee

theorem order_zero_E (s : Bool) (r K : Nat) (hr : r < 9007199254740992) (hK : K ≤ 1000) : FloatKind.f64.format.order (E s r K) 0 = some (compare (sg s r) 0) := by
  have h := order_E2 s false r 0 K 0 hr (by omega) hK (by omega)
  have e1 : sg s r * 2 ^ 0 = sg s r := by simp
  have e2 : sg false 0 * 2 ^ K = 0 := by simp [sg]
  rw [e1, e2, show E false 0 0 = 0 by decide] at h
  exact h
end Go.Proofs.YtndabbepepbnmaaGreatDoor
