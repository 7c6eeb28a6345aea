import Derived.Test.YtndabbepepbnmaaGreatDoorFrac
import Derived.Test.YtndabbepepbnmaaGreatDoorImpl
import Derived.Test.YtndabbepepbnmaaGreatDoorOf
namespace Go.Proofs.YtndabbepepbnmaaGreatDoor
open Go.RowKit
attribute [local go_sem] run_store_float

/-- said: the start: to the value that the function f gives -/
def Args (w : World) (v : Value) (l : List SV) : Prop := Sl w w.heap.size 5 v l.length (l.flatMap svCells) ∧ (∀ a ∈ l, svOk a) ∧ l.length ≤ 1000

theorem Args.avs {w : World} {v : Value} {l : List SV} (h : Args w v l) : ∀ a ∈ l.map avOf, avOk a := by
  intro a ha
  obtain ⟨b, hb, rfl⟩ := List.mem_map.1 ha
  exact avOk_of b (h.2.1 b hb)

theorem mul16 (N : Int) (hN : N.natAbs < 281474976710656) : floatBits .mul .f64 (enc N 0) (enc 16 0) = some (enc (N * 16) 0) := by
  show Ieee.double.mul _ _ = _
  rw [enc_E N, enc_E 16]
  rw [mul_E (decide (N < 0)) (decide ((16 : Int) < 0)) N.natAbs (16 : Int).natAbs 0 0 (by omega) (by decide) (by rw [show (16 : Int).natAbs = 16 from rfl]; omega) (by omega)]
  have e : (decide (N < 0) ^^ decide ((16 : Int) < 0)) = decide (N * 16 < 0) := by
    rw [show decide ((16 : Int) < 0) = false from rfl, Bool.xor_false, decide_eq_decide]; omega
  have e2 : N.natAbs * (16 : Int).natAbs = (N * 16).natAbs := by rw [Int.natAbs_mul]
  rw [e, e2, enc_E]
theorem enc16 : enc 16 0 = 4625196817309499392 := by decide
theorem encLo : enc (-1000000000000) 0 = 14009883241494872064 := by decide
theorem encHi : enc 1000000000000 0 = 4786511204640096256 := by decide

theorem toInt_enc (N : Int) (hN : N.natAbs < 9007199254740992) : floatToIntVal .f64 (enc N 0) .i64 = some N := by
  unfold floatToIntVal
  have h := toInt_E (decide (N < 0)) N.natAbs 0 hN (by omega)
  rw [← enc_E, Nat.pow_zero, Nat.div_one, sg_natAbs] at h
  show (match (Ieee.double.read (enc N 0)).toInt .zero with | some n => if IntKind.i64.min ≤ n ∧ n ≤ IntKind.i64.max then some n else none | none => none) = _
  rw [h]
  have : IntKind.i64.min ≤ N ∧ N ≤ IntKind.i64.max := by
    rw [show IntKind.i64.min = -9223372036854775808 from rfl, show IntKind.i64.max = 9223372036854775807 from rfl]; omega
  exact if_pos this


/-- a row of one flat value, of two, just laid -/
theorem Args.one (a : SV) (W : World) (t : TypeId) (h : svOk a) : Args (W.alloc (.cells (svCells a).toArray t)) (.slice (some ⟨W.heap.size, 0, none⟩) 1 1) [a] :=
  ⟨(Sl.lit (n := 1) (sz := 5) (Bk.new W t (svCells a).toArray) 1 rfl).cast rfl rfl, fun x hx => by simp at hx; subst hx; exact h, by simp⟩
theorem Args.two (a b : SV) (W : World) (t : TypeId) (ha : svOk a) (hb : svOk b) : Args (W.alloc (.cells (svCells a ++ svCells b).toArray t)) (.slice (some ⟨W.heap.size, 0, none⟩) 2 2) [a, b] :=
  ⟨(Sl.lit (n := 2) (sz := 5) (Bk.new W t (svCells a ++ svCells b).toArray) 2 rfl).cast rfl (by simp), fun x hx => by simp at hx; rcases hx with rfl | rfl <;> assumption, by simp⟩
theorem Args.keep {w w' : World} {v : Value} {l : List SV} (h : Args w v l) (hb : Below w.heap.size w w') : Args w' v l :=
  ⟨(h.1.keep hb).more hb.size, h.2⟩
end Go.Proofs.YtndabbepepbnmaaGreatDoor
