import Derived.Test.YtndabbepepbnmaaGreatDoorTwo
import Derived.Test.YtndabbepepbnmaaGreatDoorTrunc
import Derived.Deep.LoopGhost
namespace Go.Proofs.YtndabbepepbnmaaGreatDoor
open Go.RowKit
attribute [local go_sem] run_store_float

theorem Trunc_whole (n : Nat) (hn : n < 9007199254740992) (w : World) : Calls Tryz.prog 179 #[.float .f64 (enc (n : Int) 0)] w fun e w' => e = .returned (.float .f64 (enc (n : Int) 0)) ∧ w = w' := by
  have h := Trunc_E false n 0 hn (by omega) w
  rw [Nat.pow_zero, Nat.div_one] at h
  have e : enc (n : Int) 0 = E false n 0 := by
    rw [enc_E, show decide ((n : Int) < 0) = false by simp]; rfl
  rw [e]; exact h

theorem eq_float (a b : Nat) (ha : a < 9007199254740992) (hb : b < 9007199254740992) : (FloatKind.f64.format.order (enc (a : Int) 0) (enc (b : Int) 0) != some .eq) = !decide (a = b) := by
  rcases Nat.lt_trichotomy a b with h | h | h
  · rw [lt_true (by omega) (by omega) (by omega) (by omega), decide_eq_false (by omega)]; rfl
  · rw [eq_true' (by omega) (by omega) (by omega) (by omega), decide_eq_true h]; rfl
  · rw [gt_true (by omega) (by omega) (by omega) (by omega), decide_eq_false (by omega)]; rfl
theorem gt_float (a b : Nat) (ha : a < 9007199254740992) (hb : b < 9007199254740992) : (FloatKind.f64.format.order (enc (a : Int) 0) (enc (b : Int) 0) == some .gt) = decide (b < a) := by
  rcases Nat.lt_trichotomy a b with h | h | h
  · rw [lt_true (by omega) (by omega) (by omega) (by omega), decide_eq_false (by omega)]; rfl
  · rw [eq_true' (by omega) (by omega) (by omega) (by omega), decide_eq_false (by omega)]; rfl
  · rw [gt_true (by omega) (by omega) (by omega) (by omega), decide_eq_true h]; rfl
theorem eq_zero_float (a : Nat) (ha : a < 9007199254740992) (h0 : 1 ≤ a) : (FloatKind.f64.format.order (enc (a : Int) 0) 0 == some .eq) = false := by
  rw [order_zero _ _ (by omega) (by omega), Int.compare_eq_gt.2 (by omega)]; rfl
theorem lt_zero_float (a : Nat) (ha : a < 9007199254740992) : (FloatKind.f64.format.order (enc (a : Int) 0) 0 == some .lt) = false := by
  rw [order_zero _ _ (by omega) (by omega)]
  rcases Nat.eq_zero_or_pos a with h | h
  · subst h; rfl
  · rw [Int.compare_eq_gt.2 (by omega)]; rfl

set_option maxRecDepth 100000 in
theorem gcd_any (a b : Nat) (ha : 1 ≤ a) (hb : 1 ≤ b) (ha2 : a ≤ 1000000) (hb2 : b ≤ 1000000) (w : World) :
    Calls Tryz.prog 158 #[.float .f64 (enc (a : Int) 0), .float .f64 (enc (b : Int) 0)] w fun e w' => e = .returned (.float .f64 (enc (Nat.gcd a b : Int) 0)) ∧ w = w' := by
  have ea := eq_zero_float a (by omega) ha
  have eb := eq_zero_float b (by omega) hb
  go_enter Tryz.func158, Tryz.ntmps158
  go_wp2_with fail
  refine (Trunc_whole a (by omega) _).mono ?_
  rintro e w1 ⟨rfl, rfl⟩
  go_wp2_with fail
  refine (Trunc_whole b (by omega) _).mono ?_
  rintro e w1 ⟨rfl, rfl⟩
  go_wp2_with fail
  clear ea eb
  go_loopg [0, 1] (a + b) (fun g x y wr => w = wr ∧ ∃ p q : Nat, x = .float .f64 (enc (p : Int) 0) ∧ y = .float .f64 (enc (q : Int) 0) ∧ 1 ≤ p ∧ 1 ≤ q ∧ p ≤ 1000000 ∧ q ≤ 1000000 ∧ Nat.gcd p q = Nat.gcd a b ∧ g = p + q)
  case atStart => exact ⟨rfl, a, b, rfl, rfl, ha, hb, ha2, hb2, rfl, rfl⟩
  case round =>
    obtain ⟨rfl, p, q, rfl, rfl, hp, hq, hp2, hq2, hg, hgg⟩ := hrel
    have e1 := eq_float p q (by omega) (by omega)
    have e2 := gt_float p q (by omega) (by omega)
    have hG := hid hg
    have hGG := hid hgg
    clear hg hgg
    rcases Nat.lt_trichotomy p q with h | h | h
    · rw [decide_eq_false (by omega), Bool.not_false] at e1
      rw [decide_eq_false (by omega)] at e2
      have hs := fun wx => run_float_arith (P := Tryz.prog) wx .sub 39 .f64 (enc (q : Int) 0) (enc (p : Int) 0) _ (sub_whole (q : Int) (p : Int) 0 (by omega) (by omega) (by omega) (by omega))
      rw [show (q : Int) - (p : Int) = ((q - p : Nat) : Int) by omega] at hs
      go_wp2_with fail
      go_roundg (p + (q - p))
      case measure => rw [hGG.out]; omega
      case rel =>
        refine ⟨rfl, p, q - p, rfl, rfl, hp, by omega, hp2, by omega, ?_, rfl⟩
        rw [← hG.out]
        conv => rhs; rw [show q = (q - p) + p by omega]
        rw [Nat.gcd_add_self_right]
    · subst h
      rw [decide_eq_true rfl, Bool.not_true] at e1
      have hE : Hid (p = Nat.gcd a b) := by
        show _ = _
        rw [← hG.out, Nat.gcd_self]
      go_wp2_with fail
      go_ret
      exact ⟨congrArg (fun z : Nat => Ending.returned (Value.float .f64 (enc (z : Int) 0))) hE.out, rfl⟩
    · rw [decide_eq_false (by omega), Bool.not_false] at e1
      rw [decide_eq_true h] at e2
      have hs := fun wx => run_float_arith (P := Tryz.prog) wx .sub 39 .f64 (enc (p : Int) 0) (enc (q : Int) 0) _ (sub_whole (p : Int) (q : Int) 0 (by omega) (by omega) (by omega) (by omega))
      rw [show (p : Int) - (q : Int) = ((p - q : Nat) : Int) by omega] at hs
      go_wp2_with fail
      go_roundg (p - q + q)
      case measure => rw [hGG.out]; omega
      case rel =>
        refine ⟨rfl, p - q, q, rfl, rfl, by omega, hq, by omega, hq2, ?_, rfl⟩
        rw [← hG.out]
        conv => rhs; rw [show p = (p - q) + q by omega]
        rw [Nat.gcd_add_self_left]

theorem lcm_any (a b : Nat) (ha : 1 ≤ a) (hb : 1 ≤ b) (ha2 : a ≤ 1000000) (hb2 : b ≤ 1000000) (w : World) :
    Calls Tryz.prog 160 #[.float .f64 (enc (a : Int) 0), .float .f64 (enc (b : Int) 0)] w fun e w' => e = .returned (.float .f64 (enc (a * b / Nat.gcd a b : Nat) 0)) ∧ w = w' := by
  have ea := eq_zero_float a (by omega) ha
  have hab : a * b ≤ 1000000 * 1000000 := Nat.mul_le_mul ha2 hb2
  have hg0 : Nat.gcd a b ≠ 0 := by have := Nat.gcd_pos_of_pos_left b ha; omega
  have hgle : Nat.gcd a b ≤ a := Nat.gcd_le_left b ha
  have hdvd : Nat.gcd a b ∣ a * b := Nat.dvd_trans (Nat.gcd_dvd_left a b) (Nat.dvd_mul_right a b)
  have hm := fun wx => run_float_arith (P := Tryz.prog) wx .mul 39 .f64 (enc (a : Int) 0) (enc (b : Int) 0) _ (mul_whole (a : Int) (b : Int) (by omega) (by omega) (by omega) (by omega) (by simp only [Int.natAbs_natCast]; omega))
  rw [show (a : Int) * (b : Int) = ((a * b : Nat) : Int) by simp] at hm
  have hq : floatBits .quo .f64 (enc ((a * b : Nat) : Int) 0) (enc (Nat.gcd a b : Int) 0) = some (enc (a * b / Nat.gcd a b : Nat) 0) := by
    have hc : a * b / Nat.gcd a b ≤ a * b := Nat.div_le_self _ _
    have := div_E false false (a * b) (Nat.gcd a b) (a * b / Nat.gcd a b) 0 0 0 (by omega) (by omega) (by omega) hg0 (by rw [Nat.div_mul_cancel hdvd]) (by omega) (by omega) (by omega)
    have e : ∀ n : Nat, enc (n : Int) 0 = E false n 0 := fun n => by
      rw [enc_E, show decide ((n : Int) < 0) = false by simp]; rfl
    rw [e, e, e]; exact this
  have hq' := fun wx => run_float_arith (P := Tryz.prog) wx .quo 39 .f64 _ _ _ hq
  have HQ := hid hq'
  clear hq hq' hdvd hgle hg0 hab
  have HG := hid (gcd_any a b ha hb ha2 hb2)
  generalize a * b / Nat.gcd a b = r at *
  generalize Nat.gcd a b = d at *
  generalize a * b = m at *
  go_enter Tryz.func160, Tryz.ntmps160
  go_wp2_with fail
  refine (Trunc_whole a (by omega) _).mono ?_
  rintro e w1 ⟨rfl, rfl⟩
  go_wp2_with fail
  refine (Trunc_whole b (by omega) _).mono ?_
  rintro e w1 ⟨rfl, rfl⟩
  go_wp2_with fail
  refine (HG.out _).mono ?_
  rintro e w1 ⟨rfl, rfl⟩
  have hq := HQ.out
  go_wp2_with fail
  go_ret
  exact ⟨rfl, rfl⟩
end Go.Proofs.YtndabbepepbnmaaGreatDoor
