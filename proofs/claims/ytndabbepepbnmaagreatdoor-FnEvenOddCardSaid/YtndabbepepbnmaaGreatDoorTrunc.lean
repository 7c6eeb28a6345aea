import Derived.Test.YtndabbepepbnmaaGreatDoorBits
import Derived.Laws.Externs
namespace Go.Proofs.YtndabbepepbnmaaGreatDoor
open Go.RowKit Ieee

theorem run_tobits (b : Nat) (w : World) : (callFunc 181 #[.float .f64 b]).run Tryz.prog w = .ok (.value (.int .u64 b)) w := by
  rw [run_callFunc_extern (e := Extern.MathFloatBits.float64bits) Tryz.func181 (by kernel_rfl) (by kernel_rfl) (by kernel_rfl) (by kernel_rfl)]; rfl
theorem run_frombits (n : Nat) (w : World) : (callFunc 199 #[.int .u64 (n : Int)]).run Tryz.prog w = .ok (.value (.float .f64 n)) w := by
  rw [run_callFunc_extern (e := Extern.MathFloatBits.float64frombits) Tryz.func199 (by kernel_rfl) (by kernel_rfl) (by kernel_rfl) (by kernel_rfl)]; rfl
theorem run_bits (op : BinOp) (t : TypeId) (k : IntKind) (x y z : Int) (w : World) (hop : op = .and ∨ op = .or ∨ op = .andNot) (h : bits op k x y = z) : (binOp op t (.int k x) (.int k y)).run Tryz.prog w = .ok (.int k z) w := by
  subst h
  rcases hop with rfl | rfl | rfl <;> simp [go_sem]

set_option maxRecDepth 100000 in
theorem copysign_E (s t : Bool) (m n k l : Nat) (hm : m < 9007199254740992) (hn : n < 9007199254740992) (hk : k ≤ 1000) (hl : l ≤ 1000) (w : World) :
    Calls Tryz.prog 180 #[.float .f64 (E t m k), .float .f64 (E s n l)] w fun e w' => e = .returned (.float .f64 (E s m k)) ∧ w = w' := by
  have h1 := fun wx => run_tobits (E t m k) wx
  have h2 := fun wx => run_tobits (E s n l) wx
  have h3 := abs_bits t m k hm hk
  have h4 := sign_bits s n l hn hl
  have h5 := join_bits s m k hm hk
  have h6 := fun wx => run_frombits (E s m k) wx
  go_enter Tryz.func180, Tryz.ntmps180
  go_wp2_with fail
  go_ret
  exact ⟨rfl, rfl⟩

theorem run_archTrunc (s : Bool) (m k : Nat) (hm : m < 9007199254740992) (hk : k ≤ 1000) (w : World) : (callFunc 197 #[.float .f64 (E s m k)]).run Tryz.prog w = .ok (.value (.float .f64 (E s (m / 2 ^ k) 0))) w := by
  rw [run_callFunc_extern (e := Extern.MathFloor.toIntegral "math.archTrunc" .zero) Tryz.func197 (by kernel_rfl) (by kernel_rfl) (by kernel_rfl) (by kernel_rfl)]
  obtain ⟨e, he, _⟩ := read_E s m k hm hk
  have h2 := integral_E s m k hm hk
  rw [he] at h2
  have hd : FloatKind.f64.decode (E s m k) = .number s (m * 2 ^ e) (-(k : Int) - e) := he
  have hr : Extern.MathFloor.toIntegral "math.archTrunc" .zero #[.float .f64 (E s m k)] = pure (.float .f64 (FloatKind.f64.encode ((Datum.number s (m * 2 ^ e) (-(k : Int) - e)).integral .zero))) := by
    show (match FloatKind.f64.decode (E s m k) with
      | .nan s t => _
      | d => _) = _
    rw [hd]
  rw [hr, h2]
  rfl

set_option maxRecDepth 100000 in
theorem Trunc_E (s : Bool) (m k : Nat) (hm : m < 9007199254740992) (hk : k ≤ 1000) (w : World) :
    Calls Tryz.prog 179 #[.float .f64 (E s m k)] w fun e w' => e = .returned (.float .f64 (E s (m / 2 ^ k) 0)) ∧ w = w' := by
  have h1 := fun wx => run_archTrunc s m k hm hk wx
  go_enter Tryz.func179, Tryz.ntmps179
  go_wp2_with fail
  go_ret
  exact ⟨rfl, rfl⟩

theorem E_shift (s : Bool) (m k j : Nat) (hm : m < 9007199254740992) (hk : k + j ≤ 1000) : E s (m * 2 ^ j) (k + j) = E s m k := by
  unfold E
  rw [nearest_shift s m j _ hm (by intro _; omega)]
  congr 1; omega

set_option maxRecDepth 100000 in
/-- Modf: the whole part and the rest, both with the number's sign -/
theorem Modf_E (s : Bool) (m k : Nat) (hm : m < 9007199254740992) (hk : k ≤ 1000) (w : World) :
    Calls Tryz.prog 143 #[.float .f64 (E s m k)] w fun e w' => e = .returned (.tuple #[.float .f64 (E s (m / 2 ^ k) 0), .float .f64 (E s (m % 2 ^ k) k)]) ∧ w = w' := by
  have hd := Nat.div_add_mod m (2 ^ k)
  have hmod := Nat.mod_le m (2 ^ k)
  have hs := E_shift s (m / 2 ^ k) 0 k (Nat.lt_of_le_of_lt (Nat.div_le_self _ _) hm) (by omega)
  rw [Nat.zero_add] at hs
  have hx : m / 2 ^ k * 2 ^ k = m - m % 2 ^ k := by rw [Nat.mul_comm]; omega
  have hdiff : sg s m - sg s (m / 2 ^ k * 2 ^ k) = sg s (m % 2 ^ k) := by
    rw [hx]
    have e : ((m - m % 2 ^ k : Nat) : Int) = (m : Int) - ((m % 2 ^ k : Nat) : Int) := by omega
    unfold sg
    rw [e]
    generalize ((m % 2 ^ k : Nat) : Int) = r
    cases s
    · simp only [Bool.false_eq_true, if_false]; omega
    · simp only [if_true]; omega
  have hsub := sub_E s s m (m / 2 ^ k * 2 ^ k) k hm (by omega) (by rw [hdiff, natAbs_sg]; omega) hk
  rw [hdiff, natAbs_sg, hs] at hsub
  generalize (if sg s (m % 2 ^ k) = 0 then s && !s else decide (sg s (m % 2 ^ k) < 0)) = t at hsub
  have hrun := fun wx => run_float_arith (P := Tryz.prog) wx .sub 39 .f64 (E s m k) (E s (m / 2 ^ k) 0) _ hsub
  have hm2 : m % 2 ^ k < 9007199254740992 := by omega
  clear hd hmod hs hx hdiff hsub
  go_enter Tryz.func143, Tryz.ntmps143
  go_wp2_with fail
  refine (Trunc_E s m k hm hk _).mono ?_
  rintro e w1 ⟨rfl, rfl⟩
  go_wp2_with fail
  refine (copysign_E s t (m % 2 ^ k) m k k hm2 hm hk hk _).mono ?_
  rintro e w1 ⟨rfl, rfl⟩
  go_wp2_with fail
  go_ret2
  exact ⟨rfl, rfl⟩
end Go.Proofs.YtndabbepepbnmaaGreatDoor
