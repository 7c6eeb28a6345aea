import Derived.Test.YtdanlcciefbboaaGreatArg
namespace Go.Proofs.YtdanlcciefbboaaGreat
open Go.RowKit
attribute [local go_sem] run_store_float

theorem doorArg_bool (x : Nat) (s e : ByteArray) (w : World) : Calls Tryz.prog 22 #[fa x s true e 1] w fun r w' => r = .returned (iv 3 x es) ∧ Below w.heap.size w w' := by
  unfold fa
  go_enter Tryz.func22, Tryz.ntmps22
  go_wp2
  exact end_cell Tryz.results22 rfl (Bk.new_at (by simp)) Tryz.underlying48 rfl info_av rfl ⟨rfl, ((Below.refl _ _).alloc (Nat.le_refl _) _).alloc (by simp) _⟩
theorem doorArg_num (x : Nat) (s e : ByteArray) (w : World) : Calls Tryz.prog 22 #[fa x s false e 1] w fun r w' => r = .returned (iv 1 x es) ∧ Below w.heap.size w w' := by
  unfold fa
  go_enter Tryz.func22, Tryz.ntmps22
  go_wp2
  exact end_cell Tryz.results22 rfl (Bk.new_at (by simp)) Tryz.underlying48 rfl info_av rfl ⟨rfl, ((Below.refl _ _).alloc (Nat.le_refl _) _).alloc (by simp) _⟩
theorem doorArg_str (x : Nat) (s e : ByteArray) (b : Bool) (w : World) : Calls Tryz.prog 22 #[fa x s b e 2] w fun r w' => r = .returned (iv 2 0 s) ∧ Below w.heap.size w w' := by
  unfold fa
  go_enter Tryz.func22, Tryz.ntmps22
  go_wp2
  exact end_cell Tryz.results22 rfl (Bk.new_at (by simp)) Tryz.underlying48 rfl info_av rfl ⟨rfl, ((Below.refl _ _).alloc (Nat.le_refl _) _).alloc (by simp) _⟩
theorem doorArg_err (x : Nat) (s e : ByteArray) (b : Bool) (w : World) : Calls Tryz.prog 22 #[fa x s b e 5] w fun r w' => r = .returned (iv 4 0 s) ∧ Below w.heap.size w w' := by
  unfold fa
  go_enter Tryz.func22, Tryz.ntmps22
  go_wp2
  exact end_cell Tryz.results22 rfl (Bk.new_at (by simp)) Tryz.underlying48 rfl info_av rfl ⟨rfl, ((Below.refl _ _).alloc (Nat.le_refl _) _).alloc (by simp) _⟩
theorem doorArg_none (x : Nat) (s e : ByteArray) (b : Bool) (w : World) : Calls Tryz.prog 22 #[fa x s b e 6] w fun r w' => r = .returned (iv 0 0 es) ∧ Below w.heap.size w w' := by
  unfold fa
  go_enter Tryz.func22, Tryz.ntmps22
  go_wp2
  exact end_cell Tryz.results22 rfl (Bk.new_at (by simp)) Tryz.underlying48 rfl info_av rfl ⟨rfl, ((Below.refl _ _).alloc (Nat.le_refl _) _).alloc (by simp) _⟩

theorem out_any (k : Int) (x : Nat) (t : ByteArray) (w : World) : Calls Tryz.prog 14 #[iv k x t] w fun r w' => r = .returned (iv k x t) ∧ Below w.heap.size w w' := by
  unfold iv
  go_enter Tryz.func14, Tryz.ntmps14
  go_wp2_with fail
  go_loop [19] (fun i => i = .int .i64 0) (fun _ => 0)
  case atStart => rfl
  case round =>
    obtain rfl := hrel
    go_wp2
    exact end_cell Tryz.results14 rfl (Bk.alloc (Bk.new_at (by simp)) _) Tryz.underlying42 rfl info_iv rfl ⟨rfl, (((Below.refl _ _).alloc (Nat.le_refl _) _).alloc (by simp) _).alloc (by simp; omega) _⟩
end Go.Proofs.YtdanlcciefbboaaGreat
