import Derived.Test.YtdanlcciefbboaaGreatSpec
import Derived.Test.YtdanlcciefbboaaGreatFl
namespace Go.Proofs.YtdanlcciefbboaaGreat
open Go.RowKit
attribute [local go_sem] run_store_float

/-- a flat value of impl, and an argument of the package: the same cells -/
def iv (k : Int) (x : Nat) (t : ByteArray) : Value := .agg #[.int .i64 k, .float .f64 x, .string t, .slice none 0 0]
/-- a formulaArg without lists -/
def fa (x : Nat) (s : ByteArray) (b : Bool) (e : ByteArray) (ty : Int) : Value :=
  .agg #[.string es, .float .f64 x, .string s, .slice none 0 0, .slice none 0 0, .bool b, .string e, .int .u8 ty, .pointer none, .pointer none]

theorem info_iv : (Tryz.prog.info? 42).map (·.size) = some 4 := by kernel_rfl
theorem info_av : (Tryz.prog.info? 48).map (·.size) = some 4 := by kernel_rfl
theorem info_fa : (Tryz.prog.info? 63).map (·.size) = some 10 := by kernel_rfl

/-- a number that equals itself: no NaN -/
def fin (x : Nat) : Prop := FloatKind.f64.format.order x x = some .eq
/-- a zero loses its sign -/
def nz (x : Nat) : Nat := if FloatKind.f64.format.order x 0 = some .eq then 0 else x

theorem isnan_any (x : Nat) (w : World) (h : fin x) : Calls Tryz.prog 118 #[.float .f64 x] w fun e w' => e = .returned (.bool false) ∧ w = w' := by
  unfold fin at h
  go_enter Tryz.func118, Tryz.ntmps118
  go_wp2
  go_ret
  exact ⟨rfl, rfl⟩

theorem newNumber_any (x : Nat) (w : World) (h : fin x) : Calls Tryz.prog 48 #[.float .f64 x] w fun e w' => e = .returned (fa (nz x) es false es 1) ∧ Below w.heap.size w w' := by
  by_cases h0 : FloatKind.f64.format.order x 0 = some .eq
  · have hn : nz x = 0 := by simp [nz, h0]
    rw [hn]; clear hn
    go_enter Tryz.func48, Tryz.ntmps48
    go_wp2_with (go_at_call 118; refine (isnan_any x _ h).mono ?_; rintro e w' ⟨rfl, rfl⟩)
    exact end_cell Tryz.results48 rfl (Bk.new w _ _) Tryz.underlying63 rfl info_fa rfl ⟨rfl, (Below.refl _ _).alloc (Nat.le_refl _) _⟩
  · have hn : nz x = x := by simp [nz, h0]
    rw [hn]; clear hn
    have hb : (FloatKind.f64.format.order x 0 == some .eq) = false := by simpa using h0
    go_enter Tryz.func48, Tryz.ntmps48
    go_wp2_with (go_at_call 118; refine (isnan_any x _ h).mono ?_; rintro e w' ⟨rfl, rfl⟩)
    exact end_cell Tryz.results48 rfl (Bk.new w _ _) Tryz.underlying63 rfl info_fa rfl ⟨rfl, (Below.refl _ _).alloc (Nat.le_refl _) _⟩

theorem newString_any (s : ByteArray) (w : World) : Calls Tryz.prog 122 #[.string s] w fun e w' => e = .returned (fa 0 s false es 2) ∧ Below w.heap.size w w' := by
  go_enter Tryz.func122, Tryz.ntmps122
  go_wp2
  exact end_cell Tryz.results122 rfl (Bk.new w _ _) Tryz.underlying63 rfl info_fa rfl ⟨rfl, (Below.refl _ _).alloc (Nat.le_refl _) _⟩

def one64 : Nat := 4607182418800017408
theorem newBool_any (b : Bool) (w : World) : Calls Tryz.prog 123 #[.bool b] w fun e w' => e = .returned (fa (if b then one64 else 0) es true es 1) ∧ Below w.heap.size w w' := by
  cases b
  all_goals
    go_enter Tryz.func123, Tryz.ntmps123
    go_wp2
    exact end_cell Tryz.results123 rfl (Bk.new w _ _) Tryz.underlying63 rfl info_fa rfl ⟨rfl, (Below.refl _ _).alloc (Nat.le_refl _) _⟩

theorem newError_any (s t : ByteArray) (w : World) : Calls Tryz.prog 43 #[.string s, .string t] w fun e w' => e = .returned (fa 0 s false t 5) ∧ Below w.heap.size w w' := by
  go_enter Tryz.func43, Tryz.ntmps43
  go_wp2
  exact end_cell Tryz.results43 rfl (Bk.new w _ _) Tryz.underlying63 rfl info_fa rfl ⟨rfl, (Below.refl _ _).alloc (Nat.le_refl _) _⟩

theorem newEmpty_any (w : World) : Calls Tryz.prog 125 #[] w fun e w' => e = .returned (fa 0 es false es 6) ∧ Below w.heap.size w w' := by
  go_enter Tryz.func125, Tryz.ntmps125
  go_wp2
  exact end_cell Tryz.results125 rfl (Bk.new w _ _) Tryz.underlying63 rfl info_fa rfl ⟨rfl, (Below.refl _ _).alloc (Nat.le_refl _) _⟩

/-- the formulaArg of a flat argument -/
def fav (k : Int) (x : Nat) (t : ByteArray) : Value :=
  if k = 1 then fa (nz x) es false es 1 else if k = 2 then fa 0 t false es 2
  else if k = 3 then fa (if FloatKind.f64.format.order x 0 = some .eq then 0 else one64) es true es 1
  else if k = 4 then fa 0 t false t 5 else fa 0 es false es 6

theorem innerArg_num (x : Nat) (t : ByteArray) (w : World) (h : fin x) : Calls Tryz.prog 51 #[iv 1 x t] w fun e w' => e = .returned (fa (nz x) es false es 1) ∧ Below w.heap.size w w' := by
  unfold iv
  go_enter Tryz.func51, Tryz.ntmps51
  go_wp2_with fail
  refine (newNumber_any x _ h).mono ?_
  rintro e w1 ⟨rfl, hb⟩
  obtain ⟨hc, hf⟩ := bcell hb
  unfold fa
  go_wp2
  exact end_cell Tryz.results51 rfl (Bk.set10 (Bk.below (Bk.new_at (by simp)) hb (by simp)) _ _ _ _ _ _ _ _ _ _) Tryz.underlying63 rfl info_fa rfl
    ⟨rfl, Below.set10 (Below.lift (((Below.refl _ _).alloc (Nat.le_refl _) _).alloc (by simp) _) (by simp; omega) hb) (by simp) _ _ _ _ _ _ _ _ _ _⟩

theorem innerArg_str (x : Nat) (t : ByteArray) (w : World) : Calls Tryz.prog 51 #[iv 2 x t] w fun e w' => e = .returned (fa 0 t false es 2) ∧ Below w.heap.size w w' := by
  unfold iv
  go_enter Tryz.func51, Tryz.ntmps51
  go_wp2_with fail
  refine (newString_any t _).mono ?_
  rintro e w1 ⟨rfl, hb⟩
  obtain ⟨hc, hf⟩ := bcell hb
  unfold fa
  go_wp2
  exact end_cell Tryz.results51 rfl (Bk.set10 (Bk.below (Bk.new_at (by simp)) hb (by simp)) _ _ _ _ _ _ _ _ _ _) Tryz.underlying63 rfl info_fa rfl
    ⟨rfl, Below.set10 (Below.lift (((Below.refl _ _).alloc (Nat.le_refl _) _).alloc (by simp) _) (by simp; omega) hb) (by simp) _ _ _ _ _ _ _ _ _ _⟩

theorem innerArg_true (x : Nat) (t : ByteArray) (w : World) (h : FloatKind.f64.format.order x 0 ≠ some .eq) : Calls Tryz.prog 51 #[iv 3 x t] w fun e w' => e = .returned (fa one64 es true es 1) ∧ Below w.heap.size w w' := by
  have h0 : (FloatKind.f64.format.order x 0 != some .eq) = true := by simpa using h
  unfold iv
  go_enter Tryz.func51, Tryz.ntmps51
  go_wp2_with fail
  refine (newBool_any true _).mono ?_
  rintro e w1 ⟨rfl, hb⟩
  obtain ⟨hc, hf⟩ := bcell hb
  simp only [if_true]
  unfold fa
  go_wp2
  exact end_cell Tryz.results51 rfl (Bk.set10 (Bk.below (Bk.new_at (by simp)) hb (by simp)) _ _ _ _ _ _ _ _ _ _) Tryz.underlying63 rfl info_fa rfl
    ⟨rfl, Below.set10 (Below.lift (((Below.refl _ _).alloc (Nat.le_refl _) _).alloc (by simp) _) (by simp; omega) hb) (by simp) _ _ _ _ _ _ _ _ _ _⟩

theorem innerArg_false (x : Nat) (t : ByteArray) (w : World) (h : FloatKind.f64.format.order x 0 = some .eq) : Calls Tryz.prog 51 #[iv 3 x t] w fun e w' => e = .returned (fa 0 es true es 1) ∧ Below w.heap.size w w' := by
  have h0 : (FloatKind.f64.format.order x 0 != some .eq) = false := by simp [h]
  clear h
  unfold iv
  go_enter Tryz.func51, Tryz.ntmps51
  go_wp2_with fail
  refine (newBool_any false _).mono ?_
  rintro e w1 ⟨rfl, hb⟩
  obtain ⟨hc, hf⟩ := bcell hb
  simp only [Bool.false_eq_true, if_false]
  unfold fa
  go_wp2
  exact end_cell Tryz.results51 rfl (Bk.set10 (Bk.below (Bk.new_at (by simp)) hb (by simp)) _ _ _ _ _ _ _ _ _ _) Tryz.underlying63 rfl info_fa rfl
    ⟨rfl, Below.set10 (Below.lift (((Below.refl _ _).alloc (Nat.le_refl _) _).alloc (by simp) _) (by simp; omega) hb) (by simp) _ _ _ _ _ _ _ _ _ _⟩

theorem innerArg_err (x : Nat) (t : ByteArray) (w : World) : Calls Tryz.prog 51 #[iv 4 x t] w fun e w' => e = .returned (fa 0 t false t 5) ∧ Below w.heap.size w w' := by
  unfold iv
  go_enter Tryz.func51, Tryz.ntmps51
  go_wp2_with fail
  refine (newError_any t t _).mono ?_
  rintro e w1 ⟨rfl, hb⟩
  obtain ⟨hc, hf⟩ := bcell hb
  unfold fa
  go_wp2
  exact end_cell Tryz.results51 rfl (Bk.set10 (Bk.below (Bk.new_at (by simp)) hb (by simp)) _ _ _ _ _ _ _ _ _ _) Tryz.underlying63 rfl info_fa rfl
    ⟨rfl, Below.set10 (Below.lift (((Below.refl _ _).alloc (Nat.le_refl _) _).alloc (by simp) _) (by simp; omega) hb) (by simp) _ _ _ _ _ _ _ _ _ _⟩

theorem innerArg_none (k : Int) (x : Nat) (t : ByteArray) (w : World) (h1 : (k == 1) = false) (h2 : (k == 2) = false) (h3 : (k == 3) = false) (h4 : (k == 4) = false) (h5 : (k == 5) = false) : Calls Tryz.prog 51 #[iv k x t] w fun e w' => e = .returned (fa 0 es false es 6) ∧ Below w.heap.size w w' := by
  unfold iv
  go_enter Tryz.func51, Tryz.ntmps51
  go_wp2_with fail
  refine (newEmpty_any _).mono ?_
  rintro e w1 ⟨rfl, hb⟩
  obtain ⟨hc, hf⟩ := bcell hb
  unfold fa
  go_wp2
  exact end_cell Tryz.results51 rfl (Bk.set10 (Bk.below (Bk.new_at (by simp)) hb (by simp)) _ _ _ _ _ _ _ _ _ _) Tryz.underlying63 rfl info_fa rfl
    ⟨rfl, Below.set10 (Below.lift (((Below.refl _ _).alloc (Nat.le_refl _) _).alloc (by simp) _) (by simp; omega) hb) (by simp) _ _ _ _ _ _ _ _ _ _⟩

theorem innerArg_any (k : Int) (x : Nat) (t : ByteArray) (w : World) (h1 : k = 1 → fin x) (h5 : k ≠ 5) : Calls Tryz.prog 51 #[iv k x t] w fun e w' => e = .returned (fav k x t) ∧ Below w.heap.size w w' := by
  unfold fav
  by_cases k1 : k = 1
  · subst k1; exact innerArg_num x t w (h1 rfl)
  by_cases k2 : k = 2
  · subst k2; exact innerArg_str x t w
  by_cases k3 : k = 3
  · subst k3
    by_cases h : FloatKind.f64.format.order x 0 = some .eq
    · simpa [h] using innerArg_false x t w h
    · simpa [h] using innerArg_true x t w h
  by_cases k4 : k = 4
  · subst k4; exact innerArg_err x t w
  · simp only [k1, k2, k3, k4, if_false]
    exact innerArg_none k x t w (by simpa using k1) (by simpa using k2) (by simpa using k3) (by simpa using k4) (by simpa using h5)
end Go.Proofs.YtdanlcciefbboaaGreat
