import Derived.Test.YtdanlcciefbboaaGreatInV
import Derived.Test.YtdanlcciefbboaaGreatOut
namespace Go.Proofs.YtdanlcciefbboaaGreat
open Go.RowKit
attribute [local go_sem] run_store_float

/-- what a function answers: a number, a truth (as a float), a text, an error -/
inductive Res where
  | num (x : Nat)
  | log (x : Nat)
  | str (s : ByteArray)
  | err (s t : ByteArray)
  | empty
def Res.fa : Res → Value
  | .num x => YtdanlcciefbboaaGreat.fa x es false es 1
  | .log x => YtdanlcciefbboaaGreat.fa x es true es 1
  | .str s => YtdanlcciefbboaaGreat.fa 0 s false es 2
  | .err s t => YtdanlcciefbboaaGreat.fa 0 s false t 5
  | .empty => YtdanlcciefbboaaGreat.fa 0 es false es 6
def Res.av : Res → AV
  | .num x => (1, x, es)
  | .log x => (3, x, es)
  | .str s => (2, 0, s)
  | .err s _ => (4, 0, s)
  | .empty => (0, 0, es)
def avV (a : AV) : Value := iv a.1 a.2.1 a.2.2
theorem doorArg_any (r : Res) (w : World) : Calls Tryz.prog 22 #[r.fa] w fun e w' => e = .returned (avV r.av) ∧ Below w.heap.size w w' := by
  cases r with
  | num x => exact doorArg_num x es es w
  | log x => exact doorArg_bool x es es w
  | str s => exact doorArg_str 0 s es false w
  | err s t => exact doorArg_err 0 s t false w
  | empty => exact doorArg_none 0 es es false w

/-- the function number f, called on a list of the arguments l, answers r and makes new memory alone -/
def Fn (f : FuncId) (l : List AV) (r : Res) : Prop :=
  ∀ (w : World) (g L : Nat) (el : List Nat), IsL w L el (l.map avI) → Calls Tryz.prog f #[ptr g, ptr L] w fun e w' => e = .returned r.fa ∧ Below w.heap.size w w'

theorem door_MODE (l : List AV) (r : Res) (hF : Fn 24 l r) (v : Value) (w : World) (h : Sl w w.heap.size 4 v l.length (l.flatMap avCells)) (hok : ∀ a ∈ l, avOk a) (hlen : l.length ≤ 1000) :
    Calls Tryz.prog 15 #[v] w fun e w' => e = .returned (avV r.av) ∧ Below w.heap.size w w' := by
  obtain ⟨A, c, rfl, hl, hc⟩ := h
  have HF := hid hF
  have Hok := hid hok
  clear hF hok
  go_enter Tryz.func15, Tryz.ntmps15
  go_wp2_with fail
  refine (doorFuncs_any _).mono ?_
  rintro e w1 ⟨g, rfl, hb1⟩
  have HL := hid hl
  have HC := hid hc
  clear hl hc
  go_wp2_with fail
  have hs1 : Sl w1 w1.heap.size 4 (.slice A l.length c) l.length (l.flatMap avCells) := Sl.more (Sl.keep (B := w.heap.size) ⟨A, c, rfl, HL.out, HC.out⟩ ((Below.refl w.heap.size w).alloc (Nat.le_refl _) _ |>.trans (hb1.mono (by simp)))) (by have := hb1.size; simp at this; omega)
  refine (innerList_any l _ w1 hs1 Hok.out hlen).mono ?_
  rintro e w2 ⟨el, rfl, hL, hb2⟩
  clear hs1
  go_wp2_with fail
  refine (HF.out w2 g _ el hL).mono ?_
  rintro e w3 ⟨rfl, hb3⟩
  clear hL
  go_wp2_with fail
  refine (doorArg_any r w3).mono ?_
  rintro e w4 ⟨rfl, hb4⟩
  have hz1 : w.heap.size + 1 ≤ w1.heap.size := by have := hb1.size; simpa using this
  have hz2 := hb2.size
  have hz3 := hb3.size
  have hb : Below (w.alloc (.cells #[.int .i64 0, .float .f64 0, .string ⟨#[]⟩, .slice none 0 0] 48)).heap.size (w.alloc (.cells #[.int .i64 0, .float .f64 0, .string ⟨#[]⟩, .slice none 0 0] 48)) w4 :=
    ((hb1.trans (hb2.mono (by simp; omega))).trans (hb3.mono (by simp; omega))).trans (hb4.mono (by simp; omega))
  clear hb1 hb2 hb3 hb4
  obtain ⟨hcl, hfr⟩ := bcell hb
  unfold avV iv
  go_wp2
  exact end_cell Tryz.results15 rfl (Bk.set4 (Bk.below (Bk.new_at rfl) hb (by simp)) _ _ _ _) Tryz.underlying48 rfl info_av rfl
    ⟨rfl, Below.set4 (Below.lift ((Below.refl _ _).alloc (Nat.le_refl _) _) (by simp) hb) (Nat.le_refl _) _ _ _ _⟩
end Go.Proofs.YtdanlcciefbboaaGreat
namespace Go.Proofs.YtdanlcciefbboaaGreat
open Go.RowKit
attribute [local go_sem] run_store_float

theorem outV_any (a : AV) (w : World) : Calls Tryz.prog 14 #[avV a] w fun r w' => r = .returned (avV a) ∧ Below w.heap.size w w' := out_any a.1 a.2.1 a.2.2 w

theorem impl_MODE (l : List AV) (r : Res) (hF : Fn 24 l r) (v : Value) (w : World) (h : Sl w w.heap.size 4 v l.length (l.flatMap avCells)) (hok : ∀ a ∈ l, avOk a) (hlen : l.length ≤ 1000) :
    Calls Tryz.prog 6 #[v] w fun e w' => e = .returned (avV r.av) ∧ Below w.heap.size w w' := by
  obtain ⟨A, c, rfl, hl, hc⟩ := h
  have HF := hid hF
  have Hok := hid hok
  have HL := hid hl
  have HC := hid hc
  clear hF hok hl hc
  go_enter Tryz.func6, Tryz.ntmps6
  go_wp2_with fail
  have hs0 : Sl (w.alloc (.cells #[.int .i64 0, .float .f64 0, .string ⟨#[]⟩, .slice none 0 0] 42)) (w.heap.size + 1) 4 (.slice A l.length c) l.length (l.flatMap avCells) := Sl.more (Sl.keep (B := w.heap.size) ⟨A, c, rfl, HL.out, HC.out⟩ ((Below.refl w.heap.size w).alloc (Nat.le_refl _) _)) (by omega)
  refine (in_any l _ _ (by simpa using hs0) hlen).mono ?_
  rintro e w1 ⟨v1, rfl, hs1, hb1⟩
  clear hs0
  go_wp2_with fail
  refine (door_MODE l r HF.out v1 w1 hs1 Hok.out hlen).mono ?_
  rintro e w2 ⟨rfl, hb2⟩
  clear hs1
  go_wp2_with fail
  refine (outV_any r.av w2).mono ?_
  rintro e w3 ⟨rfl, hb3⟩
  have hz1 : w.heap.size + 1 ≤ w1.heap.size := by have := hb1.size; simpa using this
  have hz2 := hb2.size
  have hb : Below (w.alloc (.cells #[.int .i64 0, .float .f64 0, .string ⟨#[]⟩, .slice none 0 0] 42)).heap.size (w.alloc (.cells #[.int .i64 0, .float .f64 0, .string ⟨#[]⟩, .slice none 0 0] 42)) w3 :=
    (hb1.trans (hb2.mono (by simp; omega))).trans (hb3.mono (by simp; omega))
  clear hb1 hb2 hb3
  obtain ⟨hcl, hfr⟩ := bcell hb
  unfold avV iv
  go_wp2
  exact end_cell Tryz.results6 rfl (Bk.set4 (Bk.below (Bk.new_at rfl) hb (by simp)) _ _ _ _) Tryz.underlying42 rfl info_iv rfl
    ⟨rfl, Below.set4 (Below.lift ((Below.refl _ _).alloc (Nat.le_refl _) _) (by simp) hb) (Nat.le_refl _) _ _ _ _⟩
end Go.Proofs.YtdanlcciefbboaaGreat
