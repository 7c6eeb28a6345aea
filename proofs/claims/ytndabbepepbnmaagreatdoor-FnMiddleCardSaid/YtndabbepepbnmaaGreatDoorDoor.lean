import Derived.Test.YtndabbepepbnmaaGreatDoorInV
import Derived.Test.YtndabbepepbnmaaGreatDoorOut
namespace Go.Proofs.YtndabbepepbnmaaGreatDoor
open Go.RowKit
attribute [local go_sem] run_store_float

/-- what a function answers: a number, a truth (as a float), a text, an error -/
inductive Res where
  | num (x : Nat)
  | log (x : Nat)
  | str (s : ByteArray)
  | err (s t : ByteArray)
  | empty
def Res.fa : Res → Value
  | .num x => YtndabbepepbnmaaGreatDoor.fa x es false es 1
  | .log x => YtndabbepepbnmaaGreatDoor.fa x es true es 1
  | .str s => YtndabbepepbnmaaGreatDoor.fa 0 s false es 2
  | .err s t => YtndabbepepbnmaaGreatDoor.fa 0 s false t 5
  | .empty => YtndabbepepbnmaaGreatDoor.fa 0 es false es 6
def Res.av : Res → AV
  | .num x => (1, x, es)
  | .log x => (3, x, es)
  | .str s => (2, 0, s)
  | .err s _ => (4, 0, s)
  | .empty => (0, 0, es)
def avV (a : AV) : Value := iv a.1 a.2.1 a.2.2
theorem doorArg_any (r : Res) (w : World) : Calls Tryz.prog 99 #[r.fa] w fun e w' => e = .returned (avV r.av) ∧ Below w.heap.size w w' := by
  cases r with
  | num x => exact doorArg_num x es es w
  | log x => exact doorArg_bool x es es w
  | str s => exact doorArg_str 0 s es false w
  | err s t => exact doorArg_err 0 s t false w
  | empty => exact doorArg_none 0 es es false w

/-- the function number f, called on a list of the arguments l, answers r and makes new memory alone -/
def Fn (f : FuncId) (l : List AV) (r : Res) : Prop :=
  ∀ (w : World) (g L : Nat) (el : List Nat), IsL w L el (l.map avI) → Calls Tryz.prog f #[ptr g, ptr L] w fun e w' => e = .returned r.fa ∧ Below w.heap.size w w'

theorem door_NOT (l : List AV) (r : Res) (hF : Fn 120 l r) (v : Value) (w : World) (h : Sl w w.heap.size 4 v l.length (l.flatMap avCells)) (hok : ∀ a ∈ l, avOk a) (hlen : l.length ≤ 1000) :
    Calls Tryz.prog 89 #[v] w fun e w' => e = .returned (avV r.av) ∧ Below w.heap.size w w' := by
  obtain ⟨A, c, rfl, hl, hc⟩ := h
  have HF := hid hF
  have Hok := hid hok
  clear hF hok
  go_enter Tryz.func89, Tryz.ntmps89
  go_wp2_with fail
  refine (doorFuncs_any _).mono ?_
  rintro e w1 ⟨g, rfl, hb1⟩
  have HL := hid hl
  have HC := hid hc
  clear hl hc
  go_wp2_with fail
  have hs1 : Sl w1 w1.heap.size 4 (.slice A l.length c) l.length (l.flatMap avCells) := Sl.more (Sl.keep (B := w.heap.size) ⟨A, c, rfl, HL.out, HC.out⟩ ((Below.refl w.heap.size w).alloc (Nat.le_refl _) _ |>.trans (hb1.mono (by simp)))) (by have := hb1.size; simp at this; omega)
  refine (innerList_any l _ w1 hs1 Hok.out hlen).mono ?_
  rintro e w2 ⟨el, rfl, hL, hb2⟩
  clear hs1
  go_wp2_with fail
  refine (HF.out w2 g _ el hL).mono ?_
  rintro e w3 ⟨rfl, hb3⟩
  clear hL
  go_wp2_with fail
  refine (doorArg_any r w3).mono ?_
  rintro e w4 ⟨rfl, hb4⟩
  have hz1 : w.heap.size + 1 ≤ w1.heap.size := by have := hb1.size; simpa using this
  have hz2 := hb2.size
  have hz3 := hb3.size
  have hb : Below (w.alloc (.cells #[.int .i64 0, .float .f64 0, .string ⟨#[]⟩, .slice none 0 0] 64)).heap.size (w.alloc (.cells #[.int .i64 0, .float .f64 0, .string ⟨#[]⟩, .slice none 0 0] 64)) w4 :=
    ((hb1.trans (hb2.mono (by simp; omega))).trans (hb3.mono (by simp; omega))).trans (hb4.mono (by simp; omega))
  clear hb1 hb2 hb3 hb4
  obtain ⟨hcl, hfr⟩ := bcell hb
  unfold avV iv
  go_wp2
  exact end_cell Tryz.results89 rfl (Bk.set4 (Bk.below (Bk.new_at rfl) hb (by simp)) _ _ _ _) Tryz.underlying64 rfl info_av rfl
    ⟨rfl, Below.set4 (Below.lift ((Below.refl _ _).alloc (Nat.le_refl _) _) (by simp) hb) (Nat.le_refl _) _ _ _ _⟩
theorem door_FACT (l : List AV) (r : Res) (hF : Fn 101 l r) (v : Value) (w : World) (h : Sl w w.heap.size 4 v l.length (l.flatMap avCells)) (hok : ∀ a ∈ l, avOk a) (hlen : l.length ≤ 1000) :
    Calls Tryz.prog 68 #[v] w fun e w' => e = .returned (avV r.av) ∧ Below w.heap.size w w' := by
  obtain ⟨A, c, rfl, hl, hc⟩ := h
  have HF := hid hF
  have Hok := hid hok
  clear hF hok
  go_enter Tryz.func68, Tryz.ntmps68
  go_wp2_with fail
  refine (doorFuncs_any _).mono ?_
  rintro e w1 ⟨g, rfl, hb1⟩
  have HL := hid hl
  have HC := hid hc
  clear hl hc
  go_wp2_with fail
  have hs1 : Sl w1 w1.heap.size 4 (.slice A l.length c) l.length (l.flatMap avCells) := Sl.more (Sl.keep (B := w.heap.size) ⟨A, c, rfl, HL.out, HC.out⟩ ((Below.refl w.heap.size w).alloc (Nat.le_refl _) _ |>.trans (hb1.mono (by simp)))) (by have := hb1.size; simp at this; omega)
  refine (innerList_any l _ w1 hs1 Hok.out hlen).mono ?_
  rintro e w2 ⟨el, rfl, hL, hb2⟩
  clear hs1
  go_wp2_with fail
  refine (HF.out w2 g _ el hL).mono ?_
  rintro e w3 ⟨rfl, hb3⟩
  clear hL
  go_wp2_with fail
  refine (doorArg_any r w3).mono ?_
  rintro e w4 ⟨rfl, hb4⟩
  have hz1 : w.heap.size + 1 ≤ w1.heap.size := by have := hb1.size; simpa using this
  have hz2 := hb2.size
  have hz3 := hb3.size
  have hb : Below (w.alloc (.cells #[.int .i64 0, .float .f64 0, .string ⟨#[]⟩, .slice none 0 0] 64)).heap.size (w.alloc (.cells #[.int .i64 0, .float .f64 0, .string ⟨#[]⟩, .slice none 0 0] 64)) w4 :=
    ((hb1.trans (hb2.mono (by simp; omega))).trans (hb3.mono (by simp; omega))).trans (hb4.mono (by simp; omega))
  clear hb1 hb2 hb3 hb4
  obtain ⟨hcl, hfr⟩ := bcell hb
  unfold avV iv
  go_wp2
  exact end_cell Tryz.results68 rfl (Bk.set4 (Bk.below (Bk.new_at rfl) hb (by simp)) _ _ _ _) Tryz.underlying64 rfl info_av rfl
    ⟨rfl, Below.set4 (Below.lift ((Below.refl _ _).alloc (Nat.le_refl _) _) (by simp) hb) (Nat.le_refl _) _ _ _ _⟩
theorem door_XOR (l : List AV) (r : Res) (hF : Fn 103 l r) (v : Value) (w : World) (h : Sl w w.heap.size 4 v l.length (l.flatMap avCells)) (hok : ∀ a ∈ l, avOk a) (hlen : l.length ≤ 1000) :
    Calls Tryz.prog 70 #[v] w fun e w' => e = .returned (avV r.av) ∧ Below w.heap.size w w' := by
  obtain ⟨A, c, rfl, hl, hc⟩ := h
  have HF := hid hF
  have Hok := hid hok
  clear hF hok
  go_enter Tryz.func70, Tryz.ntmps70
  go_wp2_with fail
  refine (doorFuncs_any _).mono ?_
  rintro e w1 ⟨g, rfl, hb1⟩
  have HL := hid hl
  have HC := hid hc
  clear hl hc
  go_wp2_with fail
  have hs1 : Sl w1 w1.heap.size 4 (.slice A l.length c) l.length (l.flatMap avCells) := Sl.more (Sl.keep (B := w.heap.size) ⟨A, c, rfl, HL.out, HC.out⟩ ((Below.refl w.heap.size w).alloc (Nat.le_refl _) _ |>.trans (hb1.mono (by simp)))) (by have := hb1.size; simp at this; omega)
  refine (innerList_any l _ w1 hs1 Hok.out hlen).mono ?_
  rintro e w2 ⟨el, rfl, hL, hb2⟩
  clear hs1
  go_wp2_with fail
  refine (HF.out w2 g _ el hL).mono ?_
  rintro e w3 ⟨rfl, hb3⟩
  clear hL
  go_wp2_with fail
  refine (doorArg_any r w3).mono ?_
  rintro e w4 ⟨rfl, hb4⟩
  have hz1 : w.heap.size + 1 ≤ w1.heap.size := by have := hb1.size; simpa using this
  have hz2 := hb2.size
  have hz3 := hb3.size
  have hb : Below (w.alloc (.cells #[.int .i64 0, .float .f64 0, .string ⟨#[]⟩, .slice none 0 0] 64)).heap.size (w.alloc (.cells #[.int .i64 0, .float .f64 0, .string ⟨#[]⟩, .slice none 0 0] 64)) w4 :=
    ((hb1.trans (hb2.mono (by simp; omega))).trans (hb3.mono (by simp; omega))).trans (hb4.mono (by simp; omega))
  clear hb1 hb2 hb3 hb4
  obtain ⟨hcl, hfr⟩ := bcell hb
  unfold avV iv
  go_wp2
  exact end_cell Tryz.results70 rfl (Bk.set4 (Bk.below (Bk.new_at rfl) hb (by simp)) _ _ _ _) Tryz.underlying64 rfl info_av rfl
    ⟨rfl, Below.set4 (Below.lift ((Below.refl _ _).alloc (Nat.le_refl _) _) (by simp) hb) (Nat.le_refl _) _ _ _ _⟩
theorem door_BITAND (l : List AV) (r : Res) (hF : Fn 104 l r) (v : Value) (w : World) (h : Sl w w.heap.size 4 v l.length (l.flatMap avCells)) (hok : ∀ a ∈ l, avOk a) (hlen : l.length ≤ 1000) :
    Calls Tryz.prog 71 #[v] w fun e w' => e = .returned (avV r.av) ∧ Below w.heap.size w w' := by
  obtain ⟨A, c, rfl, hl, hc⟩ := h
  have HF := hid hF
  have Hok := hid hok
  clear hF hok
  go_enter Tryz.func71, Tryz.ntmps71
  go_wp2_with fail
  refine (doorFuncs_any _).mono ?_
  rintro e w1 ⟨g, rfl, hb1⟩
  have HL := hid hl
  have HC := hid hc
  clear hl hc
  go_wp2_with fail
  have hs1 : Sl w1 w1.heap.size 4 (.slice A l.length c) l.length (l.flatMap avCells) := Sl.more (Sl.keep (B := w.heap.size) ⟨A, c, rfl, HL.out, HC.out⟩ ((Below.refl w.heap.size w).alloc (Nat.le_refl _) _ |>.trans (hb1.mono (by simp)))) (by have := hb1.size; simp at this; omega)
  refine (innerList_any l _ w1 hs1 Hok.out hlen).mono ?_
  rintro e w2 ⟨el, rfl, hL, hb2⟩
  clear hs1
  go_wp2_with fail
  refine (HF.out w2 g _ el hL).mono ?_
  rintro e w3 ⟨rfl, hb3⟩
  clear hL
  go_wp2_with fail
  refine (doorArg_any r w3).mono ?_
  rintro e w4 ⟨rfl, hb4⟩
  have hz1 : w.heap.size + 1 ≤ w1.heap.size := by have := hb1.size; simpa using this
  have hz2 := hb2.size
  have hz3 := hb3.size
  have hb : Below (w.alloc (.cells #[.int .i64 0, .float .f64 0, .string ⟨#[]⟩, .slice none 0 0] 64)).heap.size (w.alloc (.cells #[.int .i64 0, .float .f64 0, .string ⟨#[]⟩, .slice none 0 0] 64)) w4 :=
    ((hb1.trans (hb2.mono (by simp; omega))).trans (hb3.mono (by simp; omega))).trans (hb4.mono (by simp; omega))
  clear hb1 hb2 hb3 hb4
  obtain ⟨hcl, hfr⟩ := bcell hb
  unfold avV iv
  go_wp2
  exact end_cell Tryz.results71 rfl (Bk.set4 (Bk.below (Bk.new_at rfl) hb (by simp)) _ _ _ _) Tryz.underlying64 rfl info_av rfl
    ⟨rfl, Below.set4 (Below.lift ((Below.refl _ _).alloc (Nat.le_refl _) _) (by simp) hb) (Nat.le_refl _) _ _ _ _⟩
theorem door_BITOR (l : List AV) (r : Res) (hF : Fn 105 l r) (v : Value) (w : World) (h : Sl w w.heap.size 4 v l.length (l.flatMap avCells)) (hok : ∀ a ∈ l, avOk a) (hlen : l.length ≤ 1000) :
    Calls Tryz.prog 72 #[v] w fun e w' => e = .returned (avV r.av) ∧ Below w.heap.size w w' := by
  obtain ⟨A, c, rfl, hl, hc⟩ := h
  have HF := hid hF
  have Hok := hid hok
  clear hF hok
  go_enter Tryz.func72, Tryz.ntmps72
  go_wp2_with fail
  refine (doorFuncs_any _).mono ?_
  rintro e w1 ⟨g, rfl, hb1⟩
  have HL := hid hl
  have HC := hid hc
  clear hl hc
  go_wp2_with fail
  have hs1 : Sl w1 w1.heap.size 4 (.slice A l.length c) l.length (l.flatMap avCells) := Sl.more (Sl.keep (B := w.heap.size) ⟨A, c, rfl, HL.out, HC.out⟩ ((Below.refl w.heap.size w).alloc (Nat.le_refl _) _ |>.trans (hb1.mono (by simp)))) (by have := hb1.size; simp at this; omega)
  refine (innerList_any l _ w1 hs1 Hok.out hlen).mono ?_
  rintro e w2 ⟨el, rfl, hL, hb2⟩
  clear hs1
  go_wp2_with fail
  refine (HF.out w2 g _ el hL).mono ?_
  rintro e w3 ⟨rfl, hb3⟩
  clear hL
  go_wp2_with fail
  refine (doorArg_any r w3).mono ?_
  rintro e w4 ⟨rfl, hb4⟩
  have hz1 : w.heap.size + 1 ≤ w1.heap.size := by have := hb1.size; simpa using this
  have hz2 := hb2.size
  have hz3 := hb3.size
  have hb : Below (w.alloc (.cells #[.int .i64 0, .float .f64 0, .string ⟨#[]⟩, .slice none 0 0] 64)).heap.size (w.alloc (.cells #[.int .i64 0, .float .f64 0, .string ⟨#[]⟩, .slice none 0 0] 64)) w4 :=
    ((hb1.trans (hb2.mono (by simp; omega))).trans (hb3.mono (by simp; omega))).trans (hb4.mono (by simp; omega))
  clear hb1 hb2 hb3 hb4
  obtain ⟨hcl, hfr⟩ := bcell hb
  unfold avV iv
  go_wp2
  exact end_cell Tryz.results72 rfl (Bk.set4 (Bk.below (Bk.new_at rfl) hb (by simp)) _ _ _ _) Tryz.underlying64 rfl info_av rfl
    ⟨rfl, Below.set4 (Below.lift ((Below.refl _ _).alloc (Nat.le_refl _) _) (by simp) hb) (Nat.le_refl _) _ _ _ _⟩
theorem door_BITXOR (l : List AV) (r : Res) (hF : Fn 106 l r) (v : Value) (w : World) (h : Sl w w.heap.size 4 v l.length (l.flatMap avCells)) (hok : ∀ a ∈ l, avOk a) (hlen : l.length ≤ 1000) :
    Calls Tryz.prog 73 #[v] w fun e w' => e = .returned (avV r.av) ∧ Below w.heap.size w w' := by
  obtain ⟨A, c, rfl, hl, hc⟩ := h
  have HF := hid hF
  have Hok := hid hok
  clear hF hok
  go_enter Tryz.func73, Tryz.ntmps73
  go_wp2_with fail
  refine (doorFuncs_any _).mono ?_
  rintro e w1 ⟨g, rfl, hb1⟩
  have HL := hid hl
  have HC := hid hc
  clear hl hc
  go_wp2_with fail
  have hs1 : Sl w1 w1.heap.size 4 (.slice A l.length c) l.length (l.flatMap avCells) := Sl.more (Sl.keep (B := w.heap.size) ⟨A, c, rfl, HL.out, HC.out⟩ ((Below.refl w.heap.size w).alloc (Nat.le_refl _) _ |>.trans (hb1.mono (by simp)))) (by have := hb1.size; simp at this; omega)
  refine (innerList_any l _ w1 hs1 Hok.out hlen).mono ?_
  rintro e w2 ⟨el, rfl, hL, hb2⟩
  clear hs1
  go_wp2_with fail
  refine (HF.out w2 g _ el hL).mono ?_
  rintro e w3 ⟨rfl, hb3⟩
  clear hL
  go_wp2_with fail
  refine (doorArg_any r w3).mono ?_
  rintro e w4 ⟨rfl, hb4⟩
  have hz1 : w.heap.size + 1 ≤ w1.heap.size := by have := hb1.size; simpa using this
  have hz2 := hb2.size
  have hz3 := hb3.size
  have hb : Below (w.alloc (.cells #[.int .i64 0, .float .f64 0, .string ⟨#[]⟩, .slice none 0 0] 64)).heap.size (w.alloc (.cells #[.int .i64 0, .float .f64 0, .string ⟨#[]⟩, .slice none 0 0] 64)) w4 :=
    ((hb1.trans (hb2.mono (by simp; omega))).trans (hb3.mono (by simp; omega))).trans (hb4.mono (by simp; omega))
  clear hb1 hb2 hb3 hb4
  obtain ⟨hcl, hfr⟩ := bcell hb
  unfold avV iv
  go_wp2
  exact end_cell Tryz.results73 rfl (Bk.set4 (Bk.below (Bk.new_at rfl) hb (by simp)) _ _ _ _) Tryz.underlying64 rfl info_av rfl
    ⟨rfl, Below.set4 (Below.lift ((Below.refl _ _).alloc (Nat.le_refl _) _) (by simp) hb) (Nat.le_refl _) _ _ _ _⟩
theorem door_MOD (l : List AV) (r : Res) (hF : Fn 107 l r) (v : Value) (w : World) (h : Sl w w.heap.size 4 v l.length (l.flatMap avCells)) (hok : ∀ a ∈ l, avOk a) (hlen : l.length ≤ 1000) :
    Calls Tryz.prog 74 #[v] w fun e w' => e = .returned (avV r.av) ∧ Below w.heap.size w w' := by
  obtain ⟨A, c, rfl, hl, hc⟩ := h
  have HF := hid hF
  have Hok := hid hok
  clear hF hok
  go_enter Tryz.func74, Tryz.ntmps74
  go_wp2_with fail
  refine (doorFuncs_any _).mono ?_
  rintro e w1 ⟨g, rfl, hb1⟩
  have HL := hid hl
  have HC := hid hc
  clear hl hc
  go_wp2_with fail
  have hs1 : Sl w1 w1.heap.size 4 (.slice A l.length c) l.length (l.flatMap avCells) := Sl.more (Sl.keep (B := w.heap.size) ⟨A, c, rfl, HL.out, HC.out⟩ ((Below.refl w.heap.size w).alloc (Nat.le_refl _) _ |>.trans (hb1.mono (by simp)))) (by have := hb1.size; simp at this; omega)
  refine (innerList_any l _ w1 hs1 Hok.out hlen).mono ?_
  rintro e w2 ⟨el, rfl, hL, hb2⟩
  clear hs1
  go_wp2_with fail
  refine (HF.out w2 g _ el hL).mono ?_
  rintro e w3 ⟨rfl, hb3⟩
  clear hL
  go_wp2_with fail
  refine (doorArg_any r w3).mono ?_
  rintro e w4 ⟨rfl, hb4⟩
  have hz1 : w.heap.size + 1 ≤ w1.heap.size := by have := hb1.size; simpa using this
  have hz2 := hb2.size
  have hz3 := hb3.size
  have hb : Below (w.alloc (.cells #[.int .i64 0, .float .f64 0, .string ⟨#[]⟩, .slice none 0 0] 64)).heap.size (w.alloc (.cells #[.int .i64 0, .float .f64 0, .string ⟨#[]⟩, .slice none 0 0] 64)) w4 :=
    ((hb1.trans (hb2.mono (by simp; omega))).trans (hb3.mono (by simp; omega))).trans (hb4.mono (by simp; omega))
  clear hb1 hb2 hb3 hb4
  obtain ⟨hcl, hfr⟩ := bcell hb
  unfold avV iv
  go_wp2
  exact end_cell Tryz.results74 rfl (Bk.set4 (Bk.below (Bk.new_at rfl) hb (by simp)) _ _ _ _) Tryz.underlying64 rfl info_av rfl
    ⟨rfl, Below.set4 (Below.lift ((Below.refl _ _).alloc (Nat.le_refl _) _) (by simp) hb) (Nat.le_refl _) _ _ _ _⟩
theorem door_SUM (l : List AV) (r : Res) (hF : Fn 109 l r) (v : Value) (w : World) (h : Sl w w.heap.size 4 v l.length (l.flatMap avCells)) (hok : ∀ a ∈ l, avOk a) (hlen : l.length ≤ 1000) :
    Calls Tryz.prog 76 #[v] w fun e w' => e = .returned (avV r.av) ∧ Below w.heap.size w w' := by
  obtain ⟨A, c, rfl, hl, hc⟩ := h
  have HF := hid hF
  have Hok := hid hok
  clear hF hok
  go_enter Tryz.func76, Tryz.ntmps76
  go_wp2_with fail
  refine (doorFuncs_any _).mono ?_
  rintro e w1 ⟨g, rfl, hb1⟩
  have HL := hid hl
  have HC := hid hc
  clear hl hc
  go_wp2_with fail
  have hs1 : Sl w1 w1.heap.size 4 (.slice A l.length c) l.length (l.flatMap avCells) := Sl.more (Sl.keep (B := w.heap.size) ⟨A, c, rfl, HL.out, HC.out⟩ ((Below.refl w.heap.size w).alloc (Nat.le_refl _) _ |>.trans (hb1.mono (by simp)))) (by have := hb1.size; simp at this; omega)
  refine (innerList_any l _ w1 hs1 Hok.out hlen).mono ?_
  rintro e w2 ⟨el, rfl, hL, hb2⟩
  clear hs1
  go_wp2_with fail
  refine (HF.out w2 g _ el hL).mono ?_
  rintro e w3 ⟨rfl, hb3⟩
  clear hL
  go_wp2_with fail
  refine (doorArg_any r w3).mono ?_
  rintro e w4 ⟨rfl, hb4⟩
  have hz1 : w.heap.size + 1 ≤ w1.heap.size := by have := hb1.size; simpa using this
  have hz2 := hb2.size
  have hz3 := hb3.size
  have hb : Below (w.alloc (.cells #[.int .i64 0, .float .f64 0, .string ⟨#[]⟩, .slice none 0 0] 64)).heap.size (w.alloc (.cells #[.int .i64 0, .float .f64 0, .string ⟨#[]⟩, .slice none 0 0] 64)) w4 :=
    ((hb1.trans (hb2.mono (by simp; omega))).trans (hb3.mono (by simp; omega))).trans (hb4.mono (by simp; omega))
  clear hb1 hb2 hb3 hb4
  obtain ⟨hcl, hfr⟩ := bcell hb
  unfold avV iv
  go_wp2
  exact end_cell Tryz.results76 rfl (Bk.set4 (Bk.below (Bk.new_at rfl) hb (by simp)) _ _ _ _) Tryz.underlying64 rfl info_av rfl
    ⟨rfl, Below.set4 (Below.lift ((Below.refl _ _).alloc (Nat.le_refl _) _) (by simp) hb) (Nat.le_refl _) _ _ _ _⟩
theorem door_COUNT (l : List AV) (r : Res) (hF : Fn 110 l r) (v : Value) (w : World) (h : Sl w w.heap.size 4 v l.length (l.flatMap avCells)) (hok : ∀ a ∈ l, avOk a) (hlen : l.length ≤ 1000) :
    Calls Tryz.prog 78 #[v] w fun e w' => e = .returned (avV r.av) ∧ Below w.heap.size w w' := by
  obtain ⟨A, c, rfl, hl, hc⟩ := h
  have HF := hid hF
  have Hok := hid hok
  clear hF hok
  go_enter Tryz.func78, Tryz.ntmps78
  go_wp2_with fail
  refine (doorFuncs_any _).mono ?_
  rintro e w1 ⟨g, rfl, hb1⟩
  have HL := hid hl
  have HC := hid hc
  clear hl hc
  go_wp2_with fail
  have hs1 : Sl w1 w1.heap.size 4 (.slice A l.length c) l.length (l.flatMap avCells) := Sl.more (Sl.keep (B := w.heap.size) ⟨A, c, rfl, HL.out, HC.out⟩ ((Below.refl w.heap.size w).alloc (Nat.le_refl _) _ |>.trans (hb1.mono (by simp)))) (by have := hb1.size; simp at this; omega)
  refine (innerList_any l _ w1 hs1 Hok.out hlen).mono ?_
  rintro e w2 ⟨el, rfl, hL, hb2⟩
  clear hs1
  go_wp2_with fail
  refine (HF.out w2 g _ el hL).mono ?_
  rintro e w3 ⟨rfl, hb3⟩
  clear hL
  go_wp2_with fail
  refine (doorArg_any r w3).mono ?_
  rintro e w4 ⟨rfl, hb4⟩
  have hz1 : w.heap.size + 1 ≤ w1.heap.size := by have := hb1.size; simpa using this
  have hz2 := hb2.size
  have hz3 := hb3.size
  have hb : Below (w.alloc (.cells #[.int .i64 0, .float .f64 0, .string ⟨#[]⟩, .slice none 0 0] 64)).heap.size (w.alloc (.cells #[.int .i64 0, .float .f64 0, .string ⟨#[]⟩, .slice none 0 0] 64)) w4 :=
    ((hb1.trans (hb2.mono (by simp; omega))).trans (hb3.mono (by simp; omega))).trans (hb4.mono (by simp; omega))
  clear hb1 hb2 hb3 hb4
  obtain ⟨hcl, hfr⟩ := bcell hb
  unfold avV iv
  go_wp2
  exact end_cell Tryz.results78 rfl (Bk.set4 (Bk.below (Bk.new_at rfl) hb (by simp)) _ _ _ _) Tryz.underlying64 rfl info_av rfl
    ⟨rfl, Below.set4 (Below.lift ((Below.refl _ _).alloc (Nat.le_refl _) _) (by simp) hb) (Nat.le_refl _) _ _ _ _⟩
theorem door_MMULT (l : List AV) (r : Res) (hF : Fn 111 l r) (v : Value) (w : World) (h : Sl w w.heap.size 4 v l.length (l.flatMap avCells)) (hok : ∀ a ∈ l, avOk a) (hlen : l.length ≤ 1000) :
    Calls Tryz.prog 80 #[v] w fun e w' => e = .returned (avV r.av) ∧ Below w.heap.size w w' := by
  obtain ⟨A, c, rfl, hl, hc⟩ := h
  have HF := hid hF
  have Hok := hid hok
  clear hF hok
  go_enter Tryz.func80, Tryz.ntmps80
  go_wp2_with fail
  refine (doorFuncs_any _).mono ?_
  rintro e w1 ⟨g, rfl, hb1⟩
  have HL := hid hl
  have HC := hid hc
  clear hl hc
  go_wp2_with fail
  have hs1 : Sl w1 w1.heap.size 4 (.slice A l.length c) l.length (l.flatMap avCells) := Sl.more (Sl.keep (B := w.heap.size) ⟨A, c, rfl, HL.out, HC.out⟩ ((Below.refl w.heap.size w).alloc (Nat.le_refl _) _ |>.trans (hb1.mono (by simp)))) (by have := hb1.size; simp at this; omega)
  refine (innerList_any l _ w1 hs1 Hok.out hlen).mono ?_
  rintro e w2 ⟨el, rfl, hL, hb2⟩
  clear hs1
  go_wp2_with fail
  refine (HF.out w2 g _ el hL).mono ?_
  rintro e w3 ⟨rfl, hb3⟩
  clear hL
  go_wp2_with fail
  refine (doorArg_any r w3).mono ?_
  rintro e w4 ⟨rfl, hb4⟩
  have hz1 : w.heap.size + 1 ≤ w1.heap.size := by have := hb1.size; simpa using this
  have hz2 := hb2.size
  have hz3 := hb3.size
  have hb : Below (w.alloc (.cells #[.int .i64 0, .float .f64 0, .string ⟨#[]⟩, .slice none 0 0] 64)).heap.size (w.alloc (.cells #[.int .i64 0, .float .f64 0, .string ⟨#[]⟩, .slice none 0 0] 64)) w4 :=
    ((hb1.trans (hb2.mono (by simp; omega))).trans (hb3.mono (by simp; omega))).trans (hb4.mono (by simp; omega))
  clear hb1 hb2 hb3 hb4
  obtain ⟨hcl, hfr⟩ := bcell hb
  unfold avV iv
  go_wp2
  exact end_cell Tryz.results80 rfl (Bk.set4 (Bk.below (Bk.new_at rfl) hb (by simp)) _ _ _ _) Tryz.underlying64 rfl info_av rfl
    ⟨rfl, Below.set4 (Below.lift ((Below.refl _ _).alloc (Nat.le_refl _) _) (by simp) hb) (Nat.le_refl _) _ _ _ _⟩
theorem door_MUNIT (l : List AV) (r : Res) (hF : Fn 112 l r) (v : Value) (w : World) (h : Sl w w.heap.size 4 v l.length (l.flatMap avCells)) (hok : ∀ a ∈ l, avOk a) (hlen : l.length ≤ 1000) :
    Calls Tryz.prog 81 #[v] w fun e w' => e = .returned (avV r.av) ∧ Below w.heap.size w w' := by
  obtain ⟨A, c, rfl, hl, hc⟩ := h
  have HF := hid hF
  have Hok := hid hok
  clear hF hok
  go_enter Tryz.func81, Tryz.ntmps81
  go_wp2_with fail
  refine (doorFuncs_any _).mono ?_
  rintro e w1 ⟨g, rfl, hb1⟩
  have HL := hid hl
  have HC := hid hc
  clear hl hc
  go_wp2_with fail
  have hs1 : Sl w1 w1.heap.size 4 (.slice A l.length c) l.length (l.flatMap avCells) := Sl.more (Sl.keep (B := w.heap.size) ⟨A, c, rfl, HL.out, HC.out⟩ ((Below.refl w.heap.size w).alloc (Nat.le_refl _) _ |>.trans (hb1.mono (by simp)))) (by have := hb1.size; simp at this; omega)
  refine (innerList_any l _ w1 hs1 Hok.out hlen).mono ?_
  rintro e w2 ⟨el, rfl, hL, hb2⟩
  clear hs1
  go_wp2_with fail
  refine (HF.out w2 g _ el hL).mono ?_
  rintro e w3 ⟨rfl, hb3⟩
  clear hL
  go_wp2_with fail
  refine (doorArg_any r w3).mono ?_
  rintro e w4 ⟨rfl, hb4⟩
  have hz1 : w.heap.size + 1 ≤ w1.heap.size := by have := hb1.size; simpa using this
  have hz2 := hb2.size
  have hz3 := hb3.size
  have hb : Below (w.alloc (.cells #[.int .i64 0, .float .f64 0, .string ⟨#[]⟩, .slice none 0 0] 64)).heap.size (w.alloc (.cells #[.int .i64 0, .float .f64 0, .string ⟨#[]⟩, .slice none 0 0] 64)) w4 :=
    ((hb1.trans (hb2.mono (by simp; omega))).trans (hb3.mono (by simp; omega))).trans (hb4.mono (by simp; omega))
  clear hb1 hb2 hb3 hb4
  obtain ⟨hcl, hfr⟩ := bcell hb
  unfold avV iv
  go_wp2
  exact end_cell Tryz.results81 rfl (Bk.set4 (Bk.below (Bk.new_at rfl) hb (by simp)) _ _ _ _) Tryz.underlying64 rfl info_av rfl
    ⟨rfl, Below.set4 (Below.lift ((Below.refl _ _).alloc (Nat.le_refl _) _) (by simp) hb) (Nat.le_refl _) _ _ _ _⟩
theorem door_EVEN (l : List AV) (r : Res) (hF : Fn 113 l r) (v : Value) (w : World) (h : Sl w w.heap.size 4 v l.length (l.flatMap avCells)) (hok : ∀ a ∈ l, avOk a) (hlen : l.length ≤ 1000) :
    Calls Tryz.prog 82 #[v] w fun e w' => e = .returned (avV r.av) ∧ Below w.heap.size w w' := by
  obtain ⟨A, c, rfl, hl, hc⟩ := h
  have HF := hid hF
  have Hok := hid hok
  clear hF hok
  go_enter Tryz.func82, Tryz.ntmps82
  go_wp2_with fail
  refine (doorFuncs_any _).mono ?_
  rintro e w1 ⟨g, rfl, hb1⟩
  have HL := hid hl
  have HC := hid hc
  clear hl hc
  go_wp2_with fail
  have hs1 : Sl w1 w1.heap.size 4 (.slice A l.length c) l.length (l.flatMap avCells) := Sl.more (Sl.keep (B := w.heap.size) ⟨A, c, rfl, HL.out, HC.out⟩ ((Below.refl w.heap.size w).alloc (Nat.le_refl _) _ |>.trans (hb1.mono (by simp)))) (by have := hb1.size; simp at this; omega)
  refine (innerList_any l _ w1 hs1 Hok.out hlen).mono ?_
  rintro e w2 ⟨el, rfl, hL, hb2⟩
  clear hs1
  go_wp2_with fail
  refine (HF.out w2 g _ el hL).mono ?_
  rintro e w3 ⟨rfl, hb3⟩
  clear hL
  go_wp2_with fail
  refine (doorArg_any r w3).mono ?_
  rintro e w4 ⟨rfl, hb4⟩
  have hz1 : w.heap.size + 1 ≤ w1.heap.size := by have := hb1.size; simpa using this
  have hz2 := hb2.size
  have hz3 := hb3.size
  have hb : Below (w.alloc (.cells #[.int .i64 0, .float .f64 0, .string ⟨#[]⟩, .slice none 0 0] 64)).heap.size (w.alloc (.cells #[.int .i64 0, .float .f64 0, .string ⟨#[]⟩, .slice none 0 0] 64)) w4 :=
    ((hb1.trans (hb2.mono (by simp; omega))).trans (hb3.mono (by simp; omega))).trans (hb4.mono (by simp; omega))
  clear hb1 hb2 hb3 hb4
  obtain ⟨hcl, hfr⟩ := bcell hb
  unfold avV iv
  go_wp2
  exact end_cell Tryz.results82 rfl (Bk.set4 (Bk.below (Bk.new_at rfl) hb (by simp)) _ _ _ _) Tryz.underlying64 rfl info_av rfl
    ⟨rfl, Below.set4 (Below.lift ((Below.refl _ _).alloc (Nat.le_refl _) _) (by simp) hb) (Nat.le_refl _) _ _ _ _⟩
theorem door_ODD (l : List AV) (r : Res) (hF : Fn 114 l r) (v : Value) (w : World) (h : Sl w w.heap.size 4 v l.length (l.flatMap avCells)) (hok : ∀ a ∈ l, avOk a) (hlen : l.length ≤ 1000) :
    Calls Tryz.prog 83 #[v] w fun e w' => e = .returned (avV r.av) ∧ Below w.heap.size w w' := by
  obtain ⟨A, c, rfl, hl, hc⟩ := h
  have HF := hid hF
  have Hok := hid hok
  clear hF hok
  go_enter Tryz.func83, Tryz.ntmps83
  go_wp2_with fail
  refine (doorFuncs_any _).mono ?_
  rintro e w1 ⟨g, rfl, hb1⟩
  have HL := hid hl
  have HC := hid hc
  clear hl hc
  go_wp2_with fail
  have hs1 : Sl w1 w1.heap.size 4 (.slice A l.length c) l.length (l.flatMap avCells) := Sl.more (Sl.keep (B := w.heap.size) ⟨A, c, rfl, HL.out, HC.out⟩ ((Below.refl w.heap.size w).alloc (Nat.le_refl _) _ |>.trans (hb1.mono (by simp)))) (by have := hb1.size; simp at this; omega)
  refine (innerList_any l _ w1 hs1 Hok.out hlen).mono ?_
  rintro e w2 ⟨el, rfl, hL, hb2⟩
  clear hs1
  go_wp2_with fail
  refine (HF.out w2 g _ el hL).mono ?_
  rintro e w3 ⟨rfl, hb3⟩
  clear hL
  go_wp2_with fail
  refine (doorArg_any r w3).mono ?_
  rintro e w4 ⟨rfl, hb4⟩
  have hz1 : w.heap.size + 1 ≤ w1.heap.size := by have := hb1.size; simpa using this
  have hz2 := hb2.size
  have hz3 := hb3.size
  have hb : Below (w.alloc (.cells #[.int .i64 0, .float .f64 0, .string ⟨#[]⟩, .slice none 0 0] 64)).heap.size (w.alloc (.cells #[.int .i64 0, .float .f64 0, .string ⟨#[]⟩, .slice none 0 0] 64)) w4 :=
    ((hb1.trans (hb2.mono (by simp; omega))).trans (hb3.mono (by simp; omega))).trans (hb4.mono (by simp; omega))
  clear hb1 hb2 hb3 hb4
  obtain ⟨hcl, hfr⟩ := bcell hb
  unfold avV iv
  go_wp2
  exact end_cell Tryz.results83 rfl (Bk.set4 (Bk.below (Bk.new_at rfl) hb (by simp)) _ _ _ _) Tryz.underlying64 rfl info_av rfl
    ⟨rfl, Below.set4 (Below.lift ((Below.refl _ _).alloc (Nat.le_refl _) _) (by simp) hb) (Nat.le_refl _) _ _ _ _⟩
theorem door_ISODD (l : List AV) (r : Res) (hF : Fn 115 l r) (v : Value) (w : World) (h : Sl w w.heap.size 4 v l.length (l.flatMap avCells)) (hok : ∀ a ∈ l, avOk a) (hlen : l.length ≤ 1000) :
    Calls Tryz.prog 84 #[v] w fun e w' => e = .returned (avV r.av) ∧ Below w.heap.size w w' := by
  obtain ⟨A, c, rfl, hl, hc⟩ := h
  have HF := hid hF
  have Hok := hid hok
  clear hF hok
  go_enter Tryz.func84, Tryz.ntmps84
  go_wp2_with fail
  refine (doorFuncs_any _).mono ?_
  rintro e w1 ⟨g, rfl, hb1⟩
  have HL := hid hl
  have HC := hid hc
  clear hl hc
  go_wp2_with fail
  have hs1 : Sl w1 w1.heap.size 4 (.slice A l.length c) l.length (l.flatMap avCells) := Sl.more (Sl.keep (B := w.heap.size) ⟨A, c, rfl, HL.out, HC.out⟩ ((Below.refl w.heap.size w).alloc (Nat.le_refl _) _ |>.trans (hb1.mono (by simp)))) (by have := hb1.size; simp at this; omega)
  refine (innerList_any l _ w1 hs1 Hok.out hlen).mono ?_
  rintro e w2 ⟨el, rfl, hL, hb2⟩
  clear hs1
  go_wp2_with fail
  refine (HF.out w2 g _ el hL).mono ?_
  rintro e w3 ⟨rfl, hb3⟩
  clear hL
  go_wp2_with fail
  refine (doorArg_any r w3).mono ?_
  rintro e w4 ⟨rfl, hb4⟩
  have hz1 : w.heap.size + 1 ≤ w1.heap.size := by have := hb1.size; simpa using this
  have hz2 := hb2.size
  have hz3 := hb3.size
  have hb : Below (w.alloc (.cells #[.int .i64 0, .float .f64 0, .string ⟨#[]⟩, .slice none 0 0] 64)).heap.size (w.alloc (.cells #[.int .i64 0, .float .f64 0, .string ⟨#[]⟩, .slice none 0 0] 64)) w4 :=
    ((hb1.trans (hb2.mono (by simp; omega))).trans (hb3.mono (by simp; omega))).trans (hb4.mono (by simp; omega))
  clear hb1 hb2 hb3 hb4
  obtain ⟨hcl, hfr⟩ := bcell hb
  unfold avV iv
  go_wp2
  exact end_cell Tryz.results84 rfl (Bk.set4 (Bk.below (Bk.new_at rfl) hb (by simp)) _ _ _ _) Tryz.underlying64 rfl info_av rfl
    ⟨rfl, Below.set4 (Below.lift ((Below.refl _ _).alloc (Nat.le_refl _) _) (by simp) hb) (Nat.le_refl _) _ _ _ _⟩
theorem door_LOWER (l : List AV) (r : Res) (hF : Fn 116 l r) (v : Value) (w : World) (h : Sl w w.heap.size 4 v l.length (l.flatMap avCells)) (hok : ∀ a ∈ l, avOk a) (hlen : l.length ≤ 1000) :
    Calls Tryz.prog 85 #[v] w fun e w' => e = .returned (avV r.av) ∧ Below w.heap.size w w' := by
  obtain ⟨A, c, rfl, hl, hc⟩ := h
  have HF := hid hF
  have Hok := hid hok
  clear hF hok
  go_enter Tryz.func85, Tryz.ntmps85
  go_wp2_with fail
  refine (doorFuncs_any _).mono ?_
  rintro e w1 ⟨g, rfl, hb1⟩
  have HL := hid hl
  have HC := hid hc
  clear hl hc
  go_wp2_with fail
  have hs1 : Sl w1 w1.heap.size 4 (.slice A l.length c) l.length (l.flatMap avCells) := Sl.more (Sl.keep (B := w.heap.size) ⟨A, c, rfl, HL.out, HC.out⟩ ((Below.refl w.heap.size w).alloc (Nat.le_refl _) _ |>.trans (hb1.mono (by simp)))) (by have := hb1.size; simp at this; omega)
  refine (innerList_any l _ w1 hs1 Hok.out hlen).mono ?_
  rintro e w2 ⟨el, rfl, hL, hb2⟩
  clear hs1
  go_wp2_with fail
  refine (HF.out w2 g _ el hL).mono ?_
  rintro e w3 ⟨rfl, hb3⟩
  clear hL
  go_wp2_with fail
  refine (doorArg_any r w3).mono ?_
  rintro e w4 ⟨rfl, hb4⟩
  have hz1 : w.heap.size + 1 ≤ w1.heap.size := by have := hb1.size; simpa using this
  have hz2 := hb2.size
  have hz3 := hb3.size
  have hb : Below (w.alloc (.cells #[.int .i64 0, .float .f64 0, .string ⟨#[]⟩, .slice none 0 0] 64)).heap.size (w.alloc (.cells #[.int .i64 0, .float .f64 0, .string ⟨#[]⟩, .slice none 0 0] 64)) w4 :=
    ((hb1.trans (hb2.mono (by simp; omega))).trans (hb3.mono (by simp; omega))).trans (hb4.mono (by simp; omega))
  clear hb1 hb2 hb3 hb4
  obtain ⟨hcl, hfr⟩ := bcell hb
  unfold avV iv
  go_wp2
  exact end_cell Tryz.results85 rfl (Bk.set4 (Bk.below (Bk.new_at rfl) hb (by simp)) _ _ _ _) Tryz.underlying64 rfl info_av rfl
    ⟨rfl, Below.set4 (Below.lift ((Below.refl _ _).alloc (Nat.le_refl _) _) (by simp) hb) (Nat.le_refl _) _ _ _ _⟩
theorem door_UPPER (l : List AV) (r : Res) (hF : Fn 117 l r) (v : Value) (w : World) (h : Sl w w.heap.size 4 v l.length (l.flatMap avCells)) (hok : ∀ a ∈ l, avOk a) (hlen : l.length ≤ 1000) :
    Calls Tryz.prog 86 #[v] w fun e w' => e = .returned (avV r.av) ∧ Below w.heap.size w w' := by
  obtain ⟨A, c, rfl, hl, hc⟩ := h
  have HF := hid hF
  have Hok := hid hok
  clear hF hok
  go_enter Tryz.func86, Tryz.ntmps86
  go_wp2_with fail
  refine (doorFuncs_any _).mono ?_
  rintro e w1 ⟨g, rfl, hb1⟩
  have HL := hid hl
  have HC := hid hc
  clear hl hc
  go_wp2_with fail
  have hs1 : Sl w1 w1.heap.size 4 (.slice A l.length c) l.length (l.flatMap avCells) := Sl.more (Sl.keep (B := w.heap.size) ⟨A, c, rfl, HL.out, HC.out⟩ ((Below.refl w.heap.size w).alloc (Nat.le_refl _) _ |>.trans (hb1.mono (by simp)))) (by have := hb1.size; simp at this; omega)
  refine (innerList_any l _ w1 hs1 Hok.out hlen).mono ?_
  rintro e w2 ⟨el, rfl, hL, hb2⟩
  clear hs1
  go_wp2_with fail
  refine (HF.out w2 g _ el hL).mono ?_
  rintro e w3 ⟨rfl, hb3⟩
  clear hL
  go_wp2_with fail
  refine (doorArg_any r w3).mono ?_
  rintro e w4 ⟨rfl, hb4⟩
  have hz1 : w.heap.size + 1 ≤ w1.heap.size := by have := hb1.size; simpa using this
  have hz2 := hb2.size
  have hz3 := hb3.size
  have hb : Below (w.alloc (.cells #[.int .i64 0, .float .f64 0, .string ⟨#[]⟩, .slice none 0 0] 64)).heap.size (w.alloc (.cells #[.int .i64 0, .float .f64 0, .string ⟨#[]⟩, .slice none 0 0] 64)) w4 :=
    ((hb1.trans (hb2.mono (by simp; omega))).trans (hb3.mono (by simp; omega))).trans (hb4.mono (by simp; omega))
  clear hb1 hb2 hb3 hb4
  obtain ⟨hcl, hfr⟩ := bcell hb
  unfold avV iv
  go_wp2
  exact end_cell Tryz.results86 rfl (Bk.set4 (Bk.below (Bk.new_at rfl) hb (by simp)) _ _ _ _) Tryz.underlying64 rfl info_av rfl
    ⟨rfl, Below.set4 (Below.lift ((Below.refl _ _).alloc (Nat.le_refl _) _) (by simp) hb) (Nat.le_refl _) _ _ _ _⟩
theorem door_GCD (l : List AV) (r : Res) (hF : Fn 118 l r) (v : Value) (w : World) (h : Sl w w.heap.size 4 v l.length (l.flatMap avCells)) (hok : ∀ a ∈ l, avOk a) (hlen : l.length ≤ 1000) :
    Calls Tryz.prog 87 #[v] w fun e w' => e = .returned (avV r.av) ∧ Below w.heap.size w w' := by
  obtain ⟨A, c, rfl, hl, hc⟩ := h
  have HF := hid hF
  have Hok := hid hok
  clear hF hok
  go_enter Tryz.func87, Tryz.ntmps87
  go_wp2_with fail
  refine (doorFuncs_any _).mono ?_
  rintro e w1 ⟨g, rfl, hb1⟩
  have HL := hid hl
  have HC := hid hc
  clear hl hc
  go_wp2_with fail
  have hs1 : Sl w1 w1.heap.size 4 (.slice A l.length c) l.length (l.flatMap avCells) := Sl.more (Sl.keep (B := w.heap.size) ⟨A, c, rfl, HL.out, HC.out⟩ ((Below.refl w.heap.size w).alloc (Nat.le_refl _) _ |>.trans (hb1.mono (by simp)))) (by have := hb1.size; simp at this; omega)
  refine (innerList_any l _ w1 hs1 Hok.out hlen).mono ?_
  rintro e w2 ⟨el, rfl, hL, hb2⟩
  clear hs1
  go_wp2_with fail
  refine (HF.out w2 g _ el hL).mono ?_
  rintro e w3 ⟨rfl, hb3⟩
  clear hL
  go_wp2_with fail
  refine (doorArg_any r w3).mono ?_
  rintro e w4 ⟨rfl, hb4⟩
  have hz1 : w.heap.size + 1 ≤ w1.heap.size := by have := hb1.size; simpa using this
  have hz2 := hb2.size
  have hz3 := hb3.size
  have hb : Below (w.alloc (.cells #[.int .i64 0, .float .f64 0, .string ⟨#[]⟩, .slice none 0 0] 64)).heap.size (w.alloc (.cells #[.int .i64 0, .float .f64 0, .string ⟨#[]⟩, .slice none 0 0] 64)) w4 :=
    ((hb1.trans (hb2.mono (by simp; omega))).trans (hb3.mono (by simp; omega))).trans (hb4.mono (by simp; omega))
  clear hb1 hb2 hb3 hb4
  obtain ⟨hcl, hfr⟩ := bcell hb
  unfold avV iv
  go_wp2
  exact end_cell Tryz.results87 rfl (Bk.set4 (Bk.below (Bk.new_at rfl) hb (by simp)) _ _ _ _) Tryz.underlying64 rfl info_av rfl
    ⟨rfl, Below.set4 (Below.lift ((Below.refl _ _).alloc (Nat.le_refl _) _) (by simp) hb) (Nat.le_refl _) _ _ _ _⟩
theorem door_LCM (l : List AV) (r : Res) (hF : Fn 119 l r) (v : Value) (w : World) (h : Sl w w.heap.size 4 v l.length (l.flatMap avCells)) (hok : ∀ a ∈ l, avOk a) (hlen : l.length ≤ 1000) :
    Calls Tryz.prog 88 #[v] w fun e w' => e = .returned (avV r.av) ∧ Below w.heap.size w w' := by
  obtain ⟨A, c, rfl, hl, hc⟩ := h
  have HF := hid hF
  have Hok := hid hok
  clear hF hok
  go_enter Tryz.func88, Tryz.ntmps88
  go_wp2_with fail
  refine (doorFuncs_any _).mono ?_
  rintro e w1 ⟨g, rfl, hb1⟩
  have HL := hid hl
  have HC := hid hc
  clear hl hc
  go_wp2_with fail
  have hs1 : Sl w1 w1.heap.size 4 (.slice A l.length c) l.length (l.flatMap avCells) := Sl.more (Sl.keep (B := w.heap.size) ⟨A, c, rfl, HL.out, HC.out⟩ ((Below.refl w.heap.size w).alloc (Nat.le_refl _) _ |>.trans (hb1.mono (by simp)))) (by have := hb1.size; simp at this; omega)
  refine (innerList_any l _ w1 hs1 Hok.out hlen).mono ?_
  rintro e w2 ⟨el, rfl, hL, hb2⟩
  clear hs1
  go_wp2_with fail
  refine (HF.out w2 g _ el hL).mono ?_
  rintro e w3 ⟨rfl, hb3⟩
  clear hL
  go_wp2_with fail
  refine (doorArg_any r w3).mono ?_
  rintro e w4 ⟨rfl, hb4⟩
  have hz1 : w.heap.size + 1 ≤ w1.heap.size := by have := hb1.size; simpa using this
  have hz2 := hb2.size
  have hz3 := hb3.size
  have hb : Below (w.alloc (.cells #[.int .i64 0, .float .f64 0, .string ⟨#[]⟩, .slice none 0 0] 64)).heap.size (w.alloc (.cells #[.int .i64 0, .float .f64 0, .string ⟨#[]⟩, .slice none 0 0] 64)) w4 :=
    ((hb1.trans (hb2.mono (by simp; omega))).trans (hb3.mono (by simp; omega))).trans (hb4.mono (by simp; omega))
  clear hb1 hb2 hb3 hb4
  obtain ⟨hcl, hfr⟩ := bcell hb
  unfold avV iv
  go_wp2
  exact end_cell Tryz.results88 rfl (Bk.set4 (Bk.below (Bk.new_at rfl) hb (by simp)) _ _ _ _) Tryz.underlying64 rfl info_av rfl
    ⟨rfl, Below.set4 (Below.lift ((Below.refl _ _).alloc (Nat.le_refl _) _) (by simp) hb) (Nat.le_refl _) _ _ _ _⟩
theorem door_AND (l : List AV) (r : Res) (hF : Fn 121 l r) (v : Value) (w : World) (h : Sl w w.heap.size 4 v l.length (l.flatMap avCells)) (hok : ∀ a ∈ l, avOk a) (hlen : l.length ≤ 1000) :
    Calls Tryz.prog 90 #[v] w fun e w' => e = .returned (avV r.av) ∧ Below w.heap.size w w' := by
  obtain ⟨A, c, rfl, hl, hc⟩ := h
  have HF := hid hF
  have Hok := hid hok
  clear hF hok
  go_enter Tryz.func90, Tryz.ntmps90
  go_wp2_with fail
  refine (doorFuncs_any _).mono ?_
  rintro e w1 ⟨g, rfl, hb1⟩
  have HL := hid hl
  have HC := hid hc
  clear hl hc
  go_wp2_with fail
  have hs1 : Sl w1 w1.heap.size 4 (.slice A l.length c) l.length (l.flatMap avCells) := Sl.more (Sl.keep (B := w.heap.size) ⟨A, c, rfl, HL.out, HC.out⟩ ((Below.refl w.heap.size w).alloc (Nat.le_refl _) _ |>.trans (hb1.mono (by simp)))) (by have := hb1.size; simp at this; omega)
  refine (innerList_any l _ w1 hs1 Hok.out hlen).mono ?_
  rintro e w2 ⟨el, rfl, hL, hb2⟩
  clear hs1
  go_wp2_with fail
  refine (HF.out w2 g _ el hL).mono ?_
  rintro e w3 ⟨rfl, hb3⟩
  clear hL
  go_wp2_with fail
  refine (doorArg_any r w3).mono ?_
  rintro e w4 ⟨rfl, hb4⟩
  have hz1 : w.heap.size + 1 ≤ w1.heap.size := by have := hb1.size; simpa using this
  have hz2 := hb2.size
  have hz3 := hb3.size
  have hb : Below (w.alloc (.cells #[.int .i64 0, .float .f64 0, .string ⟨#[]⟩, .slice none 0 0] 64)).heap.size (w.alloc (.cells #[.int .i64 0, .float .f64 0, .string ⟨#[]⟩, .slice none 0 0] 64)) w4 :=
    ((hb1.trans (hb2.mono (by simp; omega))).trans (hb3.mono (by simp; omega))).trans (hb4.mono (by simp; omega))
  clear hb1 hb2 hb3 hb4
  obtain ⟨hcl, hfr⟩ := bcell hb
  unfold avV iv
  go_wp2
  exact end_cell Tryz.results90 rfl (Bk.set4 (Bk.below (Bk.new_at rfl) hb (by simp)) _ _ _ _) Tryz.underlying64 rfl info_av rfl
    ⟨rfl, Below.set4 (Below.lift ((Below.refl _ _).alloc (Nat.le_refl _) _) (by simp) hb) (Nat.le_refl _) _ _ _ _⟩
theorem door_OR (l : List AV) (r : Res) (hF : Fn 122 l r) (v : Value) (w : World) (h : Sl w w.heap.size 4 v l.length (l.flatMap avCells)) (hok : ∀ a ∈ l, avOk a) (hlen : l.length ≤ 1000) :
    Calls Tryz.prog 91 #[v] w fun e w' => e = .returned (avV r.av) ∧ Below w.heap.size w w' := by
  obtain ⟨A, c, rfl, hl, hc⟩ := h
  have HF := hid hF
  have Hok := hid hok
  clear hF hok
  go_enter Tryz.func91, Tryz.ntmps91
  go_wp2_with fail
  refine (doorFuncs_any _).mono ?_
  rintro e w1 ⟨g, rfl, hb1⟩
  have HL := hid hl
  have HC := hid hc
  clear hl hc
  go_wp2_with fail
  have hs1 : Sl w1 w1.heap.size 4 (.slice A l.length c) l.length (l.flatMap avCells) := Sl.more (Sl.keep (B := w.heap.size) ⟨A, c, rfl, HL.out, HC.out⟩ ((Below.refl w.heap.size w).alloc (Nat.le_refl _) _ |>.trans (hb1.mono (by simp)))) (by have := hb1.size; simp at this; omega)
  refine (innerList_any l _ w1 hs1 Hok.out hlen).mono ?_
  rintro e w2 ⟨el, rfl, hL, hb2⟩
  clear hs1
  go_wp2_with fail
  refine (HF.out w2 g _ el hL).mono ?_
  rintro e w3 ⟨rfl, hb3⟩
  clear hL
  go_wp2_with fail
  refine (doorArg_any r w3).mono ?_
  rintro e w4 ⟨rfl, hb4⟩
  have hz1 : w.heap.size + 1 ≤ w1.heap.size := by have := hb1.size; simpa using this
  have hz2 := hb2.size
  have hz3 := hb3.size
  have hb : Below (w.alloc (.cells #[.int .i64 0, .float .f64 0, .string ⟨#[]⟩, .slice none 0 0] 64)).heap.size (w.alloc (.cells #[.int .i64 0, .float .f64 0, .string ⟨#[]⟩, .slice none 0 0] 64)) w4 :=
    ((hb1.trans (hb2.mono (by simp; omega))).trans (hb3.mono (by simp; omega))).trans (hb4.mono (by simp; omega))
  clear hb1 hb2 hb3 hb4
  obtain ⟨hcl, hfr⟩ := bcell hb
  unfold avV iv
  go_wp2
  exact end_cell Tryz.results91 rfl (Bk.set4 (Bk.below (Bk.new_at rfl) hb (by simp)) _ _ _ _) Tryz.underlying64 rfl info_av rfl
    ⟨rfl, Below.set4 (Below.lift ((Below.refl _ _).alloc (Nat.le_refl _) _) (by simp) hb) (Nat.le_refl _) _ _ _ _⟩
theorem door_MEDIAN (l : List AV) (r : Res) (hF : Fn 123 l r) (v : Value) (w : World) (h : Sl w w.heap.size 4 v l.length (l.flatMap avCells)) (hok : ∀ a ∈ l, avOk a) (hlen : l.length ≤ 1000) :
    Calls Tryz.prog 92 #[v] w fun e w' => e = .returned (avV r.av) ∧ Below w.heap.size w w' := by
  obtain ⟨A, c, rfl, hl, hc⟩ := h
  have HF := hid hF
  have Hok := hid hok
  clear hF hok
  go_enter Tryz.func92, Tryz.ntmps92
  go_wp2_with fail
  refine (doorFuncs_any _).mono ?_
  rintro e w1 ⟨g, rfl, hb1⟩
  have HL := hid hl
  have HC := hid hc
  clear hl hc
  go_wp2_with fail
  have hs1 : Sl w1 w1.heap.size 4 (.slice A l.length c) l.length (l.flatMap avCells) := Sl.more (Sl.keep (B := w.heap.size) ⟨A, c, rfl, HL.out, HC.out⟩ ((Below.refl w.heap.size w).alloc (Nat.le_refl _) _ |>.trans (hb1.mono (by simp)))) (by have := hb1.size; simp at this; omega)
  refine (innerList_any l _ w1 hs1 Hok.out hlen).mono ?_
  rintro e w2 ⟨el, rfl, hL, hb2⟩
  clear hs1
  go_wp2_with fail
  refine (HF.out w2 g _ el hL).mono ?_
  rintro e w3 ⟨rfl, hb3⟩
  clear hL
  go_wp2_with fail
  refine (doorArg_any r w3).mono ?_
  rintro e w4 ⟨rfl, hb4⟩
  have hz1 : w.heap.size + 1 ≤ w1.heap.size := by have := hb1.size; simpa using this
  have hz2 := hb2.size
  have hz3 := hb3.size
  have hb : Below (w.alloc (.cells #[.int .i64 0, .float .f64 0, .string ⟨#[]⟩, .slice none 0 0] 64)).heap.size (w.alloc (.cells #[.int .i64 0, .float .f64 0, .string ⟨#[]⟩, .slice none 0 0] 64)) w4 :=
    ((hb1.trans (hb2.mono (by simp; omega))).trans (hb3.mono (by simp; omega))).trans (hb4.mono (by simp; omega))
  clear hb1 hb2 hb3 hb4
  obtain ⟨hcl, hfr⟩ := bcell hb
  unfold avV iv
  go_wp2
  exact end_cell Tryz.results92 rfl (Bk.set4 (Bk.below (Bk.new_at rfl) hb (by simp)) _ _ _ _) Tryz.underlying64 rfl info_av rfl
    ⟨rfl, Below.set4 (Below.lift ((Below.refl _ _).alloc (Nat.le_refl _) _) (by simp) hb) (Nat.le_refl _) _ _ _ _⟩
theorem door_LARGE (l : List AV) (r : Res) (hF : Fn 124 l r) (v : Value) (w : World) (h : Sl w w.heap.size 4 v l.length (l.flatMap avCells)) (hok : ∀ a ∈ l, avOk a) (hlen : l.length ≤ 1000) :
    Calls Tryz.prog 93 #[v] w fun e w' => e = .returned (avV r.av) ∧ Below w.heap.size w w' := by
  obtain ⟨A, c, rfl, hl, hc⟩ := h
  have HF := hid hF
  have Hok := hid hok
  clear hF hok
  go_enter Tryz.func93, Tryz.ntmps93
  go_wp2_with fail
  refine (doorFuncs_any _).mono ?_
  rintro e w1 ⟨g, rfl, hb1⟩
  have HL := hid hl
  have HC := hid hc
  clear hl hc
  go_wp2_with fail
  have hs1 : Sl w1 w1.heap.size 4 (.slice A l.length c) l.length (l.flatMap avCells) := Sl.more (Sl.keep (B := w.heap.size) ⟨A, c, rfl, HL.out, HC.out⟩ ((Below.refl w.heap.size w).alloc (Nat.le_refl _) _ |>.trans (hb1.mono (by simp)))) (by have := hb1.size; simp at this; omega)
  refine (innerList_any l _ w1 hs1 Hok.out hlen).mono ?_
  rintro e w2 ⟨el, rfl, hL, hb2⟩
  clear hs1
  go_wp2_with fail
  refine (HF.out w2 g _ el hL).mono ?_
  rintro e w3 ⟨rfl, hb3⟩
  clear hL
  go_wp2_with fail
  refine (doorArg_any r w3).mono ?_
  rintro e w4 ⟨rfl, hb4⟩
  have hz1 : w.heap.size + 1 ≤ w1.heap.size := by have := hb1.size; simpa using this
  have hz2 := hb2.size
  have hz3 := hb3.size
  have hb : Below (w.alloc (.cells #[.int .i64 0, .float .f64 0, .string ⟨#[]⟩, .slice none 0 0] 64)).heap.size (w.alloc (.cells #[.int .i64 0, .float .f64 0, .string ⟨#[]⟩, .slice none 0 0] 64)) w4 :=
    ((hb1.trans (hb2.mono (by simp; omega))).trans (hb3.mono (by simp; omega))).trans (hb4.mono (by simp; omega))
  clear hb1 hb2 hb3 hb4
  obtain ⟨hcl, hfr⟩ := bcell hb
  unfold avV iv
  go_wp2
  exact end_cell Tryz.results93 rfl (Bk.set4 (Bk.below (Bk.new_at rfl) hb (by simp)) _ _ _ _) Tryz.underlying64 rfl info_av rfl
    ⟨rfl, Below.set4 (Below.lift ((Below.refl _ _).alloc (Nat.le_refl _) _) (by simp) hb) (Nat.le_refl _) _ _ _ _⟩
theorem door_SMALL (l : List AV) (r : Res) (hF : Fn 125 l r) (v : Value) (w : World) (h : Sl w w.heap.size 4 v l.length (l.flatMap avCells)) (hok : ∀ a ∈ l, avOk a) (hlen : l.length ≤ 1000) :
    Calls Tryz.prog 94 #[v] w fun e w' => e = .returned (avV r.av) ∧ Below w.heap.size w w' := by
  obtain ⟨A, c, rfl, hl, hc⟩ := h
  have HF := hid hF
  have Hok := hid hok
  clear hF hok
  go_enter Tryz.func94, Tryz.ntmps94
  go_wp2_with fail
  refine (doorFuncs_any _).mono ?_
  rintro e w1 ⟨g, rfl, hb1⟩
  have HL := hid hl
  have HC := hid hc
  clear hl hc
  go_wp2_with fail
  have hs1 : Sl w1 w1.heap.size 4 (.slice A l.length c) l.length (l.flatMap avCells) := Sl.more (Sl.keep (B := w.heap.size) ⟨A, c, rfl, HL.out, HC.out⟩ ((Below.refl w.heap.size w).alloc (Nat.le_refl _) _ |>.trans (hb1.mono (by simp)))) (by have := hb1.size; simp at this; omega)
  refine (innerList_any l _ w1 hs1 Hok.out hlen).mono ?_
  rintro e w2 ⟨el, rfl, hL, hb2⟩
  clear hs1
  go_wp2_with fail
  refine (HF.out w2 g _ el hL).mono ?_
  rintro e w3 ⟨rfl, hb3⟩
  clear hL
  go_wp2_with fail
  refine (doorArg_any r w3).mono ?_
  rintro e w4 ⟨rfl, hb4⟩
  have hz1 : w.heap.size + 1 ≤ w1.heap.size := by have := hb1.size; simpa using this
  have hz2 := hb2.size
  have hz3 := hb3.size
  have hb : Below (w.alloc (.cells #[.int .i64 0, .float .f64 0, .string ⟨#[]⟩, .slice none 0 0] 64)).heap.size (w.alloc (.cells #[.int .i64 0, .float .f64 0, .string ⟨#[]⟩, .slice none 0 0] 64)) w4 :=
    ((hb1.trans (hb2.mono (by simp; omega))).trans (hb3.mono (by simp; omega))).trans (hb4.mono (by simp; omega))
  clear hb1 hb2 hb3 hb4
  obtain ⟨hcl, hfr⟩ := bcell hb
  unfold avV iv
  go_wp2
  exact end_cell Tryz.results94 rfl (Bk.set4 (Bk.below (Bk.new_at rfl) hb (by simp)) _ _ _ _) Tryz.underlying64 rfl info_av rfl
    ⟨rfl, Below.set4 (Below.lift ((Below.refl _ _).alloc (Nat.le_refl _) _) (by simp) hb) (Nat.le_refl _) _ _ _ _⟩
theorem door_CHAR (l : List AV) (r : Res) (hF : Fn 127 l r) (v : Value) (w : World) (h : Sl w w.heap.size 4 v l.length (l.flatMap avCells)) (hok : ∀ a ∈ l, avOk a) (hlen : l.length ≤ 1000) :
    Calls Tryz.prog 96 #[v] w fun e w' => e = .returned (avV r.av) ∧ Below w.heap.size w w' := by
  obtain ⟨A, c, rfl, hl, hc⟩ := h
  have HF := hid hF
  have Hok := hid hok
  clear hF hok
  go_enter Tryz.func96, Tryz.ntmps96
  go_wp2_with fail
  refine (doorFuncs_any _).mono ?_
  rintro e w1 ⟨g, rfl, hb1⟩
  have HL := hid hl
  have HC := hid hc
  clear hl hc
  go_wp2_with fail
  have hs1 : Sl w1 w1.heap.size 4 (.slice A l.length c) l.length (l.flatMap avCells) := Sl.more (Sl.keep (B := w.heap.size) ⟨A, c, rfl, HL.out, HC.out⟩ ((Below.refl w.heap.size w).alloc (Nat.le_refl _) _ |>.trans (hb1.mono (by simp)))) (by have := hb1.size; simp at this; omega)
  refine (innerList_any l _ w1 hs1 Hok.out hlen).mono ?_
  rintro e w2 ⟨el, rfl, hL, hb2⟩
  clear hs1
  go_wp2_with fail
  refine (HF.out w2 g _ el hL).mono ?_
  rintro e w3 ⟨rfl, hb3⟩
  clear hL
  go_wp2_with fail
  refine (doorArg_any r w3).mono ?_
  rintro e w4 ⟨rfl, hb4⟩
  have hz1 : w.heap.size + 1 ≤ w1.heap.size := by have := hb1.size; simpa using this
  have hz2 := hb2.size
  have hz3 := hb3.size
  have hb : Below (w.alloc (.cells #[.int .i64 0, .float .f64 0, .string ⟨#[]⟩, .slice none 0 0] 64)).heap.size (w.alloc (.cells #[.int .i64 0, .float .f64 0, .string ⟨#[]⟩, .slice none 0 0] 64)) w4 :=
    ((hb1.trans (hb2.mono (by simp; omega))).trans (hb3.mono (by simp; omega))).trans (hb4.mono (by simp; omega))
  clear hb1 hb2 hb3 hb4
  obtain ⟨hcl, hfr⟩ := bcell hb
  unfold avV iv
  go_wp2
  exact end_cell Tryz.results96 rfl (Bk.set4 (Bk.below (Bk.new_at rfl) hb (by simp)) _ _ _ _) Tryz.underlying64 rfl info_av rfl
    ⟨rfl, Below.set4 (Below.lift ((Below.refl _ _).alloc (Nat.le_refl _) _) (by simp) hb) (Nat.le_refl _) _ _ _ _⟩
theorem door_CODE (l : List AV) (r : Res) (hF : Fn 126 l r) (v : Value) (w : World) (h : Sl w w.heap.size 4 v l.length (l.flatMap avCells)) (hok : ∀ a ∈ l, avOk a) (hlen : l.length ≤ 1000) :
    Calls Tryz.prog 95 #[v] w fun e w' => e = .returned (avV r.av) ∧ Below w.heap.size w w' := by
  obtain ⟨A, c, rfl, hl, hc⟩ := h
  have HF := hid hF
  have Hok := hid hok
  clear hF hok
  go_enter Tryz.func95, Tryz.ntmps95
  go_wp2_with fail
  refine (doorFuncs_any _).mono ?_
  rintro e w1 ⟨g, rfl, hb1⟩
  have HL := hid hl
  have HC := hid hc
  clear hl hc
  go_wp2_with fail
  have hs1 : Sl w1 w1.heap.size 4 (.slice A l.length c) l.length (l.flatMap avCells) := Sl.more (Sl.keep (B := w.heap.size) ⟨A, c, rfl, HL.out, HC.out⟩ ((Below.refl w.heap.size w).alloc (Nat.le_refl _) _ |>.trans (hb1.mono (by simp)))) (by have := hb1.size; simp at this; omega)
  refine (innerList_any l _ w1 hs1 Hok.out hlen).mono ?_
  rintro e w2 ⟨el, rfl, hL, hb2⟩
  clear hs1
  go_wp2_with fail
  refine (HF.out w2 g _ el hL).mono ?_
  rintro e w3 ⟨rfl, hb3⟩
  clear hL
  go_wp2_with fail
  refine (doorArg_any r w3).mono ?_
  rintro e w4 ⟨rfl, hb4⟩
  have hz1 : w.heap.size + 1 ≤ w1.heap.size := by have := hb1.size; simpa using this
  have hz2 := hb2.size
  have hz3 := hb3.size
  have hb : Below (w.alloc (.cells #[.int .i64 0, .float .f64 0, .string ⟨#[]⟩, .slice none 0 0] 64)).heap.size (w.alloc (.cells #[.int .i64 0, .float .f64 0, .string ⟨#[]⟩, .slice none 0 0] 64)) w4 :=
    ((hb1.trans (hb2.mono (by simp; omega))).trans (hb3.mono (by simp; omega))).trans (hb4.mono (by simp; omega))
  clear hb1 hb2 hb3 hb4
  obtain ⟨hcl, hfr⟩ := bcell hb
  unfold avV iv
  go_wp2
  exact end_cell Tryz.results95 rfl (Bk.set4 (Bk.below (Bk.new_at rfl) hb (by simp)) _ _ _ _) Tryz.underlying64 rfl info_av rfl
    ⟨rfl, Below.set4 (Below.lift ((Below.refl _ _).alloc (Nat.le_refl _) _) (by simp) hb) (Nat.le_refl _) _ _ _ _⟩
theorem door_REPT (l : List AV) (r : Res) (hF : Fn 129 l r) (v : Value) (w : World) (h : Sl w w.heap.size 4 v l.length (l.flatMap avCells)) (hok : ∀ a ∈ l, avOk a) (hlen : l.length ≤ 1000) :
    Calls Tryz.prog 98 #[v] w fun e w' => e = .returned (avV r.av) ∧ Below w.heap.size w w' := by
  obtain ⟨A, c, rfl, hl, hc⟩ := h
  have HF := hid hF
  have Hok := hid hok
  clear hF hok
  go_enter Tryz.func98, Tryz.ntmps98
  go_wp2_with fail
  refine (doorFuncs_any _).mono ?_
  rintro e w1 ⟨g, rfl, hb1⟩
  have HL := hid hl
  have HC := hid hc
  clear hl hc
  go_wp2_with fail
  have hs1 : Sl w1 w1.heap.size 4 (.slice A l.length c) l.length (l.flatMap avCells) := Sl.more (Sl.keep (B := w.heap.size) ⟨A, c, rfl, HL.out, HC.out⟩ ((Below.refl w.heap.size w).alloc (Nat.le_refl _) _ |>.trans (hb1.mono (by simp)))) (by have := hb1.size; simp at this; omega)
  refine (innerList_any l _ w1 hs1 Hok.out hlen).mono ?_
  rintro e w2 ⟨el, rfl, hL, hb2⟩
  clear hs1
  go_wp2_with fail
  refine (HF.out w2 g _ el hL).mono ?_
  rintro e w3 ⟨rfl, hb3⟩
  clear hL
  go_wp2_with fail
  refine (doorArg_any r w3).mono ?_
  rintro e w4 ⟨rfl, hb4⟩
  have hz1 : w.heap.size + 1 ≤ w1.heap.size := by have := hb1.size; simpa using this
  have hz2 := hb2.size
  have hz3 := hb3.size
  have hb : Below (w.alloc (.cells #[.int .i64 0, .float .f64 0, .string ⟨#[]⟩, .slice none 0 0] 64)).heap.size (w.alloc (.cells #[.int .i64 0, .float .f64 0, .string ⟨#[]⟩, .slice none 0 0] 64)) w4 :=
    ((hb1.trans (hb2.mono (by simp; omega))).trans (hb3.mono (by simp; omega))).trans (hb4.mono (by simp; omega))
  clear hb1 hb2 hb3 hb4
  obtain ⟨hcl, hfr⟩ := bcell hb
  unfold avV iv
  go_wp2
  exact end_cell Tryz.results98 rfl (Bk.set4 (Bk.below (Bk.new_at rfl) hb (by simp)) _ _ _ _) Tryz.underlying64 rfl info_av rfl
    ⟨rfl, Below.set4 (Below.lift ((Below.refl _ _).alloc (Nat.le_refl _) _) (by simp) hb) (Nat.le_refl _) _ _ _ _⟩
theorem door_LEN (l : List AV) (r : Res) (hF : Fn 128 l r) (v : Value) (w : World) (h : Sl w w.heap.size 4 v l.length (l.flatMap avCells)) (hok : ∀ a ∈ l, avOk a) (hlen : l.length ≤ 1000) :
    Calls Tryz.prog 97 #[v] w fun e w' => e = .returned (avV r.av) ∧ Below w.heap.size w w' := by
  obtain ⟨A, c, rfl, hl, hc⟩ := h
  have HF := hid hF
  have Hok := hid hok
  clear hF hok
  go_enter Tryz.func97, Tryz.ntmps97
  go_wp2_with fail
  refine (doorFuncs_any _).mono ?_
  rintro e w1 ⟨g, rfl, hb1⟩
  have HL := hid hl
  have HC := hid hc
  clear hl hc
  go_wp2_with fail
  have hs1 : Sl w1 w1.heap.size 4 (.slice A l.length c) l.length (l.flatMap avCells) := Sl.more (Sl.keep (B := w.heap.size) ⟨A, c, rfl, HL.out, HC.out⟩ ((Below.refl w.heap.size w).alloc (Nat.le_refl _) _ |>.trans (hb1.mono (by simp)))) (by have := hb1.size; simp at this; omega)
  refine (innerList_any l _ w1 hs1 Hok.out hlen).mono ?_
  rintro e w2 ⟨el, rfl, hL, hb2⟩
  clear hs1
  go_wp2_with fail
  refine (HF.out w2 g _ el hL).mono ?_
  rintro e w3 ⟨rfl, hb3⟩
  clear hL
  go_wp2_with fail
  refine (doorArg_any r w3).mono ?_
  rintro e w4 ⟨rfl, hb4⟩
  have hz1 : w.heap.size + 1 ≤ w1.heap.size := by have := hb1.size; simpa using this
  have hz2 := hb2.size
  have hz3 := hb3.size
  have hb : Below (w.alloc (.cells #[.int .i64 0, .float .f64 0, .string ⟨#[]⟩, .slice none 0 0] 64)).heap.size (w.alloc (.cells #[.int .i64 0, .float .f64 0, .string ⟨#[]⟩, .slice none 0 0] 64)) w4 :=
    ((hb1.trans (hb2.mono (by simp; omega))).trans (hb3.mono (by simp; omega))).trans (hb4.mono (by simp; omega))
  clear hb1 hb2 hb3 hb4
  obtain ⟨hcl, hfr⟩ := bcell hb
  unfold avV iv
  go_wp2
  exact end_cell Tryz.results97 rfl (Bk.set4 (Bk.below (Bk.new_at rfl) hb (by simp)) _ _ _ _) Tryz.underlying64 rfl info_av rfl
    ⟨rfl, Below.set4 (Below.lift ((Below.refl _ _).alloc (Nat.le_refl _) _) (by simp) hb) (Nat.le_refl _) _ _ _ _⟩
end Go.Proofs.YtndabbepepbnmaaGreatDoor
