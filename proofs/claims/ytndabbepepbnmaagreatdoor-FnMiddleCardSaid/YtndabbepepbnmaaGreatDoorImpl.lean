import Derived.Test.YtndabbepepbnmaaGreatDoorDoor
namespace Go.Proofs.YtndabbepepbnmaaGreatDoor
open Go.RowKit
attribute [local go_sem] run_store_float

theorem outV_any (a : AV) (w : World) : Calls Tryz.prog 67 #[avV a] w fun r w' => r = .returned (avV a) ∧ Below w.heap.size w w' := out_any a.1 a.2.1 a.2.2 w

theorem impl_NOT (l : List AV) (r : Res) (hF : Fn 120 l r) (v : Value) (w : World) (h : Sl w w.heap.size 4 v l.length (l.flatMap avCells)) (hok : ∀ a ∈ l, avOk a) (hlen : l.length ≤ 1000) :
    Calls Tryz.prog 53 #[v] w fun e w' => e = .returned (avV r.av) ∧ Below w.heap.size w w' := by
  obtain ⟨A, c, rfl, hl, hc⟩ := h
  have HF := hid hF
  have Hok := hid hok
  have HL := hid hl
  have HC := hid hc
  clear hF hok hl hc
  go_enter Tryz.func53, Tryz.ntmps53
  go_wp2_with fail
  have hs0 : Sl (w.alloc (.cells #[.int .i64 0, .float .f64 0, .string ⟨#[]⟩, .slice none 0 0] 42)) (w.heap.size + 1) 4 (.slice A l.length c) l.length (l.flatMap avCells) := Sl.more (Sl.keep (B := w.heap.size) ⟨A, c, rfl, HL.out, HC.out⟩ ((Below.refl w.heap.size w).alloc (Nat.le_refl _) _)) (by omega)
  refine (in_any l _ _ (by simpa using hs0) hlen).mono ?_
  rintro e w1 ⟨v1, rfl, hs1, hb1⟩
  clear hs0
  go_wp2_with fail
  refine (door_NOT l r HF.out v1 w1 hs1 Hok.out hlen).mono ?_
  rintro e w2 ⟨rfl, hb2⟩
  clear hs1
  go_wp2_with fail
  refine (outV_any r.av w2).mono ?_
  rintro e w3 ⟨rfl, hb3⟩
  have hz1 : w.heap.size + 1 ≤ w1.heap.size := by have := hb1.size; simpa using this
  have hz2 := hb2.size
  have hb : Below (w.alloc (.cells #[.int .i64 0, .float .f64 0, .string ⟨#[]⟩, .slice none 0 0] 42)).heap.size (w.alloc (.cells #[.int .i64 0, .float .f64 0, .string ⟨#[]⟩, .slice none 0 0] 42)) w3 :=
    (hb1.trans (hb2.mono (by simp; omega))).trans (hb3.mono (by simp; omega))
  clear hb1 hb2 hb3
  obtain ⟨hcl, hfr⟩ := bcell hb
  unfold avV iv
  go_wp2
  exact end_cell Tryz.results53 rfl (Bk.set4 (Bk.below (Bk.new_at rfl) hb (by simp)) _ _ _ _) Tryz.underlying42 rfl info_iv rfl
    ⟨rfl, Below.set4 (Below.lift ((Below.refl _ _).alloc (Nat.le_refl _) _) (by simp) hb) (Nat.le_refl _) _ _ _ _⟩
theorem impl_FACT (l : List AV) (r : Res) (hF : Fn 101 l r) (v : Value) (w : World) (h : Sl w w.heap.size 4 v l.length (l.flatMap avCells)) (hok : ∀ a ∈ l, avOk a) (hlen : l.length ≤ 1000) :
    Calls Tryz.prog 19 #[v] w fun e w' => e = .returned (avV r.av) ∧ Below w.heap.size w w' := by
  obtain ⟨A, c, rfl, hl, hc⟩ := h
  have HF := hid hF
  have Hok := hid hok
  have HL := hid hl
  have HC := hid hc
  clear hF hok hl hc
  go_enter Tryz.func19, Tryz.ntmps19
  go_wp2_with fail
  have hs0 : Sl (w.alloc (.cells #[.int .i64 0, .float .f64 0, .string ⟨#[]⟩, .slice none 0 0] 42)) (w.heap.size + 1) 4 (.slice A l.length c) l.length (l.flatMap avCells) := Sl.more (Sl.keep (B := w.heap.size) ⟨A, c, rfl, HL.out, HC.out⟩ ((Below.refl w.heap.size w).alloc (Nat.le_refl _) _)) (by omega)
  refine (in_any l _ _ (by simpa using hs0) hlen).mono ?_
  rintro e w1 ⟨v1, rfl, hs1, hb1⟩
  clear hs0
  go_wp2_with fail
  refine (door_FACT l r HF.out v1 w1 hs1 Hok.out hlen).mono ?_
  rintro e w2 ⟨rfl, hb2⟩
  clear hs1
  go_wp2_with fail
  refine (outV_any r.av w2).mono ?_
  rintro e w3 ⟨rfl, hb3⟩
  have hz1 : w.heap.size + 1 ≤ w1.heap.size := by have := hb1.size; simpa using this
  have hz2 := hb2.size
  have hb : Below (w.alloc (.cells #[.int .i64 0, .float .f64 0, .string ⟨#[]⟩, .slice none 0 0] 42)).heap.size (w.alloc (.cells #[.int .i64 0, .float .f64 0, .string ⟨#[]⟩, .slice none 0 0] 42)) w3 :=
    (hb1.trans (hb2.mono (by simp; omega))).trans (hb3.mono (by simp; omega))
  clear hb1 hb2 hb3
  obtain ⟨hcl, hfr⟩ := bcell hb
  unfold avV iv
  go_wp2
  exact end_cell Tryz.results19 rfl (Bk.set4 (Bk.below (Bk.new_at rfl) hb (by simp)) _ _ _ _) Tryz.underlying42 rfl info_iv rfl
    ⟨rfl, Below.set4 (Below.lift ((Below.refl _ _).alloc (Nat.le_refl _) _) (by simp) hb) (Nat.le_refl _) _ _ _ _⟩
theorem impl_XOR (l : List AV) (r : Res) (hF : Fn 103 l r) (v : Value) (w : World) (h : Sl w w.heap.size 4 v l.length (l.flatMap avCells)) (hok : ∀ a ∈ l, avOk a) (hlen : l.length ≤ 1000) :
    Calls Tryz.prog 22 #[v] w fun e w' => e = .returned (avV r.av) ∧ Below w.heap.size w w' := by
  obtain ⟨A, c, rfl, hl, hc⟩ := h
  have HF := hid hF
  have Hok := hid hok
  have HL := hid hl
  have HC := hid hc
  clear hF hok hl hc
  go_enter Tryz.func22, Tryz.ntmps22
  go_wp2_with fail
  have hs0 : Sl (w.alloc (.cells #[.int .i64 0, .float .f64 0, .string ⟨#[]⟩, .slice none 0 0] 42)) (w.heap.size + 1) 4 (.slice A l.length c) l.length (l.flatMap avCells) := Sl.more (Sl.keep (B := w.heap.size) ⟨A, c, rfl, HL.out, HC.out⟩ ((Below.refl w.heap.size w).alloc (Nat.le_refl _) _)) (by omega)
  refine (in_any l _ _ (by simpa using hs0) hlen).mono ?_
  rintro e w1 ⟨v1, rfl, hs1, hb1⟩
  clear hs0
  go_wp2_with fail
  refine (door_XOR l r HF.out v1 w1 hs1 Hok.out hlen).mono ?_
  rintro e w2 ⟨rfl, hb2⟩
  clear hs1
  go_wp2_with fail
  refine (outV_any r.av w2).mono ?_
  rintro e w3 ⟨rfl, hb3⟩
  have hz1 : w.heap.size + 1 ≤ w1.heap.size := by have := hb1.size; simpa using this
  have hz2 := hb2.size
  have hb : Below (w.alloc (.cells #[.int .i64 0, .float .f64 0, .string ⟨#[]⟩, .slice none 0 0] 42)).heap.size (w.alloc (.cells #[.int .i64 0, .float .f64 0, .string ⟨#[]⟩, .slice none 0 0] 42)) w3 :=
    (hb1.trans (hb2.mono (by simp; omega))).trans (hb3.mono (by simp; omega))
  clear hb1 hb2 hb3
  obtain ⟨hcl, hfr⟩ := bcell hb
  unfold avV iv
  go_wp2
  exact end_cell Tryz.results22 rfl (Bk.set4 (Bk.below (Bk.new_at rfl) hb (by simp)) _ _ _ _) Tryz.underlying42 rfl info_iv rfl
    ⟨rfl, Below.set4 (Below.lift ((Below.refl _ _).alloc (Nat.le_refl _) _) (by simp) hb) (Nat.le_refl _) _ _ _ _⟩
theorem impl_BITAND (l : List AV) (r : Res) (hF : Fn 104 l r) (v : Value) (w : World) (h : Sl w w.heap.size 4 v l.length (l.flatMap avCells)) (hok : ∀ a ∈ l, avOk a) (hlen : l.length ≤ 1000) :
    Calls Tryz.prog 24 #[v] w fun e w' => e = .returned (avV r.av) ∧ Below w.heap.size w w' := by
  obtain ⟨A, c, rfl, hl, hc⟩ := h
  have HF := hid hF
  have Hok := hid hok
  have HL := hid hl
  have HC := hid hc
  clear hF hok hl hc
  go_enter Tryz.func24, Tryz.ntmps24
  go_wp2_with fail
  have hs0 : Sl (w.alloc (.cells #[.int .i64 0, .float .f64 0, .string ⟨#[]⟩, .slice none 0 0] 42)) (w.heap.size + 1) 4 (.slice A l.length c) l.length (l.flatMap avCells) := Sl.more (Sl.keep (B := w.heap.size) ⟨A, c, rfl, HL.out, HC.out⟩ ((Below.refl w.heap.size w).alloc (Nat.le_refl _) _)) (by omega)
  refine (in_any l _ _ (by simpa using hs0) hlen).mono ?_
  rintro e w1 ⟨v1, rfl, hs1, hb1⟩
  clear hs0
  go_wp2_with fail
  refine (door_BITAND l r HF.out v1 w1 hs1 Hok.out hlen).mono ?_
  rintro e w2 ⟨rfl, hb2⟩
  clear hs1
  go_wp2_with fail
  refine (outV_any r.av w2).mono ?_
  rintro e w3 ⟨rfl, hb3⟩
  have hz1 : w.heap.size + 1 ≤ w1.heap.size := by have := hb1.size; simpa using this
  have hz2 := hb2.size
  have hb : Below (w.alloc (.cells #[.int .i64 0, .float .f64 0, .string ⟨#[]⟩, .slice none 0 0] 42)).heap.size (w.alloc (.cells #[.int .i64 0, .float .f64 0, .string ⟨#[]⟩, .slice none 0 0] 42)) w3 :=
    (hb1.trans (hb2.mono (by simp; omega))).trans (hb3.mono (by simp; omega))
  clear hb1 hb2 hb3
  obtain ⟨hcl, hfr⟩ := bcell hb
  unfold avV iv
  go_wp2
  exact end_cell Tryz.results24 rfl (Bk.set4 (Bk.below (Bk.new_at rfl) hb (by simp)) _ _ _ _) Tryz.underlying42 rfl info_iv rfl
    ⟨rfl, Below.set4 (Below.lift ((Below.refl _ _).alloc (Nat.le_refl _) _) (by simp) hb) (Nat.le_refl _) _ _ _ _⟩
theorem impl_BITOR (l : List AV) (r : Res) (hF : Fn 105 l r) (v : Value) (w : World) (h : Sl w w.heap.size 4 v l.length (l.flatMap avCells)) (hok : ∀ a ∈ l, avOk a) (hlen : l.length ≤ 1000) :
    Calls Tryz.prog 25 #[v] w fun e w' => e = .returned (avV r.av) ∧ Below w.heap.size w w' := by
  obtain ⟨A, c, rfl, hl, hc⟩ := h
  have HF := hid hF
  have Hok := hid hok
  have HL := hid hl
  have HC := hid hc
  clear hF hok hl hc
  go_enter Tryz.func25, Tryz.ntmps25
  go_wp2_with fail
  have hs0 : Sl (w.alloc (.cells #[.int .i64 0, .float .f64 0, .string ⟨#[]⟩, .slice none 0 0] 42)) (w.heap.size + 1) 4 (.slice A l.length c) l.length (l.flatMap avCells) := Sl.more (Sl.keep (B := w.heap.size) ⟨A, c, rfl, HL.out, HC.out⟩ ((Below.refl w.heap.size w).alloc (Nat.le_refl _) _)) (by omega)
  refine (in_any l _ _ (by simpa using hs0) hlen).mono ?_
  rintro e w1 ⟨v1, rfl, hs1, hb1⟩
  clear hs0
  go_wp2_with fail
  refine (door_BITOR l r HF.out v1 w1 hs1 Hok.out hlen).mono ?_
  rintro e w2 ⟨rfl, hb2⟩
  clear hs1
  go_wp2_with fail
  refine (outV_any r.av w2).mono ?_
  rintro e w3 ⟨rfl, hb3⟩
  have hz1 : w.heap.size + 1 ≤ w1.heap.size := by have := hb1.size; simpa using this
  have hz2 := hb2.size
  have hb : Below (w.alloc (.cells #[.int .i64 0, .float .f64 0, .string ⟨#[]⟩, .slice none 0 0] 42)).heap.size (w.alloc (.cells #[.int .i64 0, .float .f64 0, .string ⟨#[]⟩, .slice none 0 0] 42)) w3 :=
    (hb1.trans (hb2.mono (by simp; omega))).trans (hb3.mono (by simp; omega))
  clear hb1 hb2 hb3
  obtain ⟨hcl, hfr⟩ := bcell hb
  unfold avV iv
  go_wp2
  exact end_cell Tryz.results25 rfl (Bk.set4 (Bk.below (Bk.new_at rfl) hb (by simp)) _ _ _ _) Tryz.underlying42 rfl info_iv rfl
    ⟨rfl, Below.set4 (Below.lift ((Below.refl _ _).alloc (Nat.le_refl _) _) (by simp) hb) (Nat.le_refl _) _ _ _ _⟩
theorem impl_BITXOR (l : List AV) (r : Res) (hF : Fn 106 l r) (v : Value) (w : World) (h : Sl w w.heap.size 4 v l.length (l.flatMap avCells)) (hok : ∀ a ∈ l, avOk a) (hlen : l.length ≤ 1000) :
    Calls Tryz.prog 26 #[v] w fun e w' => e = .returned (avV r.av) ∧ Below w.heap.size w w' := by
  obtain ⟨A, c, rfl, hl, hc⟩ := h
  have HF := hid hF
  have Hok := hid hok
  have HL := hid hl
  have HC := hid hc
  clear hF hok hl hc
  go_enter Tryz.func26, Tryz.ntmps26
  go_wp2_with fail
  have hs0 : Sl (w.alloc (.cells #[.int .i64 0, .float .f64 0, .string ⟨#[]⟩, .slice none 0 0] 42)) (w.heap.size + 1) 4 (.slice A l.length c) l.length (l.flatMap avCells) := Sl.more (Sl.keep (B := w.heap.size) ⟨A, c, rfl, HL.out, HC.out⟩ ((Below.refl w.heap.size w).alloc (Nat.le_refl _) _)) (by omega)
  refine (in_any l _ _ (by simpa using hs0) hlen).mono ?_
  rintro e w1 ⟨v1, rfl, hs1, hb1⟩
  clear hs0
  go_wp2_with fail
  refine (door_BITXOR l r HF.out v1 w1 hs1 Hok.out hlen).mono ?_
  rintro e w2 ⟨rfl, hb2⟩
  clear hs1
  go_wp2_with fail
  refine (outV_any r.av w2).mono ?_
  rintro e w3 ⟨rfl, hb3⟩
  have hz1 : w.heap.size + 1 ≤ w1.heap.size := by have := hb1.size; simpa using this
  have hz2 := hb2.size
  have hb : Below (w.alloc (.cells #[.int .i64 0, .float .f64 0, .string ⟨#[]⟩, .slice none 0 0] 42)).heap.size (w.alloc (.cells #[.int .i64 0, .float .f64 0, .string ⟨#[]⟩, .slice none 0 0] 42)) w3 :=
    (hb1.trans (hb2.mono (by simp; omega))).trans (hb3.mono (by simp; omega))
  clear hb1 hb2 hb3
  obtain ⟨hcl, hfr⟩ := bcell hb
  unfold avV iv
  go_wp2
  exact end_cell Tryz.results26 rfl (Bk.set4 (Bk.below (Bk.new_at rfl) hb (by simp)) _ _ _ _) Tryz.underlying42 rfl info_iv rfl
    ⟨rfl, Below.set4 (Below.lift ((Below.refl _ _).alloc (Nat.le_refl _) _) (by simp) hb) (Nat.le_refl _) _ _ _ _⟩
theorem impl_MOD (l : List AV) (r : Res) (hF : Fn 107 l r) (v : Value) (w : World) (h : Sl w w.heap.size 4 v l.length (l.flatMap avCells)) (hok : ∀ a ∈ l, avOk a) (hlen : l.length ≤ 1000) :
    Calls Tryz.prog 27 #[v] w fun e w' => e = .returned (avV r.av) ∧ Below w.heap.size w w' := by
  obtain ⟨A, c, rfl, hl, hc⟩ := h
  have HF := hid hF
  have Hok := hid hok
  have HL := hid hl
  have HC := hid hc
  clear hF hok hl hc
  go_enter Tryz.func27, Tryz.ntmps27
  go_wp2_with fail
  have hs0 : Sl (w.alloc (.cells #[.int .i64 0, .float .f64 0, .string ⟨#[]⟩, .slice none 0 0] 42)) (w.heap.size + 1) 4 (.slice A l.length c) l.length (l.flatMap avCells) := Sl.more (Sl.keep (B := w.heap.size) ⟨A, c, rfl, HL.out, HC.out⟩ ((Below.refl w.heap.size w).alloc (Nat.le_refl _) _)) (by omega)
  refine (in_any l _ _ (by simpa using hs0) hlen).mono ?_
  rintro e w1 ⟨v1, rfl, hs1, hb1⟩
  clear hs0
  go_wp2_with fail
  refine (door_MOD l r HF.out v1 w1 hs1 Hok.out hlen).mono ?_
  rintro e w2 ⟨rfl, hb2⟩
  clear hs1
  go_wp2_with fail
  refine (outV_any r.av w2).mono ?_
  rintro e w3 ⟨rfl, hb3⟩
  have hz1 : w.heap.size + 1 ≤ w1.heap.size := by have := hb1.size; simpa using this
  have hz2 := hb2.size
  have hb : Below (w.alloc (.cells #[.int .i64 0, .float .f64 0, .string ⟨#[]⟩, .slice none 0 0] 42)).heap.size (w.alloc (.cells #[.int .i64 0, .float .f64 0, .string ⟨#[]⟩, .slice none 0 0] 42)) w3 :=
    (hb1.trans (hb2.mono (by simp; omega))).trans (hb3.mono (by simp; omega))
  clear hb1 hb2 hb3
  obtain ⟨hcl, hfr⟩ := bcell hb
  unfold avV iv
  go_wp2
  exact end_cell Tryz.results27 rfl (Bk.set4 (Bk.below (Bk.new_at rfl) hb (by simp)) _ _ _ _) Tryz.underlying42 rfl info_iv rfl
    ⟨rfl, Below.set4 (Below.lift ((Below.refl _ _).alloc (Nat.le_refl _) _) (by simp) hb) (Nat.le_refl _) _ _ _ _⟩
theorem impl_SUM (l : List AV) (r : Res) (hF : Fn 109 l r) (v : Value) (w : World) (h : Sl w w.heap.size 4 v l.length (l.flatMap avCells)) (hok : ∀ a ∈ l, avOk a) (hlen : l.length ≤ 1000) :
    Calls Tryz.prog 32 #[v] w fun e w' => e = .returned (avV r.av) ∧ Below w.heap.size w w' := by
  obtain ⟨A, c, rfl, hl, hc⟩ := h
  have HF := hid hF
  have Hok := hid hok
  have HL := hid hl
  have HC := hid hc
  clear hF hok hl hc
  go_enter Tryz.func32, Tryz.ntmps32
  go_wp2_with fail
  have hs0 : Sl (w.alloc (.cells #[.int .i64 0, .float .f64 0, .string ⟨#[]⟩, .slice none 0 0] 42)) (w.heap.size + 1) 4 (.slice A l.length c) l.length (l.flatMap avCells) := Sl.more (Sl.keep (B := w.heap.size) ⟨A, c, rfl, HL.out, HC.out⟩ ((Below.refl w.heap.size w).alloc (Nat.le_refl _) _)) (by omega)
  refine (in_any l _ _ (by simpa using hs0) hlen).mono ?_
  rintro e w1 ⟨v1, rfl, hs1, hb1⟩
  clear hs0
  go_wp2_with fail
  refine (door_SUM l r HF.out v1 w1 hs1 Hok.out hlen).mono ?_
  rintro e w2 ⟨rfl, hb2⟩
  clear hs1
  go_wp2_with fail
  refine (outV_any r.av w2).mono ?_
  rintro e w3 ⟨rfl, hb3⟩
  have hz1 : w.heap.size + 1 ≤ w1.heap.size := by have := hb1.size; simpa using this
  have hz2 := hb2.size
  have hb : Below (w.alloc (.cells #[.int .i64 0, .float .f64 0, .string ⟨#[]⟩, .slice none 0 0] 42)).heap.size (w.alloc (.cells #[.int .i64 0, .float .f64 0, .string ⟨#[]⟩, .slice none 0 0] 42)) w3 :=
    (hb1.trans (hb2.mono (by simp; omega))).trans (hb3.mono (by simp; omega))
  clear hb1 hb2 hb3
  obtain ⟨hcl, hfr⟩ := bcell hb
  unfold avV iv
  go_wp2
  exact end_cell Tryz.results32 rfl (Bk.set4 (Bk.below (Bk.new_at rfl) hb (by simp)) _ _ _ _) Tryz.underlying42 rfl info_iv rfl
    ⟨rfl, Below.set4 (Below.lift ((Below.refl _ _).alloc (Nat.le_refl _) _) (by simp) hb) (Nat.le_refl _) _ _ _ _⟩
theorem impl_COUNT (l : List AV) (r : Res) (hF : Fn 110 l r) (v : Value) (w : World) (h : Sl w w.heap.size 4 v l.length (l.flatMap avCells)) (hok : ∀ a ∈ l, avOk a) (hlen : l.length ≤ 1000) :
    Calls Tryz.prog 34 #[v] w fun e w' => e = .returned (avV r.av) ∧ Below w.heap.size w w' := by
  obtain ⟨A, c, rfl, hl, hc⟩ := h
  have HF := hid hF
  have Hok := hid hok
  have HL := hid hl
  have HC := hid hc
  clear hF hok hl hc
  go_enter Tryz.func34, Tryz.ntmps34
  go_wp2_with fail
  have hs0 : Sl (w.alloc (.cells #[.int .i64 0, .float .f64 0, .string ⟨#[]⟩, .slice none 0 0] 42)) (w.heap.size + 1) 4 (.slice A l.length c) l.length (l.flatMap avCells) := Sl.more (Sl.keep (B := w.heap.size) ⟨A, c, rfl, HL.out, HC.out⟩ ((Below.refl w.heap.size w).alloc (Nat.le_refl _) _)) (by omega)
  refine (in_any l _ _ (by simpa using hs0) hlen).mono ?_
  rintro e w1 ⟨v1, rfl, hs1, hb1⟩
  clear hs0
  go_wp2_with fail
  refine (door_COUNT l r HF.out v1 w1 hs1 Hok.out hlen).mono ?_
  rintro e w2 ⟨rfl, hb2⟩
  clear hs1
  go_wp2_with fail
  refine (outV_any r.av w2).mono ?_
  rintro e w3 ⟨rfl, hb3⟩
  have hz1 : w.heap.size + 1 ≤ w1.heap.size := by have := hb1.size; simpa using this
  have hz2 := hb2.size
  have hb : Below (w.alloc (.cells #[.int .i64 0, .float .f64 0, .string ⟨#[]⟩, .slice none 0 0] 42)).heap.size (w.alloc (.cells #[.int .i64 0, .float .f64 0, .string ⟨#[]⟩, .slice none 0 0] 42)) w3 :=
    (hb1.trans (hb2.mono (by simp; omega))).trans (hb3.mono (by simp; omega))
  clear hb1 hb2 hb3
  obtain ⟨hcl, hfr⟩ := bcell hb
  unfold avV iv
  go_wp2
  exact end_cell Tryz.results34 rfl (Bk.set4 (Bk.below (Bk.new_at rfl) hb (by simp)) _ _ _ _) Tryz.underlying42 rfl info_iv rfl
    ⟨rfl, Below.set4 (Below.lift ((Below.refl _ _).alloc (Nat.le_refl _) _) (by simp) hb) (Nat.le_refl _) _ _ _ _⟩
theorem impl_MMULT (l : List AV) (r : Res) (hF : Fn 111 l r) (v : Value) (w : World) (h : Sl w w.heap.size 4 v l.length (l.flatMap avCells)) (hok : ∀ a ∈ l, avOk a) (hlen : l.length ≤ 1000) :
    Calls Tryz.prog 36 #[v] w fun e w' => e = .returned (avV r.av) ∧ Below w.heap.size w w' := by
  obtain ⟨A, c, rfl, hl, hc⟩ := h
  have HF := hid hF
  have Hok := hid hok
  have HL := hid hl
  have HC := hid hc
  clear hF hok hl hc
  go_enter Tryz.func36, Tryz.ntmps36
  go_wp2_with fail
  have hs0 : Sl (w.alloc (.cells #[.int .i64 0, .float .f64 0, .string ⟨#[]⟩, .slice none 0 0] 42)) (w.heap.size + 1) 4 (.slice A l.length c) l.length (l.flatMap avCells) := Sl.more (Sl.keep (B := w.heap.size) ⟨A, c, rfl, HL.out, HC.out⟩ ((Below.refl w.heap.size w).alloc (Nat.le_refl _) _)) (by omega)
  refine (in_any l _ _ (by simpa using hs0) hlen).mono ?_
  rintro e w1 ⟨v1, rfl, hs1, hb1⟩
  clear hs0
  go_wp2_with fail
  refine (door_MMULT l r HF.out v1 w1 hs1 Hok.out hlen).mono ?_
  rintro e w2 ⟨rfl, hb2⟩
  clear hs1
  go_wp2_with fail
  refine (outV_any r.av w2).mono ?_
  rintro e w3 ⟨rfl, hb3⟩
  have hz1 : w.heap.size + 1 ≤ w1.heap.size := by have := hb1.size; simpa using this
  have hz2 := hb2.size
  have hb : Below (w.alloc (.cells #[.int .i64 0, .float .f64 0, .string ⟨#[]⟩, .slice none 0 0] 42)).heap.size (w.alloc (.cells #[.int .i64 0, .float .f64 0, .string ⟨#[]⟩, .slice none 0 0] 42)) w3 :=
    (hb1.trans (hb2.mono (by simp; omega))).trans (hb3.mono (by simp; omega))
  clear hb1 hb2 hb3
  obtain ⟨hcl, hfr⟩ := bcell hb
  unfold avV iv
  go_wp2
  exact end_cell Tryz.results36 rfl (Bk.set4 (Bk.below (Bk.new_at rfl) hb (by simp)) _ _ _ _) Tryz.underlying42 rfl info_iv rfl
    ⟨rfl, Below.set4 (Below.lift ((Below.refl _ _).alloc (Nat.le_refl _) _) (by simp) hb) (Nat.le_refl _) _ _ _ _⟩
theorem impl_MUNIT (l : List AV) (r : Res) (hF : Fn 112 l r) (v : Value) (w : World) (h : Sl w w.heap.size 4 v l.length (l.flatMap avCells)) (hok : ∀ a ∈ l, avOk a) (hlen : l.length ≤ 1000) :
    Calls Tryz.prog 37 #[v] w fun e w' => e = .returned (avV r.av) ∧ Below w.heap.size w w' := by
  obtain ⟨A, c, rfl, hl, hc⟩ := h
  have HF := hid hF
  have Hok := hid hok
  have HL := hid hl
  have HC := hid hc
  clear hF hok hl hc
  go_enter Tryz.func37, Tryz.ntmps37
  go_wp2_with fail
  have hs0 : Sl (w.alloc (.cells #[.int .i64 0, .float .f64 0, .string ⟨#[]⟩, .slice none 0 0] 42)) (w.heap.size + 1) 4 (.slice A l.length c) l.length (l.flatMap avCells) := Sl.more (Sl.keep (B := w.heap.size) ⟨A, c, rfl, HL.out, HC.out⟩ ((Below.refl w.heap.size w).alloc (Nat.le_refl _) _)) (by omega)
  refine (in_any l _ _ (by simpa using hs0) hlen).mono ?_
  rintro e w1 ⟨v1, rfl, hs1, hb1⟩
  clear hs0
  go_wp2_with fail
  refine (door_MUNIT l r HF.out v1 w1 hs1 Hok.out hlen).mono ?_
  rintro e w2 ⟨rfl, hb2⟩
  clear hs1
  go_wp2_with fail
  refine (outV_any r.av w2).mono ?_
  rintro e w3 ⟨rfl, hb3⟩
  have hz1 : w.heap.size + 1 ≤ w1.heap.size := by have := hb1.size; simpa using this
  have hz2 := hb2.size
  have hb : Below (w.alloc (.cells #[.int .i64 0, .float .f64 0, .string ⟨#[]⟩, .slice none 0 0] 42)).heap.size (w.alloc (.cells #[.int .i64 0, .float .f64 0, .string ⟨#[]⟩, .slice none 0 0] 42)) w3 :=
    (hb1.trans (hb2.mono (by simp; omega))).trans (hb3.mono (by simp; omega))
  clear hb1 hb2 hb3
  obtain ⟨hcl, hfr⟩ := bcell hb
  unfold avV iv
  go_wp2
  exact end_cell Tryz.results37 rfl (Bk.set4 (Bk.below (Bk.new_at rfl) hb (by simp)) _ _ _ _) Tryz.underlying42 rfl info_iv rfl
    ⟨rfl, Below.set4 (Below.lift ((Below.refl _ _).alloc (Nat.le_refl _) _) (by simp) hb) (Nat.le_refl _) _ _ _ _⟩
theorem impl_EVEN (l : List AV) (r : Res) (hF : Fn 113 l r) (v : Value) (w : World) (h : Sl w w.heap.size 4 v l.length (l.flatMap avCells)) (hok : ∀ a ∈ l, avOk a) (hlen : l.length ≤ 1000) :
    Calls Tryz.prog 41 #[v] w fun e w' => e = .returned (avV r.av) ∧ Below w.heap.size w w' := by
  obtain ⟨A, c, rfl, hl, hc⟩ := h
  have HF := hid hF
  have Hok := hid hok
  have HL := hid hl
  have HC := hid hc
  clear hF hok hl hc
  go_enter Tryz.func41, Tryz.ntmps41
  go_wp2_with fail
  have hs0 : Sl (w.alloc (.cells #[.int .i64 0, .float .f64 0, .string ⟨#[]⟩, .slice none 0 0] 42)) (w.heap.size + 1) 4 (.slice A l.length c) l.length (l.flatMap avCells) := Sl.more (Sl.keep (B := w.heap.size) ⟨A, c, rfl, HL.out, HC.out⟩ ((Below.refl w.heap.size w).alloc (Nat.le_refl _) _)) (by omega)
  refine (in_any l _ _ (by simpa using hs0) hlen).mono ?_
  rintro e w1 ⟨v1, rfl, hs1, hb1⟩
  clear hs0
  go_wp2_with fail
  refine (door_EVEN l r HF.out v1 w1 hs1 Hok.out hlen).mono ?_
  rintro e w2 ⟨rfl, hb2⟩
  clear hs1
  go_wp2_with fail
  refine (outV_any r.av w2).mono ?_
  rintro e w3 ⟨rfl, hb3⟩
  have hz1 : w.heap.size + 1 ≤ w1.heap.size := by have := hb1.size; simpa using this
  have hz2 := hb2.size
  have hb : Below (w.alloc (.cells #[.int .i64 0, .float .f64 0, .string ⟨#[]⟩, .slice none 0 0] 42)).heap.size (w.alloc (.cells #[.int .i64 0, .float .f64 0, .string ⟨#[]⟩, .slice none 0 0] 42)) w3 :=
    (hb1.trans (hb2.mono (by simp; omega))).trans (hb3.mono (by simp; omega))
  clear hb1 hb2 hb3
  obtain ⟨hcl, hfr⟩ := bcell hb
  unfold avV iv
  go_wp2
  exact end_cell Tryz.results41 rfl (Bk.set4 (Bk.below (Bk.new_at rfl) hb (by simp)) _ _ _ _) Tryz.underlying42 rfl info_iv rfl
    ⟨rfl, Below.set4 (Below.lift ((Below.refl _ _).alloc (Nat.le_refl _) _) (by simp) hb) (Nat.le_refl _) _ _ _ _⟩
theorem impl_ODD (l : List AV) (r : Res) (hF : Fn 114 l r) (v : Value) (w : World) (h : Sl w w.heap.size 4 v l.length (l.flatMap avCells)) (hok : ∀ a ∈ l, avOk a) (hlen : l.length ≤ 1000) :
    Calls Tryz.prog 43 #[v] w fun e w' => e = .returned (avV r.av) ∧ Below w.heap.size w w' := by
  obtain ⟨A, c, rfl, hl, hc⟩ := h
  have HF := hid hF
  have Hok := hid hok
  have HL := hid hl
  have HC := hid hc
  clear hF hok hl hc
  go_enter Tryz.func43, Tryz.ntmps43
  go_wp2_with fail
  have hs0 : Sl (w.alloc (.cells #[.int .i64 0, .float .f64 0, .string ⟨#[]⟩, .slice none 0 0] 42)) (w.heap.size + 1) 4 (.slice A l.length c) l.length (l.flatMap avCells) := Sl.more (Sl.keep (B := w.heap.size) ⟨A, c, rfl, HL.out, HC.out⟩ ((Below.refl w.heap.size w).alloc (Nat.le_refl _) _)) (by omega)
  refine (in_any l _ _ (by simpa using hs0) hlen).mono ?_
  rintro e w1 ⟨v1, rfl, hs1, hb1⟩
  clear hs0
  go_wp2_with fail
  refine (door_ODD l r HF.out v1 w1 hs1 Hok.out hlen).mono ?_
  rintro e w2 ⟨rfl, hb2⟩
  clear hs1
  go_wp2_with fail
  refine (outV_any r.av w2).mono ?_
  rintro e w3 ⟨rfl, hb3⟩
  have hz1 : w.heap.size + 1 ≤ w1.heap.size := by have := hb1.size; simpa using this
  have hz2 := hb2.size
  have hb : Below (w.alloc (.cells #[.int .i64 0, .float .f64 0, .string ⟨#[]⟩, .slice none 0 0] 42)).heap.size (w.alloc (.cells #[.int .i64 0, .float .f64 0, .string ⟨#[]⟩, .slice none 0 0] 42)) w3 :=
    (hb1.trans (hb2.mono (by simp; omega))).trans (hb3.mono (by simp; omega))
  clear hb1 hb2 hb3
  obtain ⟨hcl, hfr⟩ := bcell hb
  unfold avV iv
  go_wp2
  exact end_cell Tryz.results43 rfl (Bk.set4 (Bk.below (Bk.new_at rfl) hb (by simp)) _ _ _ _) Tryz.underlying42 rfl info_iv rfl
    ⟨rfl, Below.set4 (Below.lift ((Below.refl _ _).alloc (Nat.le_refl _) _) (by simp) hb) (Nat.le_refl _) _ _ _ _⟩
theorem impl_ISODD (l : List AV) (r : Res) (hF : Fn 115 l r) (v : Value) (w : World) (h : Sl w w.heap.size 4 v l.length (l.flatMap avCells)) (hok : ∀ a ∈ l, avOk a) (hlen : l.length ≤ 1000) :
    Calls Tryz.prog 44 #[v] w fun e w' => e = .returned (avV r.av) ∧ Below w.heap.size w w' := by
  obtain ⟨A, c, rfl, hl, hc⟩ := h
  have HF := hid hF
  have Hok := hid hok
  have HL := hid hl
  have HC := hid hc
  clear hF hok hl hc
  go_enter Tryz.func44, Tryz.ntmps44
  go_wp2_with fail
  have hs0 : Sl (w.alloc (.cells #[.int .i64 0, .float .f64 0, .string ⟨#[]⟩, .slice none 0 0] 42)) (w.heap.size + 1) 4 (.slice A l.length c) l.length (l.flatMap avCells) := Sl.more (Sl.keep (B := w.heap.size) ⟨A, c, rfl, HL.out, HC.out⟩ ((Below.refl w.heap.size w).alloc (Nat.le_refl _) _)) (by omega)
  refine (in_any l _ _ (by simpa using hs0) hlen).mono ?_
  rintro e w1 ⟨v1, rfl, hs1, hb1⟩
  clear hs0
  go_wp2_with fail
  refine (door_ISODD l r HF.out v1 w1 hs1 Hok.out hlen).mono ?_
  rintro e w2 ⟨rfl, hb2⟩
  clear hs1
  go_wp2_with fail
  refine (outV_any r.av w2).mono ?_
  rintro e w3 ⟨rfl, hb3⟩
  have hz1 : w.heap.size + 1 ≤ w1.heap.size := by have := hb1.size; simpa using this
  have hz2 := hb2.size
  have hb : Below (w.alloc (.cells #[.int .i64 0, .float .f64 0, .string ⟨#[]⟩, .slice none 0 0] 42)).heap.size (w.alloc (.cells #[.int .i64 0, .float .f64 0, .string ⟨#[]⟩, .slice none 0 0] 42)) w3 :=
    (hb1.trans (hb2.mono (by simp; omega))).trans (hb3.mono (by simp; omega))
  clear hb1 hb2 hb3
  obtain ⟨hcl, hfr⟩ := bcell hb
  unfold avV iv
  go_wp2
  exact end_cell Tryz.results44 rfl (Bk.set4 (Bk.below (Bk.new_at rfl) hb (by simp)) _ _ _ _) Tryz.underlying42 rfl info_iv rfl
    ⟨rfl, Below.set4 (Below.lift ((Below.refl _ _).alloc (Nat.le_refl _) _) (by simp) hb) (Nat.le_refl _) _ _ _ _⟩
theorem impl_LOWER (l : List AV) (r : Res) (hF : Fn 116 l r) (v : Value) (w : World) (h : Sl w w.heap.size 4 v l.length (l.flatMap avCells)) (hok : ∀ a ∈ l, avOk a) (hlen : l.length ≤ 1000) :
    Calls Tryz.prog 48 #[v] w fun e w' => e = .returned (avV r.av) ∧ Below w.heap.size w w' := by
  obtain ⟨A, c, rfl, hl, hc⟩ := h
  have HF := hid hF
  have Hok := hid hok
  have HL := hid hl
  have HC := hid hc
  clear hF hok hl hc
  go_enter Tryz.func48, Tryz.ntmps48
  go_wp2_with fail
  have hs0 : Sl (w.alloc (.cells #[.int .i64 0, .float .f64 0, .string ⟨#[]⟩, .slice none 0 0] 42)) (w.heap.size + 1) 4 (.slice A l.length c) l.length (l.flatMap avCells) := Sl.more (Sl.keep (B := w.heap.size) ⟨A, c, rfl, HL.out, HC.out⟩ ((Below.refl w.heap.size w).alloc (Nat.le_refl _) _)) (by omega)
  refine (in_any l _ _ (by simpa using hs0) hlen).mono ?_
  rintro e w1 ⟨v1, rfl, hs1, hb1⟩
  clear hs0
  go_wp2_with fail
  refine (door_LOWER l r HF.out v1 w1 hs1 Hok.out hlen).mono ?_
  rintro e w2 ⟨rfl, hb2⟩
  clear hs1
  go_wp2_with fail
  refine (outV_any r.av w2).mono ?_
  rintro e w3 ⟨rfl, hb3⟩
  have hz1 : w.heap.size + 1 ≤ w1.heap.size := by have := hb1.size; simpa using this
  have hz2 := hb2.size
  have hb : Below (w.alloc (.cells #[.int .i64 0, .float .f64 0, .string ⟨#[]⟩, .slice none 0 0] 42)).heap.size (w.alloc (.cells #[.int .i64 0, .float .f64 0, .string ⟨#[]⟩, .slice none 0 0] 42)) w3 :=
    (hb1.trans (hb2.mono (by simp; omega))).trans (hb3.mono (by simp; omega))
  clear hb1 hb2 hb3
  obtain ⟨hcl, hfr⟩ := bcell hb
  unfold avV iv
  go_wp2
  exact end_cell Tryz.results48 rfl (Bk.set4 (Bk.below (Bk.new_at rfl) hb (by simp)) _ _ _ _) Tryz.underlying42 rfl info_iv rfl
    ⟨rfl, Below.set4 (Below.lift ((Below.refl _ _).alloc (Nat.le_refl _) _) (by simp) hb) (Nat.le_refl _) _ _ _ _⟩
theorem impl_UPPER (l : List AV) (r : Res) (hF : Fn 117 l r) (v : Value) (w : World) (h : Sl w w.heap.size 4 v l.length (l.flatMap avCells)) (hok : ∀ a ∈ l, avOk a) (hlen : l.length ≤ 1000) :
    Calls Tryz.prog 50 #[v] w fun e w' => e = .returned (avV r.av) ∧ Below w.heap.size w w' := by
  obtain ⟨A, c, rfl, hl, hc⟩ := h
  have HF := hid hF
  have Hok := hid hok
  have HL := hid hl
  have HC := hid hc
  clear hF hok hl hc
  go_enter Tryz.func50, Tryz.ntmps50
  go_wp2_with fail
  have hs0 : Sl (w.alloc (.cells #[.int .i64 0, .float .f64 0, .string ⟨#[]⟩, .slice none 0 0] 42)) (w.heap.size + 1) 4 (.slice A l.length c) l.length (l.flatMap avCells) := Sl.more (Sl.keep (B := w.heap.size) ⟨A, c, rfl, HL.out, HC.out⟩ ((Below.refl w.heap.size w).alloc (Nat.le_refl _) _)) (by omega)
  refine (in_any l _ _ (by simpa using hs0) hlen).mono ?_
  rintro e w1 ⟨v1, rfl, hs1, hb1⟩
  clear hs0
  go_wp2_with fail
  refine (door_UPPER l r HF.out v1 w1 hs1 Hok.out hlen).mono ?_
  rintro e w2 ⟨rfl, hb2⟩
  clear hs1
  go_wp2_with fail
  refine (outV_any r.av w2).mono ?_
  rintro e w3 ⟨rfl, hb3⟩
  have hz1 : w.heap.size + 1 ≤ w1.heap.size := by have := hb1.size; simpa using this
  have hz2 := hb2.size
  have hb : Below (w.alloc (.cells #[.int .i64 0, .float .f64 0, .string ⟨#[]⟩, .slice none 0 0] 42)).heap.size (w.alloc (.cells #[.int .i64 0, .float .f64 0, .string ⟨#[]⟩, .slice none 0 0] 42)) w3 :=
    (hb1.trans (hb2.mono (by simp; omega))).trans (hb3.mono (by simp; omega))
  clear hb1 hb2 hb3
  obtain ⟨hcl, hfr⟩ := bcell hb
  unfold avV iv
  go_wp2
  exact end_cell Tryz.results50 rfl (Bk.set4 (Bk.below (Bk.new_at rfl) hb (by simp)) _ _ _ _) Tryz.underlying42 rfl info_iv rfl
    ⟨rfl, Below.set4 (Below.lift ((Below.refl _ _).alloc (Nat.le_refl _) _) (by simp) hb) (Nat.le_refl _) _ _ _ _⟩
theorem impl_GCD (l : List AV) (r : Res) (hF : Fn 118 l r) (v : Value) (w : World) (h : Sl w w.heap.size 4 v l.length (l.flatMap avCells)) (hok : ∀ a ∈ l, avOk a) (hlen : l.length ≤ 1000) :
    Calls Tryz.prog 51 #[v] w fun e w' => e = .returned (avV r.av) ∧ Below w.heap.size w w' := by
  obtain ⟨A, c, rfl, hl, hc⟩ := h
  have HF := hid hF
  have Hok := hid hok
  have HL := hid hl
  have HC := hid hc
  clear hF hok hl hc
  go_enter Tryz.func51, Tryz.ntmps51
  go_wp2_with fail
  have hs0 : Sl (w.alloc (.cells #[.int .i64 0, .float .f64 0, .string ⟨#[]⟩, .slice none 0 0] 42)) (w.heap.size + 1) 4 (.slice A l.length c) l.length (l.flatMap avCells) := Sl.more (Sl.keep (B := w.heap.size) ⟨A, c, rfl, HL.out, HC.out⟩ ((Below.refl w.heap.size w).alloc (Nat.le_refl _) _)) (by omega)
  refine (in_any l _ _ (by simpa using hs0) hlen).mono ?_
  rintro e w1 ⟨v1, rfl, hs1, hb1⟩
  clear hs0
  go_wp2_with fail
  refine (door_GCD l r HF.out v1 w1 hs1 Hok.out hlen).mono ?_
  rintro e w2 ⟨rfl, hb2⟩
  clear hs1
  go_wp2_with fail
  refine (outV_any r.av w2).mono ?_
  rintro e w3 ⟨rfl, hb3⟩
  have hz1 : w.heap.size + 1 ≤ w1.heap.size := by have := hb1.size; simpa using this
  have hz2 := hb2.size
  have hb : Below (w.alloc (.cells #[.int .i64 0, .float .f64 0, .string ⟨#[]⟩, .slice none 0 0] 42)).heap.size (w.alloc (.cells #[.int .i64 0, .float .f64 0, .string ⟨#[]⟩, .slice none 0 0] 42)) w3 :=
    (hb1.trans (hb2.mono (by simp; omega))).trans (hb3.mono (by simp; omega))
  clear hb1 hb2 hb3
  obtain ⟨hcl, hfr⟩ := bcell hb
  unfold avV iv
  go_wp2
  exact end_cell Tryz.results51 rfl (Bk.set4 (Bk.below (Bk.new_at rfl) hb (by simp)) _ _ _ _) Tryz.underlying42 rfl info_iv rfl
    ⟨rfl, Below.set4 (Below.lift ((Below.refl _ _).alloc (Nat.le_refl _) _) (by simp) hb) (Nat.le_refl _) _ _ _ _⟩
theorem impl_LCM (l : List AV) (r : Res) (hF : Fn 119 l r) (v : Value) (w : World) (h : Sl w w.heap.size 4 v l.length (l.flatMap avCells)) (hok : ∀ a ∈ l, avOk a) (hlen : l.length ≤ 1000) :
    Calls Tryz.prog 52 #[v] w fun e w' => e = .returned (avV r.av) ∧ Below w.heap.size w w' := by
  obtain ⟨A, c, rfl, hl, hc⟩ := h
  have HF := hid hF
  have Hok := hid hok
  have HL := hid hl
  have HC := hid hc
  clear hF hok hl hc
  go_enter Tryz.func52, Tryz.ntmps52
  go_wp2_with fail
  have hs0 : Sl (w.alloc (.cells #[.int .i64 0, .float .f64 0, .string ⟨#[]⟩, .slice none 0 0] 42)) (w.heap.size + 1) 4 (.slice A l.length c) l.length (l.flatMap avCells) := Sl.more (Sl.keep (B := w.heap.size) ⟨A, c, rfl, HL.out, HC.out⟩ ((Below.refl w.heap.size w).alloc (Nat.le_refl _) _)) (by omega)
  refine (in_any l _ _ (by simpa using hs0) hlen).mono ?_
  rintro e w1 ⟨v1, rfl, hs1, hb1⟩
  clear hs0
  go_wp2_with fail
  refine (door_LCM l r HF.out v1 w1 hs1 Hok.out hlen).mono ?_
  rintro e w2 ⟨rfl, hb2⟩
  clear hs1
  go_wp2_with fail
  refine (outV_any r.av w2).mono ?_
  rintro e w3 ⟨rfl, hb3⟩
  have hz1 : w.heap.size + 1 ≤ w1.heap.size := by have := hb1.size; simpa using this
  have hz2 := hb2.size
  have hb : Below (w.alloc (.cells #[.int .i64 0, .float .f64 0, .string ⟨#[]⟩, .slice none 0 0] 42)).heap.size (w.alloc (.cells #[.int .i64 0, .float .f64 0, .string ⟨#[]⟩, .slice none 0 0] 42)) w3 :=
    (hb1.trans (hb2.mono (by simp; omega))).trans (hb3.mono (by simp; omega))
  clear hb1 hb2 hb3
  obtain ⟨hcl, hfr⟩ := bcell hb
  unfold avV iv
  go_wp2
  exact end_cell Tryz.results52 rfl (Bk.set4 (Bk.below (Bk.new_at rfl) hb (by simp)) _ _ _ _) Tryz.underlying42 rfl info_iv rfl
    ⟨rfl, Below.set4 (Below.lift ((Below.refl _ _).alloc (Nat.le_refl _) _) (by simp) hb) (Nat.le_refl _) _ _ _ _⟩
theorem impl_AND (l : List AV) (r : Res) (hF : Fn 121 l r) (v : Value) (w : World) (h : Sl w w.heap.size 4 v l.length (l.flatMap avCells)) (hok : ∀ a ∈ l, avOk a) (hlen : l.length ≤ 1000) :
    Calls Tryz.prog 54 #[v] w fun e w' => e = .returned (avV r.av) ∧ Below w.heap.size w w' := by
  obtain ⟨A, c, rfl, hl, hc⟩ := h
  have HF := hid hF
  have Hok := hid hok
  have HL := hid hl
  have HC := hid hc
  clear hF hok hl hc
  go_enter Tryz.func54, Tryz.ntmps54
  go_wp2_with fail
  have hs0 : Sl (w.alloc (.cells #[.int .i64 0, .float .f64 0, .string ⟨#[]⟩, .slice none 0 0] 42)) (w.heap.size + 1) 4 (.slice A l.length c) l.length (l.flatMap avCells) := Sl.more (Sl.keep (B := w.heap.size) ⟨A, c, rfl, HL.out, HC.out⟩ ((Below.refl w.heap.size w).alloc (Nat.le_refl _) _)) (by omega)
  refine (in_any l _ _ (by simpa using hs0) hlen).mono ?_
  rintro e w1 ⟨v1, rfl, hs1, hb1⟩
  clear hs0
  go_wp2_with fail
  refine (door_AND l r HF.out v1 w1 hs1 Hok.out hlen).mono ?_
  rintro e w2 ⟨rfl, hb2⟩
  clear hs1
  go_wp2_with fail
  refine (outV_any r.av w2).mono ?_
  rintro e w3 ⟨rfl, hb3⟩
  have hz1 : w.heap.size + 1 ≤ w1.heap.size := by have := hb1.size; simpa using this
  have hz2 := hb2.size
  have hb : Below (w.alloc (.cells #[.int .i64 0, .float .f64 0, .string ⟨#[]⟩, .slice none 0 0] 42)).heap.size (w.alloc (.cells #[.int .i64 0, .float .f64 0, .string ⟨#[]⟩, .slice none 0 0] 42)) w3 :=
    (hb1.trans (hb2.mono (by simp; omega))).trans (hb3.mono (by simp; omega))
  clear hb1 hb2 hb3
  obtain ⟨hcl, hfr⟩ := bcell hb
  unfold avV iv
  go_wp2
  exact end_cell Tryz.results54 rfl (Bk.set4 (Bk.below (Bk.new_at rfl) hb (by simp)) _ _ _ _) Tryz.underlying42 rfl info_iv rfl
    ⟨rfl, Below.set4 (Below.lift ((Below.refl _ _).alloc (Nat.le_refl _) _) (by simp) hb) (Nat.le_refl _) _ _ _ _⟩
theorem impl_OR (l : List AV) (r : Res) (hF : Fn 122 l r) (v : Value) (w : World) (h : Sl w w.heap.size 4 v l.length (l.flatMap avCells)) (hok : ∀ a ∈ l, avOk a) (hlen : l.length ≤ 1000) :
    Calls Tryz.prog 55 #[v] w fun e w' => e = .returned (avV r.av) ∧ Below w.heap.size w w' := by
  obtain ⟨A, c, rfl, hl, hc⟩ := h
  have HF := hid hF
  have Hok := hid hok
  have HL := hid hl
  have HC := hid hc
  clear hF hok hl hc
  go_enter Tryz.func55, Tryz.ntmps55
  go_wp2_with fail
  have hs0 : Sl (w.alloc (.cells #[.int .i64 0, .float .f64 0, .string ⟨#[]⟩, .slice none 0 0] 42)) (w.heap.size + 1) 4 (.slice A l.length c) l.length (l.flatMap avCells) := Sl.more (Sl.keep (B := w.heap.size) ⟨A, c, rfl, HL.out, HC.out⟩ ((Below.refl w.heap.size w).alloc (Nat.le_refl _) _)) (by omega)
  refine (in_any l _ _ (by simpa using hs0) hlen).mono ?_
  rintro e w1 ⟨v1, rfl, hs1, hb1⟩
  clear hs0
  go_wp2_with fail
  refine (door_OR l r HF.out v1 w1 hs1 Hok.out hlen).mono ?_
  rintro e w2 ⟨rfl, hb2⟩
  clear hs1
  go_wp2_with fail
  refine (outV_any r.av w2).mono ?_
  rintro e w3 ⟨rfl, hb3⟩
  have hz1 : w.heap.size + 1 ≤ w1.heap.size := by have := hb1.size; simpa using this
  have hz2 := hb2.size
  have hb : Below (w.alloc (.cells #[.int .i64 0, .float .f64 0, .string ⟨#[]⟩, .slice none 0 0] 42)).heap.size (w.alloc (.cells #[.int .i64 0, .float .f64 0, .string ⟨#[]⟩, .slice none 0 0] 42)) w3 :=
    (hb1.trans (hb2.mono (by simp; omega))).trans (hb3.mono (by simp; omega))
  clear hb1 hb2 hb3
  obtain ⟨hcl, hfr⟩ := bcell hb
  unfold avV iv
  go_wp2
  exact end_cell Tryz.results55 rfl (Bk.set4 (Bk.below (Bk.new_at rfl) hb (by simp)) _ _ _ _) Tryz.underlying42 rfl info_iv rfl
    ⟨rfl, Below.set4 (Below.lift ((Below.refl _ _).alloc (Nat.le_refl _) _) (by simp) hb) (Nat.le_refl _) _ _ _ _⟩
theorem impl_MEDIAN (l : List AV) (r : Res) (hF : Fn 123 l r) (v : Value) (w : World) (h : Sl w w.heap.size 4 v l.length (l.flatMap avCells)) (hok : ∀ a ∈ l, avOk a) (hlen : l.length ≤ 1000) :
    Calls Tryz.prog 56 #[v] w fun e w' => e = .returned (avV r.av) ∧ Below w.heap.size w w' := by
  obtain ⟨A, c, rfl, hl, hc⟩ := h
  have HF := hid hF
  have Hok := hid hok
  have HL := hid hl
  have HC := hid hc
  clear hF hok hl hc
  go_enter Tryz.func56, Tryz.ntmps56
  go_wp2_with fail
  have hs0 : Sl (w.alloc (.cells #[.int .i64 0, .float .f64 0, .string ⟨#[]⟩, .slice none 0 0] 42)) (w.heap.size + 1) 4 (.slice A l.length c) l.length (l.flatMap avCells) := Sl.more (Sl.keep (B := w.heap.size) ⟨A, c, rfl, HL.out, HC.out⟩ ((Below.refl w.heap.size w).alloc (Nat.le_refl _) _)) (by omega)
  refine (in_any l _ _ (by simpa using hs0) hlen).mono ?_
  rintro e w1 ⟨v1, rfl, hs1, hb1⟩
  clear hs0
  go_wp2_with fail
  refine (door_MEDIAN l r HF.out v1 w1 hs1 Hok.out hlen).mono ?_
  rintro e w2 ⟨rfl, hb2⟩
  clear hs1
  go_wp2_with fail
  refine (outV_any r.av w2).mono ?_
  rintro e w3 ⟨rfl, hb3⟩
  have hz1 : w.heap.size + 1 ≤ w1.heap.size := by have := hb1.size; simpa using this
  have hz2 := hb2.size
  have hb : Below (w.alloc (.cells #[.int .i64 0, .float .f64 0, .string ⟨#[]⟩, .slice none 0 0] 42)).heap.size (w.alloc (.cells #[.int .i64 0, .float .f64 0, .string ⟨#[]⟩, .slice none 0 0] 42)) w3 :=
    (hb1.trans (hb2.mono (by simp; omega))).trans (hb3.mono (by simp; omega))
  clear hb1 hb2 hb3
  obtain ⟨hcl, hfr⟩ := bcell hb
  unfold avV iv
  go_wp2
  exact end_cell Tryz.results56 rfl (Bk.set4 (Bk.below (Bk.new_at rfl) hb (by simp)) _ _ _ _) Tryz.underlying42 rfl info_iv rfl
    ⟨rfl, Below.set4 (Below.lift ((Below.refl _ _).alloc (Nat.le_refl _) _) (by simp) hb) (Nat.le_refl _) _ _ _ _⟩
theorem impl_LARGE (l : List AV) (r : Res) (hF : Fn 124 l r) (v : Value) (w : World) (h : Sl w w.heap.size 4 v l.length (l.flatMap avCells)) (hok : ∀ a ∈ l, avOk a) (hlen : l.length ≤ 1000) :
    Calls Tryz.prog 57 #[v] w fun e w' => e = .returned (avV r.av) ∧ Below w.heap.size w w' := by
  obtain ⟨A, c, rfl, hl, hc⟩ := h
  have HF := hid hF
  have Hok := hid hok
  have HL := hid hl
  have HC := hid hc
  clear hF hok hl hc
  go_enter Tryz.func57, Tryz.ntmps57
  go_wp2_with fail
  have hs0 : Sl (w.alloc (.cells #[.int .i64 0, .float .f64 0, .string ⟨#[]⟩, .slice none 0 0] 42)) (w.heap.size + 1) 4 (.slice A l.length c) l.length (l.flatMap avCells) := Sl.more (Sl.keep (B := w.heap.size) ⟨A, c, rfl, HL.out, HC.out⟩ ((Below.refl w.heap.size w).alloc (Nat.le_refl _) _)) (by omega)
  refine (in_any l _ _ (by simpa using hs0) hlen).mono ?_
  rintro e w1 ⟨v1, rfl, hs1, hb1⟩
  clear hs0
  go_wp2_with fail
  refine (door_LARGE l r HF.out v1 w1 hs1 Hok.out hlen).mono ?_
  rintro e w2 ⟨rfl, hb2⟩
  clear hs1
  go_wp2_with fail
  refine (outV_any r.av w2).mono ?_
  rintro e w3 ⟨rfl, hb3⟩
  have hz1 : w.heap.size + 1 ≤ w1.heap.size := by have := hb1.size; simpa using this
  have hz2 := hb2.size
  have hb : Below (w.alloc (.cells #[.int .i64 0, .float .f64 0, .string ⟨#[]⟩, .slice none 0 0] 42)).heap.size (w.alloc (.cells #[.int .i64 0, .float .f64 0, .string ⟨#[]⟩, .slice none 0 0] 42)) w3 :=
    (hb1.trans (hb2.mono (by simp; omega))).trans (hb3.mono (by simp; omega))
  clear hb1 hb2 hb3
  obtain ⟨hcl, hfr⟩ := bcell hb
  unfold avV iv
  go_wp2
  exact end_cell Tryz.results57 rfl (Bk.set4 (Bk.below (Bk.new_at rfl) hb (by simp)) _ _ _ _) Tryz.underlying42 rfl info_iv rfl
    ⟨rfl, Below.set4 (Below.lift ((Below.refl _ _).alloc (Nat.le_refl _) _) (by simp) hb) (Nat.le_refl _) _ _ _ _⟩
theorem impl_SMALL (l : List AV) (r : Res) (hF : Fn 125 l r) (v : Value) (w : World) (h : Sl w w.heap.size 4 v l.length (l.flatMap avCells)) (hok : ∀ a ∈ l, avOk a) (hlen : l.length ≤ 1000) :
    Calls Tryz.prog 58 #[v] w fun e w' => e = .returned (avV r.av) ∧ Below w.heap.size w w' := by
  obtain ⟨A, c, rfl, hl, hc⟩ := h
  have HF := hid hF
  have Hok := hid hok
  have HL := hid hl
  have HC := hid hc
  clear hF hok hl hc
  go_enter Tryz.func58, Tryz.ntmps58
  go_wp2_with fail
  have hs0 : Sl (w.alloc (.cells #[.int .i64 0, .float .f64 0, .string ⟨#[]⟩, .slice none 0 0] 42)) (w.heap.size + 1) 4 (.slice A l.length c) l.length (l.flatMap avCells) := Sl.more (Sl.keep (B := w.heap.size) ⟨A, c, rfl, HL.out, HC.out⟩ ((Below.refl w.heap.size w).alloc (Nat.le_refl _) _)) (by omega)
  refine (in_any l _ _ (by simpa using hs0) hlen).mono ?_
  rintro e w1 ⟨v1, rfl, hs1, hb1⟩
  clear hs0
  go_wp2_with fail
  refine (door_SMALL l r HF.out v1 w1 hs1 Hok.out hlen).mono ?_
  rintro e w2 ⟨rfl, hb2⟩
  clear hs1
  go_wp2_with fail
  refine (outV_any r.av w2).mono ?_
  rintro e w3 ⟨rfl, hb3⟩
  have hz1 : w.heap.size + 1 ≤ w1.heap.size := by have := hb1.size; simpa using this
  have hz2 := hb2.size
  have hb : Below (w.alloc (.cells #[.int .i64 0, .float .f64 0, .string ⟨#[]⟩, .slice none 0 0] 42)).heap.size (w.alloc (.cells #[.int .i64 0, .float .f64 0, .string ⟨#[]⟩, .slice none 0 0] 42)) w3 :=
    (hb1.trans (hb2.mono (by simp; omega))).trans (hb3.mono (by simp; omega))
  clear hb1 hb2 hb3
  obtain ⟨hcl, hfr⟩ := bcell hb
  unfold avV iv
  go_wp2
  exact end_cell Tryz.results58 rfl (Bk.set4 (Bk.below (Bk.new_at rfl) hb (by simp)) _ _ _ _) Tryz.underlying42 rfl info_iv rfl
    ⟨rfl, Below.set4 (Below.lift ((Below.refl _ _).alloc (Nat.le_refl _) _) (by simp) hb) (Nat.le_refl _) _ _ _ _⟩
theorem impl_CHAR (l : List AV) (r : Res) (hF : Fn 127 l r) (v : Value) (w : World) (h : Sl w w.heap.size 4 v l.length (l.flatMap avCells)) (hok : ∀ a ∈ l, avOk a) (hlen : l.length ≤ 1000) :
    Calls Tryz.prog 60 #[v] w fun e w' => e = .returned (avV r.av) ∧ Below w.heap.size w w' := by
  obtain ⟨A, c, rfl, hl, hc⟩ := h
  have HF := hid hF
  have Hok := hid hok
  have HL := hid hl
  have HC := hid hc
  clear hF hok hl hc
  go_enter Tryz.func60, Tryz.ntmps60
  go_wp2_with fail
  have hs0 : Sl (w.alloc (.cells #[.int .i64 0, .float .f64 0, .string ⟨#[]⟩, .slice none 0 0] 42)) (w.heap.size + 1) 4 (.slice A l.length c) l.length (l.flatMap avCells) := Sl.more (Sl.keep (B := w.heap.size) ⟨A, c, rfl, HL.out, HC.out⟩ ((Below.refl w.heap.size w).alloc (Nat.le_refl _) _)) (by omega)
  refine (in_any l _ _ (by simpa using hs0) hlen).mono ?_
  rintro e w1 ⟨v1, rfl, hs1, hb1⟩
  clear hs0
  go_wp2_with fail
  refine (door_CHAR l r HF.out v1 w1 hs1 Hok.out hlen).mono ?_
  rintro e w2 ⟨rfl, hb2⟩
  clear hs1
  go_wp2_with fail
  refine (outV_any r.av w2).mono ?_
  rintro e w3 ⟨rfl, hb3⟩
  have hz1 : w.heap.size + 1 ≤ w1.heap.size := by have := hb1.size; simpa using this
  have hz2 := hb2.size
  have hb : Below (w.alloc (.cells #[.int .i64 0, .float .f64 0, .string ⟨#[]⟩, .slice none 0 0] 42)).heap.size (w.alloc (.cells #[.int .i64 0, .float .f64 0, .string ⟨#[]⟩, .slice none 0 0] 42)) w3 :=
    (hb1.trans (hb2.mono (by simp; omega))).trans (hb3.mono (by simp; omega))
  clear hb1 hb2 hb3
  obtain ⟨hcl, hfr⟩ := bcell hb
  unfold avV iv
  go_wp2
  exact end_cell Tryz.results60 rfl (Bk.set4 (Bk.below (Bk.new_at rfl) hb (by simp)) _ _ _ _) Tryz.underlying42 rfl info_iv rfl
    ⟨rfl, Below.set4 (Below.lift ((Below.refl _ _).alloc (Nat.le_refl _) _) (by simp) hb) (Nat.le_refl _) _ _ _ _⟩
theorem impl_CODE (l : List AV) (r : Res) (hF : Fn 126 l r) (v : Value) (w : World) (h : Sl w w.heap.size 4 v l.length (l.flatMap avCells)) (hok : ∀ a ∈ l, avOk a) (hlen : l.length ≤ 1000) :
    Calls Tryz.prog 59 #[v] w fun e w' => e = .returned (avV r.av) ∧ Below w.heap.size w w' := by
  obtain ⟨A, c, rfl, hl, hc⟩ := h
  have HF := hid hF
  have Hok := hid hok
  have HL := hid hl
  have HC := hid hc
  clear hF hok hl hc
  go_enter Tryz.func59, Tryz.ntmps59
  go_wp2_with fail
  have hs0 : Sl (w.alloc (.cells #[.int .i64 0, .float .f64 0, .string ⟨#[]⟩, .slice none 0 0] 42)) (w.heap.size + 1) 4 (.slice A l.length c) l.length (l.flatMap avCells) := Sl.more (Sl.keep (B := w.heap.size) ⟨A, c, rfl, HL.out, HC.out⟩ ((Below.refl w.heap.size w).alloc (Nat.le_refl _) _)) (by omega)
  refine (in_any l _ _ (by simpa using hs0) hlen).mono ?_
  rintro e w1 ⟨v1, rfl, hs1, hb1⟩
  clear hs0
  go_wp2_with fail
  refine (door_CODE l r HF.out v1 w1 hs1 Hok.out hlen).mono ?_
  rintro e w2 ⟨rfl, hb2⟩
  clear hs1
  go_wp2_with fail
  refine (outV_any r.av w2).mono ?_
  rintro e w3 ⟨rfl, hb3⟩
  have hz1 : w.heap.size + 1 ≤ w1.heap.size := by have := hb1.size; simpa using this
  have hz2 := hb2.size
  have hb : Below (w.alloc (.cells #[.int .i64 0, .float .f64 0, .string ⟨#[]⟩, .slice none 0 0] 42)).heap.size (w.alloc (.cells #[.int .i64 0, .float .f64 0, .string ⟨#[]⟩, .slice none 0 0] 42)) w3 :=
    (hb1.trans (hb2.mono (by simp; omega))).trans (hb3.mono (by simp; omega))
  clear hb1 hb2 hb3
  obtain ⟨hcl, hfr⟩ := bcell hb
  unfold avV iv
  go_wp2
  exact end_cell Tryz.results59 rfl (Bk.set4 (Bk.below (Bk.new_at rfl) hb (by simp)) _ _ _ _) Tryz.underlying42 rfl info_iv rfl
    ⟨rfl, Below.set4 (Below.lift ((Below.refl _ _).alloc (Nat.le_refl _) _) (by simp) hb) (Nat.le_refl _) _ _ _ _⟩
theorem impl_REPT (l : List AV) (r : Res) (hF : Fn 129 l r) (v : Value) (w : World) (h : Sl w w.heap.size 4 v l.length (l.flatMap avCells)) (hok : ∀ a ∈ l, avOk a) (hlen : l.length ≤ 1000) :
    Calls Tryz.prog 62 #[v] w fun e w' => e = .returned (avV r.av) ∧ Below w.heap.size w w' := by
  obtain ⟨A, c, rfl, hl, hc⟩ := h
  have HF := hid hF
  have Hok := hid hok
  have HL := hid hl
  have HC := hid hc
  clear hF hok hl hc
  go_enter Tryz.func62, Tryz.ntmps62
  go_wp2_with fail
  have hs0 : Sl (w.alloc (.cells #[.int .i64 0, .float .f64 0, .string ⟨#[]⟩, .slice none 0 0] 42)) (w.heap.size + 1) 4 (.slice A l.length c) l.length (l.flatMap avCells) := Sl.more (Sl.keep (B := w.heap.size) ⟨A, c, rfl, HL.out, HC.out⟩ ((Below.refl w.heap.size w).alloc (Nat.le_refl _) _)) (by omega)
  refine (in_any l _ _ (by simpa using hs0) hlen).mono ?_
  rintro e w1 ⟨v1, rfl, hs1, hb1⟩
  clear hs0
  go_wp2_with fail
  refine (door_REPT l r HF.out v1 w1 hs1 Hok.out hlen).mono ?_
  rintro e w2 ⟨rfl, hb2⟩
  clear hs1
  go_wp2_with fail
  refine (outV_any r.av w2).mono ?_
  rintro e w3 ⟨rfl, hb3⟩
  have hz1 : w.heap.size + 1 ≤ w1.heap.size := by have := hb1.size; simpa using this
  have hz2 := hb2.size
  have hb : Below (w.alloc (.cells #[.int .i64 0, .float .f64 0, .string ⟨#[]⟩, .slice none 0 0] 42)).heap.size (w.alloc (.cells #[.int .i64 0, .float .f64 0, .string ⟨#[]⟩, .slice none 0 0] 42)) w3 :=
    (hb1.trans (hb2.mono (by simp; omega))).trans (hb3.mono (by simp; omega))
  clear hb1 hb2 hb3
  obtain ⟨hcl, hfr⟩ := bcell hb
  unfold avV iv
  go_wp2
  exact end_cell Tryz.results62 rfl (Bk.set4 (Bk.below (Bk.new_at rfl) hb (by simp)) _ _ _ _) Tryz.underlying42 rfl info_iv rfl
    ⟨rfl, Below.set4 (Below.lift ((Below.refl _ _).alloc (Nat.le_refl _) _) (by simp) hb) (Nat.le_refl _) _ _ _ _⟩
theorem impl_LEN (l : List AV) (r : Res) (hF : Fn 128 l r) (v : Value) (w : World) (h : Sl w w.heap.size 4 v l.length (l.flatMap avCells)) (hok : ∀ a ∈ l, avOk a) (hlen : l.length ≤ 1000) :
    Calls Tryz.prog 61 #[v] w fun e w' => e = .returned (avV r.av) ∧ Below w.heap.size w w' := by
  obtain ⟨A, c, rfl, hl, hc⟩ := h
  have HF := hid hF
  have Hok := hid hok
  have HL := hid hl
  have HC := hid hc
  clear hF hok hl hc
  go_enter Tryz.func61, Tryz.ntmps61
  go_wp2_with fail
  have hs0 : Sl (w.alloc (.cells #[.int .i64 0, .float .f64 0, .string ⟨#[]⟩, .slice none 0 0] 42)) (w.heap.size + 1) 4 (.slice A l.length c) l.length (l.flatMap avCells) := Sl.more (Sl.keep (B := w.heap.size) ⟨A, c, rfl, HL.out, HC.out⟩ ((Below.refl w.heap.size w).alloc (Nat.le_refl _) _)) (by omega)
  refine (in_any l _ _ (by simpa using hs0) hlen).mono ?_
  rintro e w1 ⟨v1, rfl, hs1, hb1⟩
  clear hs0
  go_wp2_with fail
  refine (door_LEN l r HF.out v1 w1 hs1 Hok.out hlen).mono ?_
  rintro e w2 ⟨rfl, hb2⟩
  clear hs1
  go_wp2_with fail
  refine (outV_any r.av w2).mono ?_
  rintro e w3 ⟨rfl, hb3⟩
  have hz1 : w.heap.size + 1 ≤ w1.heap.size := by have := hb1.size; simpa using this
  have hz2 := hb2.size
  have hb : Below (w.alloc (.cells #[.int .i64 0, .float .f64 0, .string ⟨#[]⟩, .slice none 0 0] 42)).heap.size (w.alloc (.cells #[.int .i64 0, .float .f64 0, .string ⟨#[]⟩, .slice none 0 0] 42)) w3 :=
    (hb1.trans (hb2.mono (by simp; omega))).trans (hb3.mono (by simp; omega))
  clear hb1 hb2 hb3
  obtain ⟨hcl, hfr⟩ := bcell hb
  unfold avV iv
  go_wp2
  exact end_cell Tryz.results61 rfl (Bk.set4 (Bk.below (Bk.new_at rfl) hb (by simp)) _ _ _ _) Tryz.underlying42 rfl info_iv rfl
    ⟨rfl, Below.set4 (Below.lift ((Below.refl _ _).alloc (Nat.le_refl _) _) (by simp) hb) (Nat.le_refl _) _ _ _ _⟩
end Go.Proofs.YtndabbepepbnmaaGreatDoor
