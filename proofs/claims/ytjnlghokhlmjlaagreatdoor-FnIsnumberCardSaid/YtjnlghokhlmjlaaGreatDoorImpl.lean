import Derived.Test.YtjnlghokhlmjlaaGreatDoorDoor
namespace Go.Proofs.YtjnlghokhlmjlaaGreatDoor
open Go.RowKit
attribute [local go_sem] run_store_float

theorem outV_any (a : AV) (w : World) : Calls Tryz.prog 24 #[avV a] w fun r w' => r = .returned (avV a) ∧ Below w.heap.size w w' := out_any a.1 a.2.1 a.2.2 w

theorem impl_NOT (l : List AV) (r : Res) (hF : Fn 44 l r) (v : Value) (w : World) (h : Sl w w.heap.size 4 v l.length (l.flatMap avCells)) (hok : ∀ a ∈ l, avOk a) (hlen : l.length ≤ 1000) :
    Calls Tryz.prog 14 #[v] w fun e w' => e = .returned (avV r.av) ∧ Below w.heap.size w w' := by
  obtain ⟨A, c, rfl, hl, hc⟩ := h
  have HF := hid hF
  have Hok := hid hok
  have HL := hid hl
  have HC := hid hc
  clear hF hok hl hc
  go_enter Tryz.func14, Tryz.ntmps14
  go_wp2_with fail
  have hs0 : Sl (w.alloc (.cells #[.int .i64 0, .float .f64 0, .string ⟨#[]⟩, .slice none 0 0] 46)) (w.heap.size + 1) 4 (.slice A l.length c) l.length (l.flatMap avCells) := Sl.more (Sl.keep (B := w.heap.size) ⟨A, c, rfl, HL.out, HC.out⟩ ((Below.refl w.heap.size w).alloc (Nat.le_refl _) _)) (by omega)
  refine (in_any l _ _ (by simpa using hs0) hlen).mono ?_
  rintro e w1 ⟨v1, rfl, hs1, hb1⟩
  clear hs0
  go_wp2_with fail
  refine (door_NOT l r HF.out v1 w1 hs1 Hok.out hlen).mono ?_
  rintro e w2 ⟨rfl, hb2⟩
  clear hs1
  go_wp2_with fail
  refine (outV_any r.av w2).mono ?_
  rintro e w3 ⟨rfl, hb3⟩
  have hz1 : w.heap.size + 1 ≤ w1.heap.size := by have := hb1.size; simpa using this
  have hz2 := hb2.size
  have hb : Below (w.alloc (.cells #[.int .i64 0, .float .f64 0, .string ⟨#[]⟩, .slice none 0 0] 46)).heap.size (w.alloc (.cells #[.int .i64 0, .float .f64 0, .string ⟨#[]⟩, .slice none 0 0] 46)) w3 :=
    (hb1.trans (hb2.mono (by simp; omega))).trans (hb3.mono (by simp; omega))
  clear hb1 hb2 hb3
  obtain ⟨hcl, hfr⟩ := bcell hb
  unfold avV iv
  go_wp2
  exact end_cell Tryz.results14 rfl (Bk.set4 (Bk.below (Bk.new_at rfl) hb (by simp)) _ _ _ _) Tryz.underlying46 rfl info_iv rfl
    ⟨rfl, Below.set4 (Below.lift ((Below.refl _ _).alloc (Nat.le_refl _) _) (by simp) hb) (Nat.le_refl _) _ _ _ _⟩
theorem impl_IFS (l : List AV) (r : Res) (hF : Fn 41 l r) (v : Value) (w : World) (h : Sl w w.heap.size 4 v l.length (l.flatMap avCells)) (hok : ∀ a ∈ l, avOk a) (hlen : l.length ≤ 1000) :
    Calls Tryz.prog 9 #[v] w fun e w' => e = .returned (avV r.av) ∧ Below w.heap.size w w' := by
  obtain ⟨A, c, rfl, hl, hc⟩ := h
  have HF := hid hF
  have Hok := hid hok
  have HL := hid hl
  have HC := hid hc
  clear hF hok hl hc
  go_enter Tryz.func9, Tryz.ntmps9
  go_wp2_with fail
  have hs0 : Sl (w.alloc (.cells #[.int .i64 0, .float .f64 0, .string ⟨#[]⟩, .slice none 0 0] 46)) (w.heap.size + 1) 4 (.slice A l.length c) l.length (l.flatMap avCells) := Sl.more (Sl.keep (B := w.heap.size) ⟨A, c, rfl, HL.out, HC.out⟩ ((Below.refl w.heap.size w).alloc (Nat.le_refl _) _)) (by omega)
  refine (in_any l _ _ (by simpa using hs0) hlen).mono ?_
  rintro e w1 ⟨v1, rfl, hs1, hb1⟩
  clear hs0
  go_wp2_with fail
  refine (door_IFS l r HF.out v1 w1 hs1 Hok.out hlen).mono ?_
  rintro e w2 ⟨rfl, hb2⟩
  clear hs1
  go_wp2_with fail
  refine (outV_any r.av w2).mono ?_
  rintro e w3 ⟨rfl, hb3⟩
  have hz1 : w.heap.size + 1 ≤ w1.heap.size := by have := hb1.size; simpa using this
  have hz2 := hb2.size
  have hb : Below (w.alloc (.cells #[.int .i64 0, .float .f64 0, .string ⟨#[]⟩, .slice none 0 0] 46)).heap.size (w.alloc (.cells #[.int .i64 0, .float .f64 0, .string ⟨#[]⟩, .slice none 0 0] 46)) w3 :=
    (hb1.trans (hb2.mono (by simp; omega))).trans (hb3.mono (by simp; omega))
  clear hb1 hb2 hb3
  obtain ⟨hcl, hfr⟩ := bcell hb
  unfold avV iv
  go_wp2
  exact end_cell Tryz.results9 rfl (Bk.set4 (Bk.below (Bk.new_at rfl) hb (by simp)) _ _ _ _) Tryz.underlying46 rfl info_iv rfl
    ⟨rfl, Below.set4 (Below.lift ((Below.refl _ _).alloc (Nat.le_refl _) _) (by simp) hb) (Nat.le_refl _) _ _ _ _⟩
theorem impl_ISNUMBER (l : List AV) (r : Res) (hF : Fn 43 l r) (v : Value) (w : World) (h : Sl w w.heap.size 4 v l.length (l.flatMap avCells)) (hok : ∀ a ∈ l, avOk a) (hlen : l.length ≤ 1000) :
    Calls Tryz.prog 11 #[v] w fun e w' => e = .returned (avV r.av) ∧ Below w.heap.size w w' := by
  obtain ⟨A, c, rfl, hl, hc⟩ := h
  have HF := hid hF
  have Hok := hid hok
  have HL := hid hl
  have HC := hid hc
  clear hF hok hl hc
  go_enter Tryz.func11, Tryz.ntmps11
  go_wp2_with fail
  have hs0 : Sl (w.alloc (.cells #[.int .i64 0, .float .f64 0, .string ⟨#[]⟩, .slice none 0 0] 46)) (w.heap.size + 1) 4 (.slice A l.length c) l.length (l.flatMap avCells) := Sl.more (Sl.keep (B := w.heap.size) ⟨A, c, rfl, HL.out, HC.out⟩ ((Below.refl w.heap.size w).alloc (Nat.le_refl _) _)) (by omega)
  refine (in_any l _ _ (by simpa using hs0) hlen).mono ?_
  rintro e w1 ⟨v1, rfl, hs1, hb1⟩
  clear hs0
  go_wp2_with fail
  refine (door_ISNUMBER l r HF.out v1 w1 hs1 Hok.out hlen).mono ?_
  rintro e w2 ⟨rfl, hb2⟩
  clear hs1
  go_wp2_with fail
  refine (outV_any r.av w2).mono ?_
  rintro e w3 ⟨rfl, hb3⟩
  have hz1 : w.heap.size + 1 ≤ w1.heap.size := by have := hb1.size; simpa using this
  have hz2 := hb2.size
  have hb : Below (w.alloc (.cells #[.int .i64 0, .float .f64 0, .string ⟨#[]⟩, .slice none 0 0] 46)).heap.size (w.alloc (.cells #[.int .i64 0, .float .f64 0, .string ⟨#[]⟩, .slice none 0 0] 46)) w3 :=
    (hb1.trans (hb2.mono (by simp; omega))).trans (hb3.mono (by simp; omega))
  clear hb1 hb2 hb3
  obtain ⟨hcl, hfr⟩ := bcell hb
  unfold avV iv
  go_wp2
  exact end_cell Tryz.results11 rfl (Bk.set4 (Bk.below (Bk.new_at rfl) hb (by simp)) _ _ _ _) Tryz.underlying46 rfl info_iv rfl
    ⟨rfl, Below.set4 (Below.lift ((Below.refl _ _).alloc (Nat.le_refl _) _) (by simp) hb) (Nat.le_refl _) _ _ _ _⟩
theorem impl_AND (l : List AV) (r : Res) (hF : Fn 45 l r) (v : Value) (w : World) (h : Sl w w.heap.size 4 v l.length (l.flatMap avCells)) (hok : ∀ a ∈ l, avOk a) (hlen : l.length ≤ 1000) :
    Calls Tryz.prog 15 #[v] w fun e w' => e = .returned (avV r.av) ∧ Below w.heap.size w w' := by
  obtain ⟨A, c, rfl, hl, hc⟩ := h
  have HF := hid hF
  have Hok := hid hok
  have HL := hid hl
  have HC := hid hc
  clear hF hok hl hc
  go_enter Tryz.func15, Tryz.ntmps15
  go_wp2_with fail
  have hs0 : Sl (w.alloc (.cells #[.int .i64 0, .float .f64 0, .string ⟨#[]⟩, .slice none 0 0] 46)) (w.heap.size + 1) 4 (.slice A l.length c) l.length (l.flatMap avCells) := Sl.more (Sl.keep (B := w.heap.size) ⟨A, c, rfl, HL.out, HC.out⟩ ((Below.refl w.heap.size w).alloc (Nat.le_refl _) _)) (by omega)
  refine (in_any l _ _ (by simpa using hs0) hlen).mono ?_
  rintro e w1 ⟨v1, rfl, hs1, hb1⟩
  clear hs0
  go_wp2_with fail
  refine (door_AND l r HF.out v1 w1 hs1 Hok.out hlen).mono ?_
  rintro e w2 ⟨rfl, hb2⟩
  clear hs1
  go_wp2_with fail
  refine (outV_any r.av w2).mono ?_
  rintro e w3 ⟨rfl, hb3⟩
  have hz1 : w.heap.size + 1 ≤ w1.heap.size := by have := hb1.size; simpa using this
  have hz2 := hb2.size
  have hb : Below (w.alloc (.cells #[.int .i64 0, .float .f64 0, .string ⟨#[]⟩, .slice none 0 0] 46)).heap.size (w.alloc (.cells #[.int .i64 0, .float .f64 0, .string ⟨#[]⟩, .slice none 0 0] 46)) w3 :=
    (hb1.trans (hb2.mono (by simp; omega))).trans (hb3.mono (by simp; omega))
  clear hb1 hb2 hb3
  obtain ⟨hcl, hfr⟩ := bcell hb
  unfold avV iv
  go_wp2
  exact end_cell Tryz.results15 rfl (Bk.set4 (Bk.below (Bk.new_at rfl) hb (by simp)) _ _ _ _) Tryz.underlying46 rfl info_iv rfl
    ⟨rfl, Below.set4 (Below.lift ((Below.refl _ _).alloc (Nat.le_refl _) _) (by simp) hb) (Nat.le_refl _) _ _ _ _⟩
theorem impl_OR (l : List AV) (r : Res) (hF : Fn 46 l r) (v : Value) (w : World) (h : Sl w w.heap.size 4 v l.length (l.flatMap avCells)) (hok : ∀ a ∈ l, avOk a) (hlen : l.length ≤ 1000) :
    Calls Tryz.prog 16 #[v] w fun e w' => e = .returned (avV r.av) ∧ Below w.heap.size w w' := by
  obtain ⟨A, c, rfl, hl, hc⟩ := h
  have HF := hid hF
  have Hok := hid hok
  have HL := hid hl
  have HC := hid hc
  clear hF hok hl hc
  go_enter Tryz.func16, Tryz.ntmps16
  go_wp2_with fail
  have hs0 : Sl (w.alloc (.cells #[.int .i64 0, .float .f64 0, .string ⟨#[]⟩, .slice none 0 0] 46)) (w.heap.size + 1) 4 (.slice A l.length c) l.length (l.flatMap avCells) := Sl.more (Sl.keep (B := w.heap.size) ⟨A, c, rfl, HL.out, HC.out⟩ ((Below.refl w.heap.size w).alloc (Nat.le_refl _) _)) (by omega)
  refine (in_any l _ _ (by simpa using hs0) hlen).mono ?_
  rintro e w1 ⟨v1, rfl, hs1, hb1⟩
  clear hs0
  go_wp2_with fail
  refine (door_OR l r HF.out v1 w1 hs1 Hok.out hlen).mono ?_
  rintro e w2 ⟨rfl, hb2⟩
  clear hs1
  go_wp2_with fail
  refine (outV_any r.av w2).mono ?_
  rintro e w3 ⟨rfl, hb3⟩
  have hz1 : w.heap.size + 1 ≤ w1.heap.size := by have := hb1.size; simpa using this
  have hz2 := hb2.size
  have hb : Below (w.alloc (.cells #[.int .i64 0, .float .f64 0, .string ⟨#[]⟩, .slice none 0 0] 46)).heap.size (w.alloc (.cells #[.int .i64 0, .float .f64 0, .string ⟨#[]⟩, .slice none 0 0] 46)) w3 :=
    (hb1.trans (hb2.mono (by simp; omega))).trans (hb3.mono (by simp; omega))
  clear hb1 hb2 hb3
  obtain ⟨hcl, hfr⟩ := bcell hb
  unfold avV iv
  go_wp2
  exact end_cell Tryz.results16 rfl (Bk.set4 (Bk.below (Bk.new_at rfl) hb (by simp)) _ _ _ _) Tryz.underlying46 rfl info_iv rfl
    ⟨rfl, Below.set4 (Below.lift ((Below.refl _ _).alloc (Nat.le_refl _) _) (by simp) hb) (Nat.le_refl _) _ _ _ _⟩
end Go.Proofs.YtjnlghokhlmjlaaGreatDoor
