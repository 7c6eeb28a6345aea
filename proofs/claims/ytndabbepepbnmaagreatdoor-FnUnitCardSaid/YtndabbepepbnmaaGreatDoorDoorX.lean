import Derived.Test.YtndabbepepbnmaaGreatDoorDoorM
import Derived.Test.YtndabbepepbnmaaGreatDoorOutM
namespace Go.Proofs.YtndabbepepbnmaaGreatDoor
open Go.RowKit
attribute [local go_sem] run_store_float

/-- the function number f, called on a list of arguments that may have rows, answers the table F of numbers -/
def FnX (f : FuncId) (ms : List AM) (F : List (List Nat)) : Prop :=
  ∀ (w : World) (g L : Nat) (el : List Nat) (vs : List Value), IsL w L el vs → ArgsOk w (fun b => b < w.heap.size) vs ms → Calls Tryz.prog f #[ptr g, ptr L] w fun e w' => ∃ v, e = .returned (faM v (.pointer none) (.pointer none)) ∧ Rwn w w' 10 flA v F ∧ Below w.heap.size w w'

theorem doorX_MMULT (ms : List AM) (F : List (List Nat)) (hF : FnX 111 ms F) (hF1 : ∀ r ∈ F, r.length ≤ 1000) (hF2 : F.length ≤ 1000) (v : Value) (w : World) (h : SlM w (fun b => b < w.heap.size) 4 amCells 4 avCells v ms) (hok : ∀ m ∈ ms, amOk m) (hlen : ms.length ≤ 1000) :
    Calls Tryz.prog 80 #[v] w fun e w' => ∃ u, e = .returned (.agg #[.int .i64 5, .float .f64 0, .string es, u]) ∧ Rwn w w' 4 flV u F ∧ Below w.heap.size w w' := by
  obtain ⟨A, c, rfl⟩ := h.form
  have HF := hid hF
  have HF1 := hid hF1
  have Hok := hid hok
  have HS := hid h
  clear hF hF1 hok h
  go_enter Tryz.func80, Tryz.ntmps80
  go_wp2_with fail
  refine (doorFuncs_any _).mono ?_
  rintro e w1 ⟨g, rfl, hb1⟩
  have hd1 : Below w.heap.size w w1 := Below.lift ((Below.refl w.heap.size w).alloc (Nat.le_refl _) _) (by simp) hb1
  have hs1 := hid (HS.out.old hd1)
  go_wp2_with fail
  refine (innerList_mat ms _ w1 hs1.out Hok.out hlen).mono ?_
  rintro e w2 ⟨el, vs, rfl, hL, hA, hb2⟩
  clear hs1
  go_wp2_with fail
  refine (HF.out w2 g _ el vs hL hA).mono ?_
  rintro e w3 ⟨u3, rfl, hr3, hb3⟩
  clear hL hA
  obtain ⟨A3, c3, rfl⟩ := hr3.form
  have HR3 := hid hr3.rws
  have hz1 : w.heap.size + 1 ≤ w1.heap.size := by have := hb1.size; simpa using this
  have hz2 := hb2.size
  have hz3 := hb3.size
  clear hr3
  unfold faM
  go_wp2_with fail
  refine (doorArg_mat F _ w3 HR3.out HF1.out hF2).mono ?_
  rintro e w4 ⟨u4, rfl, hr4, hb4⟩
  obtain ⟨A4, c4, rfl⟩ := hr4.form
  have hz4 := hb4.size
  have hb : Below (w.alloc (.cells #[.int .i64 0, .float .f64 0, .string ⟨#[]⟩, .slice none 0 0] 64)).heap.size (w.alloc (.cells #[.int .i64 0, .float .f64 0, .string ⟨#[]⟩, .slice none 0 0] 64)) w4 :=
    ((hb1.trans (hb2.mono (by simp; omega))).trans (hb3.mono (by simp; omega))).trans (hb4.mono (by simp; omega))
  have HRV : Hid (∀ W' : World, (∀ b, b ≠ w.heap.size → W'.heap[b]? = w4.heap[b]?) → W'.heap.size = w4.heap.size → Rwn w W' 4 flV (.slice A4 F.length c4) F) := hid (fun W' h1 h2 => RwP.keep (w' := W') (S' := fun b => w.heap.size ≤ b ∧ b < W'.heap.size) hr4 fun b hb => ⟨(h1 b (fun e => by have := hb.1; omega)), by have := hb.1; omega, by have := hb.2; omega⟩)
  clear hb1 hb2 hb3 hb4 hr4 hd1
  obtain ⟨hcl, hfr⟩ := bcell hb
  go_wp2_with fail
  refine end_cell Tryz.results80 rfl (Bk.set4 (Bk.below (Bk.new_at rfl) hb (by simp)) _ _ _ _) Tryz.underlying64 rfl info_av rfl ?_
  exact ⟨_, rfl, HRV.out _ (fun b hb => by rw [Below.heap_setCell _ _ _ _ hb, Below.heap_setCell _ _ _ _ hb, Below.heap_setCell _ _ _ _ hb, Below.heap_setCell _ _ _ _ hb]) (by simp [World.setCell]), Below.set4 (Below.lift ((Below.refl _ _).alloc (Nat.le_refl _) _) (by simp) hb) (Nat.le_refl _) _ _ _ _⟩

theorem implX_MMULT (ms : List AM) (F : List (List Nat)) (hF : FnX 111 ms F) (hF1 : ∀ r ∈ F, r.length ≤ 1000) (hF2 : F.length ≤ 1000) (v : Value) (w : World) (h : SlM w (fun b => b < w.heap.size) 4 amCells 4 avCells v ms) (hok : ∀ m ∈ ms, amOk m) (hlen : ms.length ≤ 1000) :
    Calls Tryz.prog 36 #[v] w fun e w' => ∃ u, e = .returned (.agg #[.int .i64 5, .float .f64 0, .string es, u]) ∧ Rwn w w' 4 flV u F ∧ Below w.heap.size w w' := by
  obtain ⟨A, c, rfl⟩ := h.form
  have HF := hid hF
  have HF1 := hid hF1
  have Hok := hid hok
  have HS := hid h
  clear hF hF1 hok h
  go_enter Tryz.func36, Tryz.ntmps36
  go_wp2_with fail
  have hs0 := hid (HS.out.old ((Below.refl w.heap.size w).alloc (Nat.le_refl _) (.cells #[.int .i64 0, .float .f64 0, .string ⟨#[]⟩, .slice none 0 0] 42)))
  refine (in_mat ms _ _ hs0.out (fun m hm => (Hok.out m hm).len) hlen).mono ?_
  rintro e w1 ⟨v1, rfl, hs1, hb1⟩
  have hS1 := hid (hs1.keep (w' := w1) (S' := fun b => b < w1.heap.size) fun b hb => ⟨rfl, hb.2⟩)
  clear hs0 hs1
  go_wp2_with fail
  refine (doorX_MMULT ms F HF.out HF1.out hF2 v1 w1 hS1.out Hok.out hlen).mono ?_
  rintro e w2 ⟨u2, rfl, hr2, hb2⟩
  clear hS1
  obtain ⟨A2, c2, rfl⟩ := hr2.form
  have HR2 := hid hr2.rws
  have hz1 : w.heap.size + 1 ≤ w1.heap.size := by have := hb1.size; simpa using this
  have hz2 := hb2.size
  clear hr2
  go_wp2_with fail
  refine (out_mat F _ w2 HR2.out HF1.out hF2).mono ?_
  rintro e w4 ⟨u4, rfl, hr4, hb3⟩
  obtain ⟨A4, c4, rfl⟩ := hr4.form
  have hz3 := hb3.size
  have hb : Below (w.alloc (.cells #[.int .i64 0, .float .f64 0, .string ⟨#[]⟩, .slice none 0 0] 42)).heap.size (w.alloc (.cells #[.int .i64 0, .float .f64 0, .string ⟨#[]⟩, .slice none 0 0] 42)) w4 :=
    (hb1.trans (hb2.mono (by simp; omega))).trans (hb3.mono (by simp; omega))
  have HRV : Hid (∀ W' : World, (∀ b, b ≠ w.heap.size → W'.heap[b]? = w4.heap[b]?) → W'.heap.size = w4.heap.size → Rwn w W' 4 flV (.slice A4 F.length c4) F) := hid (fun W' h1 h2 => RwP.keep (w' := W') (S' := fun b => w.heap.size ≤ b ∧ b < W'.heap.size) hr4 fun b hb => ⟨(h1 b (fun e => by have := hb.1; omega)), by have := hb.1; omega, by have := hb.2; omega⟩)
  clear hb1 hb2 hb3 hr4
  obtain ⟨hcl, hfr⟩ := bcell hb
  go_wp2_with fail
  refine end_cell Tryz.results36 rfl (Bk.set4 (Bk.below (Bk.new_at rfl) hb (by simp)) _ _ _ _) Tryz.underlying42 rfl info_iv rfl ?_
  exact ⟨_, rfl, HRV.out _ (fun b hb => by rw [Below.heap_setCell _ _ _ _ hb, Below.heap_setCell _ _ _ _ hb, Below.heap_setCell _ _ _ _ hb, Below.heap_setCell _ _ _ _ hb]) (by simp [World.setCell]), Below.set4 (Below.lift ((Below.refl _ _).alloc (Nat.le_refl _) _) (by simp) hb) (Nat.le_refl _) _ _ _ _⟩
theorem doorX_MUNIT (ms : List AM) (F : List (List Nat)) (hF : FnX 112 ms F) (hF1 : ∀ r ∈ F, r.length ≤ 1000) (hF2 : F.length ≤ 1000) (v : Value) (w : World) (h : SlM w (fun b => b < w.heap.size) 4 amCells 4 avCells v ms) (hok : ∀ m ∈ ms, amOk m) (hlen : ms.length ≤ 1000) :
    Calls Tryz.prog 81 #[v] w fun e w' => ∃ u, e = .returned (.agg #[.int .i64 5, .float .f64 0, .string es, u]) ∧ Rwn w w' 4 flV u F ∧ Below w.heap.size w w' := by
  obtain ⟨A, c, rfl⟩ := h.form
  have HF := hid hF
  have HF1 := hid hF1
  have Hok := hid hok
  have HS := hid h
  clear hF hF1 hok h
  go_enter Tryz.func81, Tryz.ntmps81
  go_wp2_with fail
  refine (doorFuncs_any _).mono ?_
  rintro e w1 ⟨g, rfl, hb1⟩
  have hd1 : Below w.heap.size w w1 := Below.lift ((Below.refl w.heap.size w).alloc (Nat.le_refl _) _) (by simp) hb1
  have hs1 := hid (HS.out.old hd1)
  go_wp2_with fail
  refine (innerList_mat ms _ w1 hs1.out Hok.out hlen).mono ?_
  rintro e w2 ⟨el, vs, rfl, hL, hA, hb2⟩
  clear hs1
  go_wp2_with fail
  refine (HF.out w2 g _ el vs hL hA).mono ?_
  rintro e w3 ⟨u3, rfl, hr3, hb3⟩
  clear hL hA
  obtain ⟨A3, c3, rfl⟩ := hr3.form
  have HR3 := hid hr3.rws
  have hz1 : w.heap.size + 1 ≤ w1.heap.size := by have := hb1.size; simpa using this
  have hz2 := hb2.size
  have hz3 := hb3.size
  clear hr3
  unfold faM
  go_wp2_with fail
  refine (doorArg_mat F _ w3 HR3.out HF1.out hF2).mono ?_
  rintro e w4 ⟨u4, rfl, hr4, hb4⟩
  obtain ⟨A4, c4, rfl⟩ := hr4.form
  have hz4 := hb4.size
  have hb : Below (w.alloc (.cells #[.int .i64 0, .float .f64 0, .string ⟨#[]⟩, .slice none 0 0] 64)).heap.size (w.alloc (.cells #[.int .i64 0, .float .f64 0, .string ⟨#[]⟩, .slice none 0 0] 64)) w4 :=
    ((hb1.trans (hb2.mono (by simp; omega))).trans (hb3.mono (by simp; omega))).trans (hb4.mono (by simp; omega))
  have HRV : Hid (∀ W' : World, (∀ b, b ≠ w.heap.size → W'.heap[b]? = w4.heap[b]?) → W'.heap.size = w4.heap.size → Rwn w W' 4 flV (.slice A4 F.length c4) F) := hid (fun W' h1 h2 => RwP.keep (w' := W') (S' := fun b => w.heap.size ≤ b ∧ b < W'.heap.size) hr4 fun b hb => ⟨(h1 b (fun e => by have := hb.1; omega)), by have := hb.1; omega, by have := hb.2; omega⟩)
  clear hb1 hb2 hb3 hb4 hr4 hd1
  obtain ⟨hcl, hfr⟩ := bcell hb
  go_wp2_with fail
  refine end_cell Tryz.results81 rfl (Bk.set4 (Bk.below (Bk.new_at rfl) hb (by simp)) _ _ _ _) Tryz.underlying64 rfl info_av rfl ?_
  exact ⟨_, rfl, HRV.out _ (fun b hb => by rw [Below.heap_setCell _ _ _ _ hb, Below.heap_setCell _ _ _ _ hb, Below.heap_setCell _ _ _ _ hb, Below.heap_setCell _ _ _ _ hb]) (by simp [World.setCell]), Below.set4 (Below.lift ((Below.refl _ _).alloc (Nat.le_refl _) _) (by simp) hb) (Nat.le_refl _) _ _ _ _⟩

theorem implX_MUNIT (ms : List AM) (F : List (List Nat)) (hF : FnX 112 ms F) (hF1 : ∀ r ∈ F, r.length ≤ 1000) (hF2 : F.length ≤ 1000) (v : Value) (w : World) (h : SlM w (fun b => b < w.heap.size) 4 amCells 4 avCells v ms) (hok : ∀ m ∈ ms, amOk m) (hlen : ms.length ≤ 1000) :
    Calls Tryz.prog 37 #[v] w fun e w' => ∃ u, e = .returned (.agg #[.int .i64 5, .float .f64 0, .string es, u]) ∧ Rwn w w' 4 flV u F ∧ Below w.heap.size w w' := by
  obtain ⟨A, c, rfl⟩ := h.form
  have HF := hid hF
  have HF1 := hid hF1
  have Hok := hid hok
  have HS := hid h
  clear hF hF1 hok h
  go_enter Tryz.func37, Tryz.ntmps37
  go_wp2_with fail
  have hs0 := hid (HS.out.old ((Below.refl w.heap.size w).alloc (Nat.le_refl _) (.cells #[.int .i64 0, .float .f64 0, .string ⟨#[]⟩, .slice none 0 0] 42)))
  refine (in_mat ms _ _ hs0.out (fun m hm => (Hok.out m hm).len) hlen).mono ?_
  rintro e w1 ⟨v1, rfl, hs1, hb1⟩
  have hS1 := hid (hs1.keep (w' := w1) (S' := fun b => b < w1.heap.size) fun b hb => ⟨rfl, hb.2⟩)
  clear hs0 hs1
  go_wp2_with fail
  refine (doorX_MUNIT ms F HF.out HF1.out hF2 v1 w1 hS1.out Hok.out hlen).mono ?_
  rintro e w2 ⟨u2, rfl, hr2, hb2⟩
  clear hS1
  obtain ⟨A2, c2, rfl⟩ := hr2.form
  have HR2 := hid hr2.rws
  have hz1 : w.heap.size + 1 ≤ w1.heap.size := by have := hb1.size; simpa using this
  have hz2 := hb2.size
  clear hr2
  go_wp2_with fail
  refine (out_mat F _ w2 HR2.out HF1.out hF2).mono ?_
  rintro e w4 ⟨u4, rfl, hr4, hb3⟩
  obtain ⟨A4, c4, rfl⟩ := hr4.form
  have hz3 := hb3.size
  have hb : Below (w.alloc (.cells #[.int .i64 0, .float .f64 0, .string ⟨#[]⟩, .slice none 0 0] 42)).heap.size (w.alloc (.cells #[.int .i64 0, .float .f64 0, .string ⟨#[]⟩, .slice none 0 0] 42)) w4 :=
    (hb1.trans (hb2.mono (by simp; omega))).trans (hb3.mono (by simp; omega))
  have HRV : Hid (∀ W' : World, (∀ b, b ≠ w.heap.size → W'.heap[b]? = w4.heap[b]?) → W'.heap.size = w4.heap.size → Rwn w W' 4 flV (.slice A4 F.length c4) F) := hid (fun W' h1 h2 => RwP.keep (w' := W') (S' := fun b => w.heap.size ≤ b ∧ b < W'.heap.size) hr4 fun b hb => ⟨(h1 b (fun e => by have := hb.1; omega)), by have := hb.1; omega, by have := hb.2; omega⟩)
  clear hb1 hb2 hb3 hr4
  obtain ⟨hcl, hfr⟩ := bcell hb
  go_wp2_with fail
  refine end_cell Tryz.results37 rfl (Bk.set4 (Bk.below (Bk.new_at rfl) hb (by simp)) _ _ _ _) Tryz.underlying42 rfl info_iv rfl ?_
  exact ⟨_, rfl, HRV.out _ (fun b hb => by rw [Below.heap_setCell _ _ _ _ hb, Below.heap_setCell _ _ _ _ hb, Below.heap_setCell _ _ _ _ hb, Below.heap_setCell _ _ _ _ hb]) (by simp [World.setCell]), Below.set4 (Below.lift ((Below.refl _ _).alloc (Nat.le_refl _) _) (by simp) hb) (Nat.le_refl _) _ _ _ _⟩
end Go.Proofs.YtndabbepepbnmaaGreatDoor
