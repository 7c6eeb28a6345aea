import Derived.Test.YtndabbepepbnmaaGreatDoorCol
import Derived.Test.YtndabbepepbnmaaGreatDoorDoorM
import Derived.Test.YtndabbepepbnmaaGreatDoorAllM
import Derived.Test.YtndabbepepbnmaaGreatDoorNum
namespace Go.Proofs.YtndabbepepbnmaaGreatDoor
open Go.RowKit
attribute [local go_sem] run_store_float

/-- what the program says of a function -/
theorem ask_SUM (ms : List SM) (r : Res) (hF : FnM 109 (ms.map amOf) r) (v : Value) (w : World) (h : SlM w (fun b => b < w.heap.size) 5 smCells 5 svCells v ms) (hok : ∀ m ∈ ms, smOk m) (hok2 : ∀ m ∈ ms, amOk (amOf m)) (hlen : ms.length ≤ 1000) :
    Calls Tryz.prog 31 #[.func (.func 32) #[] #[], v] w fun e w' => e = .returned (avV r.av) ∧ Below w.heap.size w w' := by
  have HF := hid hF
  have Hok := hid hok
  have Hok2 := hid (show ∀ m ∈ ms.map amOf, amOk m from fun m hm => by obtain ⟨x, hx, rfl⟩ := List.mem_map.1 hm; exact hok2 x hx)
  have HS := hid (h.old ((Below.refl w.heap.size w).alloc (Nat.le_refl _) (.cells #[.int .i64 0, .float .f64 0, .string ⟨#[]⟩, .slice none 0 0] 42)))
  have hlen2 : (ms.map amOf).length ≤ 1000 := by rw [List.length_map]; exact hlen
  clear hF hok hok2 h
  go_enter Tryz.func31, Tryz.ntmps31
  go_wp2_with fail
  refine (all_mat ms v _ HS.out Hok.out hlen).mono ?_
  rintro e w1 ⟨v1, rfl, hs1, hb1⟩
  have hS1 := hid (hs1.keep (w' := w1) (S' := fun b => b < w1.heap.size) fun b hb => ⟨rfl, hb.2⟩)
  clear HS hs1
  go_wp2_with fail
  refine (implM_SUM _ r HF.out v1 w1 hS1.out Hok2.out hlen2).mono ?_
  rintro e w2 ⟨rfl, hb2⟩
  clear hS1
  have hz1 : w.heap.size + 1 ≤ w1.heap.size := by have := hb1.size; simpa using this
  have hb : Below (w.alloc (.cells #[.int .i64 0, .float .f64 0, .string ⟨#[]⟩, .slice none 0 0] 42)).heap.size (w.alloc (.cells #[.int .i64 0, .float .f64 0, .string ⟨#[]⟩, .slice none 0 0] 42)) w2 :=
    hb1.trans (hb2.mono (by simp; omega))
  clear hb1 hb2
  obtain ⟨hcl, hfr⟩ := bcell hb
  unfold avV iv
  go_wp2
  exact end_cell Tryz.results31 rfl (Bk.set4 (Bk.below (Bk.new_at rfl) hb (by simp)) _ _ _ _) Tryz.underlying42 rfl info_iv rfl
    ⟨rfl, Below.set4 (Below.lift ((Below.refl _ _).alloc (Nat.le_refl _) _) (by simp) hb) (Nat.le_refl _) _ _ _ _⟩
/-- what the program says of a function -/
theorem ask_COUNT (ms : List SM) (r : Res) (hF : FnM 110 (ms.map amOf) r) (v : Value) (w : World) (h : SlM w (fun b => b < w.heap.size) 5 smCells 5 svCells v ms) (hok : ∀ m ∈ ms, smOk m) (hok2 : ∀ m ∈ ms, amOk (amOf m)) (hlen : ms.length ≤ 1000) :
    Calls Tryz.prog 31 #[.func (.func 34) #[] #[], v] w fun e w' => e = .returned (avV r.av) ∧ Below w.heap.size w w' := by
  have HF := hid hF
  have Hok := hid hok
  have Hok2 := hid (show ∀ m ∈ ms.map amOf, amOk m from fun m hm => by obtain ⟨x, hx, rfl⟩ := List.mem_map.1 hm; exact hok2 x hx)
  have HS := hid (h.old ((Below.refl w.heap.size w).alloc (Nat.le_refl _) (.cells #[.int .i64 0, .float .f64 0, .string ⟨#[]⟩, .slice none 0 0] 42)))
  have hlen2 : (ms.map amOf).length ≤ 1000 := by rw [List.length_map]; exact hlen
  clear hF hok hok2 h
  go_enter Tryz.func31, Tryz.ntmps31
  go_wp2_with fail
  refine (all_mat ms v _ HS.out Hok.out hlen).mono ?_
  rintro e w1 ⟨v1, rfl, hs1, hb1⟩
  have hS1 := hid (hs1.keep (w' := w1) (S' := fun b => b < w1.heap.size) fun b hb => ⟨rfl, hb.2⟩)
  clear HS hs1
  go_wp2_with fail
  refine (implM_COUNT _ r HF.out v1 w1 hS1.out Hok2.out hlen2).mono ?_
  rintro e w2 ⟨rfl, hb2⟩
  clear hS1
  have hz1 : w.heap.size + 1 ≤ w1.heap.size := by have := hb1.size; simpa using this
  have hb : Below (w.alloc (.cells #[.int .i64 0, .float .f64 0, .string ⟨#[]⟩, .slice none 0 0] 42)).heap.size (w.alloc (.cells #[.int .i64 0, .float .f64 0, .string ⟨#[]⟩, .slice none 0 0] 42)) w2 :=
    hb1.trans (hb2.mono (by simp; omega))
  clear hb1 hb2
  obtain ⟨hcl, hfr⟩ := bcell hb
  unfold avV iv
  go_wp2
  exact end_cell Tryz.results31 rfl (Bk.set4 (Bk.below (Bk.new_at rfl) hb (by simp)) _ _ _ _) Tryz.underlying42 rfl info_iv rfl
    ⟨rfl, Below.set4 (Below.lift ((Below.refl _ _).alloc (Nat.le_refl _) _) (by simp) hb) (Nat.le_refl _) _ _ _ _⟩
/-- what the program says of a function -/
theorem ask_MEDIAN (ms : List SM) (r : Res) (hF : FnM 123 (ms.map amOf) r) (v : Value) (w : World) (h : SlM w (fun b => b < w.heap.size) 5 smCells 5 svCells v ms) (hok : ∀ m ∈ ms, smOk m) (hok2 : ∀ m ∈ ms, amOk (amOf m)) (hlen : ms.length ≤ 1000) :
    Calls Tryz.prog 31 #[.func (.func 56) #[] #[], v] w fun e w' => e = .returned (avV r.av) ∧ Below w.heap.size w w' := by
  have HF := hid hF
  have Hok := hid hok
  have Hok2 := hid (show ∀ m ∈ ms.map amOf, amOk m from fun m hm => by obtain ⟨x, hx, rfl⟩ := List.mem_map.1 hm; exact hok2 x hx)
  have HS := hid (h.old ((Below.refl w.heap.size w).alloc (Nat.le_refl _) (.cells #[.int .i64 0, .float .f64 0, .string ⟨#[]⟩, .slice none 0 0] 42)))
  have hlen2 : (ms.map amOf).length ≤ 1000 := by rw [List.length_map]; exact hlen
  clear hF hok hok2 h
  go_enter Tryz.func31, Tryz.ntmps31
  go_wp2_with fail
  refine (all_mat ms v _ HS.out Hok.out hlen).mono ?_
  rintro e w1 ⟨v1, rfl, hs1, hb1⟩
  have hS1 := hid (hs1.keep (w' := w1) (S' := fun b => b < w1.heap.size) fun b hb => ⟨rfl, hb.2⟩)
  clear HS hs1
  go_wp2_with fail
  refine (implM_MEDIAN _ r HF.out v1 w1 hS1.out Hok2.out hlen2).mono ?_
  rintro e w2 ⟨rfl, hb2⟩
  clear hS1
  have hz1 : w.heap.size + 1 ≤ w1.heap.size := by have := hb1.size; simpa using this
  have hb : Below (w.alloc (.cells #[.int .i64 0, .float .f64 0, .string ⟨#[]⟩, .slice none 0 0] 42)).heap.size (w.alloc (.cells #[.int .i64 0, .float .f64 0, .string ⟨#[]⟩, .slice none 0 0] 42)) w2 :=
    hb1.trans (hb2.mono (by simp; omega))
  clear hb1 hb2
  obtain ⟨hcl, hfr⟩ := bcell hb
  unfold avV iv
  go_wp2
  exact end_cell Tryz.results31 rfl (Bk.set4 (Bk.below (Bk.new_at rfl) hb (by simp)) _ _ _ _) Tryz.underlying42 rfl info_iv rfl
    ⟨rfl, Below.set4 (Below.lift ((Below.refl _ _).alloc (Nat.le_refl _) _) (by simp) hb) (Nat.le_refl _) _ _ _ _⟩
/-- what the program says of a function -/
theorem ask_LARGE (ms : List SM) (r : Res) (hF : FnM 124 (ms.map amOf) r) (v : Value) (w : World) (h : SlM w (fun b => b < w.heap.size) 5 smCells 5 svCells v ms) (hok : ∀ m ∈ ms, smOk m) (hok2 : ∀ m ∈ ms, amOk (amOf m)) (hlen : ms.length ≤ 1000) :
    Calls Tryz.prog 31 #[.func (.func 57) #[] #[], v] w fun e w' => e = .returned (avV r.av) ∧ Below w.heap.size w w' := by
  have HF := hid hF
  have Hok := hid hok
  have Hok2 := hid (show ∀ m ∈ ms.map amOf, amOk m from fun m hm => by obtain ⟨x, hx, rfl⟩ := List.mem_map.1 hm; exact hok2 x hx)
  have HS := hid (h.old ((Below.refl w.heap.size w).alloc (Nat.le_refl _) (.cells #[.int .i64 0, .float .f64 0, .string ⟨#[]⟩, .slice none 0 0] 42)))
  have hlen2 : (ms.map amOf).length ≤ 1000 := by rw [List.length_map]; exact hlen
  clear hF hok hok2 h
  go_enter Tryz.func31, Tryz.ntmps31
  go_wp2_with fail
  refine (all_mat ms v _ HS.out Hok.out hlen).mono ?_
  rintro e w1 ⟨v1, rfl, hs1, hb1⟩
  have hS1 := hid (hs1.keep (w' := w1) (S' := fun b => b < w1.heap.size) fun b hb => ⟨rfl, hb.2⟩)
  clear HS hs1
  go_wp2_with fail
  refine (implM_LARGE _ r HF.out v1 w1 hS1.out Hok2.out hlen2).mono ?_
  rintro e w2 ⟨rfl, hb2⟩
  clear hS1
  have hz1 : w.heap.size + 1 ≤ w1.heap.size := by have := hb1.size; simpa using this
  have hb : Below (w.alloc (.cells #[.int .i64 0, .float .f64 0, .string ⟨#[]⟩, .slice none 0 0] 42)).heap.size (w.alloc (.cells #[.int .i64 0, .float .f64 0, .string ⟨#[]⟩, .slice none 0 0] 42)) w2 :=
    hb1.trans (hb2.mono (by simp; omega))
  clear hb1 hb2
  obtain ⟨hcl, hfr⟩ := bcell hb
  unfold avV iv
  go_wp2
  exact end_cell Tryz.results31 rfl (Bk.set4 (Bk.below (Bk.new_at rfl) hb (by simp)) _ _ _ _) Tryz.underlying42 rfl info_iv rfl
    ⟨rfl, Below.set4 (Below.lift ((Below.refl _ _).alloc (Nat.le_refl _) _) (by simp) hb) (Nat.le_refl _) _ _ _ _⟩
/-- what the program says of a function -/
theorem ask_SMALL (ms : List SM) (r : Res) (hF : FnM 125 (ms.map amOf) r) (v : Value) (w : World) (h : SlM w (fun b => b < w.heap.size) 5 smCells 5 svCells v ms) (hok : ∀ m ∈ ms, smOk m) (hok2 : ∀ m ∈ ms, amOk (amOf m)) (hlen : ms.length ≤ 1000) :
    Calls Tryz.prog 31 #[.func (.func 58) #[] #[], v] w fun e w' => e = .returned (avV r.av) ∧ Below w.heap.size w w' := by
  have HF := hid hF
  have Hok := hid hok
  have Hok2 := hid (show ∀ m ∈ ms.map amOf, amOk m from fun m hm => by obtain ⟨x, hx, rfl⟩ := List.mem_map.1 hm; exact hok2 x hx)
  have HS := hid (h.old ((Below.refl w.heap.size w).alloc (Nat.le_refl _) (.cells #[.int .i64 0, .float .f64 0, .string ⟨#[]⟩, .slice none 0 0] 42)))
  have hlen2 : (ms.map amOf).length ≤ 1000 := by rw [List.length_map]; exact hlen
  clear hF hok hok2 h
  go_enter Tryz.func31, Tryz.ntmps31
  go_wp2_with fail
  refine (all_mat ms v _ HS.out Hok.out hlen).mono ?_
  rintro e w1 ⟨v1, rfl, hs1, hb1⟩
  have hS1 := hid (hs1.keep (w' := w1) (S' := fun b => b < w1.heap.size) fun b hb => ⟨rfl, hb.2⟩)
  clear HS hs1
  go_wp2_with fail
  refine (implM_SMALL _ r HF.out v1 w1 hS1.out Hok2.out hlen2).mono ?_
  rintro e w2 ⟨rfl, hb2⟩
  clear hS1
  have hz1 : w.heap.size + 1 ≤ w1.heap.size := by have := hb1.size; simpa using this
  have hb : Below (w.alloc (.cells #[.int .i64 0, .float .f64 0, .string ⟨#[]⟩, .slice none 0 0] 42)).heap.size (w.alloc (.cells #[.int .i64 0, .float .f64 0, .string ⟨#[]⟩, .slice none 0 0] 42)) w2 :=
    hb1.trans (hb2.mono (by simp; omega))
  clear hb1 hb2
  obtain ⟨hcl, hfr⟩ := bcell hb
  unfold avV iv
  go_wp2
  exact end_cell Tryz.results31 rfl (Bk.set4 (Bk.below (Bk.new_at rfl) hb (by simp)) _ _ _ _) Tryz.underlying42 rfl info_iv rfl
    ⟨rfl, Below.set4 (Below.lift ((Below.refl _ _).alloc (Nat.le_refl _) _) (by simp) hb) (Nat.le_refl _) _ _ _ _⟩

/-- a column as an argument -/
def colM (zs : List Int) : SM := ((5, 0, 0, es), colRows zs)
theorem colM_ok (zs : List Int) (hl : zs.length ≤ 120) (hz : ∀ z ∈ zs, -99999999999 ≤ z ∧ z ≤ 99999999999) : smOk (colM zs) := by
  refine .inr ⟨rfl, by simp [colM, colRows]; omega, fun r hr => ?_⟩
  obtain ⟨z, hzm, rfl⟩ := List.mem_map.1 hr
  refine ⟨by simp, fun a ha => ?_⟩
  obtain rfl := List.mem_singleton.1 ha
  have := hz z hzm
  exact svOk_whole z (by omega)
theorem colM_rows (zs : List Int) : (amOf (colM zs)).2 = zs.map fun z => [(1, enc z 0, es)] := by
  simp only [amOf, colM, rowsOf, colRows, List.map_map]
  apply List.map_congr_left
  intro z _
  simp [avOf_whole]
theorem colM_ok2 (zs : List Int) (hne : zs ≠ []) (hl : zs.length ≤ 120) (hz : ∀ z ∈ zs, -99999999999 ≤ z ∧ z ≤ 99999999999) : amOk (amOf (colM zs)) := by
  refine .inr ⟨rfl, ?_, ?_, fun r hr => ?_⟩
  · rw [colM_rows]; simpa using hne
  · rw [colM_rows, List.length_map]; omega
  · rw [colM_rows] at hr
    obtain ⟨z, hzm, rfl⟩ := List.mem_map.1 hr
    refine ⟨by simp, fun a ha => ?_⟩
    obtain rfl := List.mem_singleton.1 ha
    have := hz z hzm
    exact ⟨fun _ => fin_enc z 0 (by omega) (by omega), by show (1 : Int) ≠ 5; omega⟩
theorem colM_flat (zs : List Int) : (amOf (colM zs)).2.flatten = zs.map fun z => (1, enc z 0, es) := by
  rw [colM_rows]
  induction zs with
  | nil => rfl
  | cons z zs ih => rw [List.map_cons, List.flatten_cons, ih]; rfl
end Go.Proofs.YtndabbepepbnmaaGreatDoor
