import Derived.Test.YtndabbepepbnmaaGreatDoorUnitA
import Derived.Test.YtndabbepepbnmaaGreatDoorEqT
namespace Go.Proofs.YtndabbepepbnmaaGreatDoor
open Go.RowKit
attribute [local go_sem] run_store_float

theorem RwP.mapTo {α β : Type} {w : World} {S : Nat → Prop} {sz : Nat} {f : α → List Value} {f' : β → List Value} {v : Value} {F : List (List β)} (g : β → α) (H : RwP w S sz f' v F) (hf : ∀ x, f (g x) = f' x) : RwP w S sz f v (F.map fun r => r.map g) := by
  obtain ⟨h0, hs, hl, h1, h2⟩ := H
  refine ⟨fun e => h0 (by simpa using e), hs, by rw [List.length_map]; exact hl, by rw [List.length_map]; exact h1, fun i h r hi hr => ?_⟩
  rw [List.getElem?_map] at hr
  cases hF : F[i]? with
  | none => rw [hF] at hr; cases hr
  | some r' =>
    rw [hF] at hr
    injection hr with hr
    subst hr
    have := h2 i h r' hi hF
    rw [List.length_map]
    have he : (r'.map g).flatMap f = r'.flatMap f' := by
      rw [List.flatMap_map]
      simp only [hf]
    rw [he]; exact this
theorem lit_unit {w : World} {g : Nat} {n : Nat} (h : Bk w g 24 #[.int .i64 1, .int .i64 (n : Nat), .int .i64 1, .string es, .slice none 0 0]) :
    SlM w (fun b => b < w.heap.size) 5 smCells 5 svCells (.slice (some ⟨g, 0, none⟩) 1 1) [(svW (n : Int), [])] :=
  ⟨[((svW (n : Int), []), .slice none 0 0)], rfl, (Sl.lit (n := 1) (sz := 5) h 1 rfl), fun p hp => by obtain rfl := List.mem_singleton.1 hp; exact RwP.none_ _ _ _ _⟩
theorem lit_tabs {w : World} {g : Nat} {s1 s2 : Value} {r1 r2 : List (List AV)} (h : Bk w g 42 #[.int .i64 5, .float .f64 0, .string es, s1, .int .i64 5, .float .f64 0, .string es, s2]) (h1 : Rws w w.heap.size 4 avCells s1 r1) (h2 : Rws w w.heap.size 4 avCells s2 r2) :
    SlM w (fun b => b < w.heap.size) 4 amCells 4 avCells (.slice (some ⟨g, 0, none⟩) 2 2) [((5, 0, es), r1), ((5, 0, es), r2)] :=
  ⟨[(((5, 0, es), r1), s1), (((5, 0, es), r2), s2)], rfl, (Sl.lit (n := 2) (sz := 4) h 2 rfl), fun p hp => by
    simp at hp
    rcases hp with rfl | rfl
    · exact h1
    · exact h2⟩
theorem tabA_ok {R C : Nat} {f : Nat → Nat → Nat} (hR : 0 < R ∧ R ≤ 6) (hC : 0 < C ∧ C ≤ 6) (hf : ∀ i j, i < R → j < C → fin (f i j)) : amOk (tabA (grid R C f)) := by
  refine .inr ⟨rfl, ?_, by simp [tabA, grid_len]; omega, fun r hr => ?_⟩
  · intro e
    have := congrArg List.length e
    simp [tabA, grid_len] at this; omega
  · obtain ⟨r', hr', rfl⟩ := List.mem_map.1 hr
    obtain ⟨i, hi, rfl⟩ := grid_mem hr'
    refine ⟨by simp; omega, fun a ha => ?_⟩
    obtain ⟨x, hx, rfl⟩ := List.mem_map.1 ha
    obtain ⟨j, hj, rfl⟩ := List.mem_map.1 hx
    exact ⟨fun _ => hf i j hi (List.mem_range.1 hj), by show (1 : Int) ≠ 5; omega⟩

/-- the product of two tables of the program -/
theorem mmult_tab (R C n1 n2 : Nat) (f1 f2 p : Nat → Nat → Nat) (hR : 0 < R ∧ R ≤ 6) (hC : 0 < C ∧ C ≤ 6) (hn1 : 0 < n1 ∧ n1 ≤ 6) (hn2 : 0 < n2 ∧ n2 ≤ 6) (h1 : ∀ i j, fin (f1 i j)) (h2 : ∀ i j, fin (f2 i j))
    (hF : FnX 111 [tabA (grid R n1 f1), tabA (grid n2 C f2)] (grid R C p)) (w : World) (g : Nat) (s1 s2 : Value)
    (hb : Bk w g 42 #[.int .i64 5, .float .f64 0, .string es, s1, .int .i64 5, .float .f64 0, .string es, s2]) (r1 : Rws w w.heap.size 4 avCells s1 ((grid R n1 f1).map (·.map nAV))) (r2 : Rws w w.heap.size 4 avCells s2 ((grid n2 C f2).map (·.map nAV))) :
    Calls Tryz.prog 36 #[.slice (some ⟨g, 0, none⟩) 2 2] w fun e w' => ∃ s', e = .returned (amV (5, 0, es) s') ∧ Rwn w w' 4 avCells s' ((grid R C p).map (·.map nAV)) ∧ Below w.heap.size w w' :=
  (implX_MMULT _ _ hF (fun r hr => by obtain ⟨i, _, rfl⟩ := grid_mem hr; simp; omega) (by rw [grid_len]; omega) _ w (lit_tabs hb r1 r2) (fun m hm => by
    simp at hm
    rcases hm with rfl | rfl
    · exact tabA_ok hR hn1 (fun i j _ _ => h1 i j)
    · exact tabA_ok hn2 hC (fun i j _ _ => h2 i j)) (by simp)).mono fun _ _ ⟨u, he, hr, hb⟩ => ⟨u, he, RwP.mapTo nAV hr (fun _ => rfl), hb⟩

theorem ask_unit (n : Nat) (hn : 0 < n ∧ n ≤ 6) (w : World) (g : Nat) (h : Bk w g 24 #[.int .i64 1, .int .i64 (n : Nat), .int .i64 1, .string es, .slice none 0 0]) :
    Calls Tryz.prog 31 #[.func (.func 37) #[] #[], .slice (some ⟨g, 0, none⟩) 1 1] w fun e w' => ∃ s', e = .returned (amV (5, 0, es) s') ∧ Rwn w w' 4 avCells s' ((grid n n unitF).map (·.map nAV)) ∧ Below w.heap.size w w' :=
  (askX_MUNIT n hn _ w (lit_unit h)).mono fun _ _ ⟨u, he, hr, hb⟩ => ⟨u, he, RwP.mapTo nAV hr (fun _ => rfl), hb⟩

theorem eq_tab (R C : Nat) (f : Nat → Nat → Nat) (hR : 0 < R ∧ R ≤ 6) (hC : 0 < C ∧ C ≤ 6) (hf : ∀ i j, fin (f i j)) (w : World) (s1 s2 : Value) (r1 : Rws w w.heap.size 4 avCells s1 ((grid R C f).map (·.map nAV))) (r2 : Rws w w.heap.size 4 avCells s2 ((grid R C f).map (·.map nAV))) :
    Calls Tryz.prog 40 #[.agg #[.int .i64 5, .float .f64 0, .string es, s1], .agg #[.int .i64 5, .float .f64 0, .string es, s2]] w fun e w' => e = .returned (.bool true) ∧ Below w.heap.size w w' :=
  equalTables_yes R C f hR hC (fun i j _ _ => hf i j) s1 s2 w (RwP.mapped nAV r1 (fun _ _ _ _ => rfl)) (RwP.mapped nAV r2 (fun _ _ _ _ => rfl))

theorem heap_set4 (w : World) {g k : Nat} (h : k ≠ g) (y0 y1 y2 y3 : Value) :
    ((((w.setCell ⟨g, 0, none⟩ y0).setCell ⟨g, 1, none⟩ y1).setCell ⟨g, 2, none⟩ y2).setCell ⟨g, 3, none⟩ y3).heap[k]? = w.heap[k]? := by
  rw [Below.heap_setCell _ _ _ _ h, Below.heap_setCell _ _ _ _ h, Below.heap_setCell _ _ _ _ h, Below.heap_setCell _ _ _ _ h]

set_option maxRecDepth 100000 in
set_option maxHeartbeats 4000000 in
theorem unit_in (N c : Nat) (A : Option Addr) (Z : Nat → Int) (n0 m0 : Int) (w : World) (hN : N ≤ 2147483647) (hZ : ∀ i, i < N → ∃ a, A = some a ∧ w.cell? (a.add i) = some (.int .i64 (Z i))) :
    Calls Tryz.prog 8 #[.slice A N c, .int .i64 n0, .int .i64 m0] w fun e w' => e = .returned (.bool true) ∧ Below w.heap.size w w' := by
  obtain ⟨R, hRn⟩ : ∃ R : Nat, 1 + n0 % 6 = (R : Int) := ⟨(1 + n0 % 6).toNat, by omega⟩
  obtain ⟨C, hCn⟩ : ∃ C : Nat, 1 + m0 % 6 = (C : Int) := ⟨(1 + m0 % 6).toNat, by omega⟩
  have hR : 0 < R ∧ R ≤ 6 := by omega
  have hC : 0 < C ∧ C ≤ 6 := by omega
  have HZ := hid hZ
  clear hZ
  go_enter Tryz.func8, Tryz.ntmps8
  go_wp2_with fail
  refine (part_any n0 6 (by omega) (by omega) _).mono ?_
  rintro e w1 ⟨rfl, rfl⟩
  go_wp2_with fail
  refine (part_any m0 6 (by omega) (by omega) _).mono ?_
  rintro e w1 ⟨rfl, rfl⟩
  go_wp2_with fail
  refine (matrix_any N c A Z R C w hN HZ.out hR.2 hC.2).mono ?_
  rintro e w1 ⟨s, rfl, hrs, hb1⟩
  obtain ⟨As, cs, rfl⟩ := hrs.form
  go_wp2_with fail
  have ba : Bk (w1.alloc (.cells #[.int .i64 5, .int .i64 0, .int .i64 0, .string es, .slice As (svM (matL N Z R C)).length cs] 24)) w1.heap.size 24 #[.int .i64 5, .int .i64 0, .int .i64 0, .string es, .slice As (svM (matL N Z R C)).length cs] := Bk.new _ _ _
  have hwX : Below w.heap.size w (w1.alloc (.cells #[.int .i64 5, .int .i64 0, .int .i64 0, .string es, .slice As (svM (matL N Z R C)).length cs] 24)) := hb1.alloc hb1.size _
  have hrX : Hid (Rws (w1.alloc (.cells #[.int .i64 5, .int .i64 0, .int .i64 0, .string es, .slice As (svM (matL N Z R C)).length cs] 24)) (w1.alloc (.cells #[.int .i64 5, .int .i64 0, .int .i64 0, .string es, .slice As (svM (matL N Z R C)).length cs] 24)).heap.size 5 svCells (.slice As (svM (matL N Z R C)).length cs) (svM (matL N Z R C))) := hid (Rws.below hrs.rws ((Below.refl _ _).alloc (Nat.le_refl _) _) (by simp))
  generalize w1.alloc (.cells #[.int .i64 5, .int .i64 0, .int .i64 0, .string es, .slice As (svM (matL N Z R C)).length cs] 24) = X at *
  generalize w1.heap.size = ga at *
  clear hrs hb1 HZ
  obtain ⟨x, hx⟩ : ∃ x : Nat → Nat → Int, x = fun i k => if i * C + k < N then Int.tmod (Z (i * C + k)) 100 else 0 := ⟨_, rfl⟩
  have hML : matL N Z R C = grid R C x := by rw [matL_grid, hx]
  have hxs : ∀ i j, (x i j).natAbs ≤ 99 := fun i j => by
    rw [hx]
    dsimp only
    split
    · have := tmod_small (Z (i * C + j)); omega
    · omega
  have hfx : ∀ i j, fin (enc (x i j) 0) := fun i j => fin_enc _ 0 (by have := hxs i j; omega) (by omega)
  have hfu : ∀ i j, fin (unitF i j) := fun i j => by
    unfold unitF
    split
    · exact fin_one
    · exact fin_zero
  obtain ⟨XR, hXR⟩ : ∃ XR, XR = (grid R C fun i j => enc (x i j) 0).map (·.map nAV) := ⟨_, rfl⟩
  obtain ⟨UR, hUR⟩ : ∃ UR, UR = (grid R R unitF).map (·.map nAV) := ⟨_, rfl⟩
  obtain ⟨UC, hUC⟩ : ∃ UC, UC = (grid C C unitF).map (·.map nAV) := ⟨_, rfl⟩
  have cAskR := hid (ask_unit R hR)
  have cAskC := hid (ask_unit C hC)
  rw [← hUR] at cAskR
  rw [← hUC] at cAskC
  have cL := hid (mmult_tab R C R R unitF (fun i j => enc (x i j) 0) (fun i j => enc (x i j) 0) hR hC hR hR hfu hfx (left_X R C x hR hC hxs))
  have cR := hid (mmult_tab R C C C (fun i j => enc (x i j) 0) unitF (fun i j => enc (x i j) 0) hR hC hC hC hfx hfu (right_X R C x hR hC hxs))
  rw [← hUR, ← hXR] at cL
  rw [← hUC, ← hXR] at cR
  have cE := hid (eq_tab R C (fun i j => enc (x i j) 0) hR hC hfx)
  rw [← hXR] at cE
  have hSm := matL_small N Z R C
  have hlen1 : (svM (matL N Z R C)).length = R := by simp [svM, matL]
  have cOf : Hid (∀ wx, Below X.heap.size X wx → Calls Tryz.prog 39 #[.agg #[.int .i64 5, .int .i64 0, .int .i64 0, .string es, .slice As (svM (matL N Z R C)).length cs]] wx fun e w' => ∃ s', e = .returned (amV (5, 0, es) s') ∧ Rwn wx w' 4 avCells s' XR ∧ Below wx.heap.size wx w') := hid (fun wx hb => by
    have := of_mat (svM (matL N Z R C)) 0 0 es _ wx (Rws.below hrX.out hb hb.size) (fun r hr a ha => by
      obtain ⟨r', hr', rfl⟩ := List.mem_map.1 hr
      obtain ⟨z, hz, rfl⟩ := List.mem_map.1 ha
      have := hSm r' hr' z hz
      exact svOk_whole z (by omega)) (by omega) (fun r hr => by
      obtain ⟨r', hr', rfl⟩ := List.mem_map.1 hr
      obtain ⟨i, _, rfl⟩ := List.mem_map.1 hr'
      rw [List.length_map, matRow_len]; omega)
    rw [hML, rowsOf_grid, ← hXR] at this
    rw [hML]
    exact this)
  generalize (svM (matL N Z R C)).length = Ls at *
  clear hx hML hxs hfx hfu hXR hUR hUC hSm hlen1 hrX
  refine wp_region_duties 9 [(0, 23), (1, 24), (2, 25), (3, 26), (4, 27), (5, 28), (6, 29), (7, 30), (8, 8)]
    [.is (.int .i64 (R : Nat)), .is (.agg #[.int .i64 1, .int .i64 (R : Nat), .int .i64 1, .string es, .slice none 0 0]), .lit 1 24 #[.int .i64 1, .int .i64 (R : Nat), .int .i64 1, .string es, .slice none 0 0], .amat (5, 0, es) UR, .is (.agg #[.int .i64 5, .int .i64 0, .int .i64 0, .string es, .slice As Ls cs]), .amat (5, 0, es) XR, .lit2 42 (5, 0, es) (5, 0, es) UR XR, .amat (5, 0, es) XR, .new 42 #[.int .i64 0, .float .f64 0, .string ⟨#[]⟩, .slice none 0 0]]
    (by kernel_rfl) (by kernel_rfl) (by decide) (by kernel_rfl) (by kernel_rfl) (by kernel_rfl) (by kernel_rfl) rfl (by kernel_rfl) ?_ ?_
  · intro v' wy lo hi hb hf hlow hap
    obtain ⟨sP, hv7, hrP⟩ := hf 7 _ rfl
    obtain ⟨AP, cP, rfl⟩ := hrP.form
    unfold amV at hv7
    dsimp only at hv7
    obtain ⟨gx, hgx, hBx, hgx1, hgx2⟩ := hf 8 _ rfl
    have l7 := hlow 7 (by omega)
    have l8 := hlow 8 (by omega)
    have hap78 := hap 7 8 (by omega) (by omega) (by omega)
    obtain ⟨a0, a1, a2, a3, af⟩ := hBx.cells4
    have hlgx := hBx.lt
    have hgax : ga ≠ gx := by have := ba.lt; omega
    have hgxa := Ne.symm hgax
    obtain ⟨q0, q1, q2, q3, q4, qf⟩ := (ba.below hb ba.lt).cells5
    clear hf hap hlow
    rw [fill_eq_sets]
    simp only [sets, List.setIfInBounds_toArray, List.set_cons_succ, List.set_cons_zero, List.drop_succ_cons, List.drop_zero, hv7, hgx]
    go_wp2_with fail
    have bx1 : Bk ((((wy.setCell ⟨gx, 0, none⟩ (.int .i64 5)).setCell ⟨gx, 1, none⟩ (.float .f64 0)).setCell ⟨gx, 2, none⟩ (.string es)).setCell ⟨gx, 3, none⟩ (.slice AP XR.length cP)) gx 42 #[.int .i64 5, .float .f64 0, .string es, .slice AP XR.length cP] := Bk.set4 hBx _ _ _ _
    have hXY1 : Below X.heap.size X ((((wy.setCell ⟨gx, 0, none⟩ (.int .i64 5)).setCell ⟨gx, 1, none⟩ (.float .f64 0)).setCell ⟨gx, 2, none⟩ (.string es)).setCell ⟨gx, 3, none⟩ (.slice AP XR.length cP)) := Below.set4 hb (by omega) _ _ _ _
    have hrP1 : Hid (RwP ((((wy.setCell ⟨gx, 0, none⟩ (.int .i64 5)).setCell ⟨gx, 1, none⟩ (.float .f64 0)).setCell ⟨gx, 2, none⟩ (.string es)).setCell ⟨gx, 3, none⟩ (.slice AP XR.length cP)) (fun b => b < ((((wy.setCell ⟨gx, 0, none⟩ (.int .i64 5)).setCell ⟨gx, 1, none⟩ (.float .f64 0)).setCell ⟨gx, 2, none⟩ (.string es)).setCell ⟨gx, 3, none⟩ (.slice AP XR.length cP)).heap.size) 4 avCells (.slice AP XR.length cP) XR) := hid (hrP.keep fun b hb => ⟨heap_set4 wy (by omega) _ _ _ _, by simp [World.setCell]; omega⟩)
    generalize ((((wy.setCell ⟨gx, 0, none⟩ (.int .i64 5)).setCell ⟨gx, 1, none⟩ (.float .f64 0)).setCell ⟨gx, 2, none⟩ (.string es)).setCell ⟨gx, 3, none⟩ (.slice AP XR.length cP)) = Y1 at *
    have ba1 := ba.below hXY1 ba.lt
    clear q0 q1 q2 q3 q4 qf hgax hgxa hBx hb hrP a0 a1 a2 a3 af hap78 l7 l8 hlgx hgx1 hgx2 hv7
    refine (cOf.out Y1 hXY1).mono ?_
    rintro e u1 ⟨s1, rfl, hr1, hu1⟩
    obtain ⟨A1, c1, rfl⟩ := hr1.form
    have hR1 := hid hr1.rws
    clear hr1
    unfold amV
    go_wp2_with fail
    refine (int_ok (C : Nat) u1 (by omega) (by omega)).mono ?_
    rintro e u2 ⟨rfl, hu2⟩
    have hR2 := hid (Rws.below hR1.out hu2 hu2.size)
    clear hR1
    unfold sv
    go_wp2_with fail
    have k3 : Below u2.heap.size u2 (u2.alloc (.cells #[.int .i64 1, .int .i64 (C : Nat), .int .i64 1, .string es, .slice none 0 0] 24)) := (Below.refl _ _).alloc (Nat.le_refl _) _
    refine (cAskC.out _ u2.heap.size (Bk.new u2 _ _)).mono ?_
    rintro e u3 ⟨s3, rfl, hr3, hu3⟩
    obtain ⟨A3, c3, rfl⟩ := hr3.form
    have hR3 := hid hr3.rws
    have hR4 := hid (Rws.below (Rws.below hR2.out k3 k3.size) hu3 hu3.size)
    have hu23 : Below u2.heap.size u2 u3 := k3.trans (hu3.mono k3.size)
    clear hr3 hR2 k3 hu3
    unfold amV
    go_wp2_with fail
    have k4 : Below u3.heap.size u3 (u3.alloc (.cells #[.int .i64 5, .float .f64 0, .string es, .slice A1 XR.length c1, .int .i64 5, .float .f64 0, .string es, .slice A3 UC.length c3] 42)) := (Below.refl _ _).alloc (Nat.le_refl _) _
    refine (cR.out _ u3.heap.size _ _ (Bk.new u3 _ _) (Rws.below hR4.out k4 k4.size) (Rws.below hR3.out k4 k4.size)).mono ?_
    rintro e u4 ⟨sQ, rfl, hrQ, hu4⟩
    obtain ⟨AQ, cQ, rfl⟩ := hrQ.form
    have hRQ := hid hrQ.rws
    have hu34 : Below u3.heap.size u3 u4 := k4.trans (hu4.mono k4.size)
    have hY14 : Below Y1.heap.size Y1 u4 := ((hu1.trans (hu2.mono hu1.size)).trans (hu23.mono (Nat.le_trans hu1.size hu2.size))).trans (hu34.mono (Nat.le_trans (Nat.le_trans hu1.size hu2.size) hu23.size))
    clear hrQ hR3 hR4 k4 hu1 hu2 hu23 hu34 hu4
    unfold amV
    go_wp2_with fail
    have by2 : Bk (u4.alloc (.cells #[.int .i64 5, .float .f64 0, .string es, .slice AQ XR.length cQ] 42)) u4.heap.size 42 #[.int .i64 5, .float .f64 0, .string es, .slice AQ XR.length cQ] := Bk.new _ _ _
    have hY12 : Below Y1.heap.size Y1 (u4.alloc (.cells #[.int .i64 5, .float .f64 0, .string es, .slice AQ XR.length cQ] 42)) := hY14.alloc hY14.size _
    have hrQ2 := hid (Rws.below hRQ.out ((Below.refl u4.heap.size u4).alloc (Nat.le_refl _) (.cells #[.int .i64 5, .float .f64 0, .string es, .slice AQ XR.length cQ] 42)) (show u4.heap.size ≤ (u4.alloc (.cells #[.int .i64 5, .float .f64 0, .string es, .slice AQ XR.length cQ] 42)).heap.size by simp))
    generalize u4.alloc (.cells #[.int .i64 5, .float .f64 0, .string es, .slice AQ XR.length cQ] 42) = Y2 at *
    generalize u4.heap.size = gy at *
    have hXY2 := hXY1.trans (hY12.mono hXY1.size)
    have ba2 := ba.below hXY2 ba.lt
    have bx2 := bx1.below hY12 bx1.lt
    have hrP2 : Hid (RwP Y2 (fun b => b < Y2.heap.size) 4 avCells (.slice AP XR.length cP) XR) := hid (hrP1.out.keep fun b hb => ⟨hY12.block b hb, Nat.lt_of_lt_of_le hb hY12.size⟩)
    clear hRQ hY14 ba1 bx1 hrP1 hY12
    refine wp_region_duties 9 [(0, 39), (1, 40), (2, 41), (3, 42), (4, 43), (5, 44), (6, 45), (7, 46), (8, 47)]
      [.is (.agg #[.int .i64 5, .float .f64 0, .string es, .slice AP XR.length cP]), .is (.agg #[.int .i64 5, .int .i64 0, .int .i64 0, .string es, .slice As Ls cs]), .amat (5, 0, es) XR, .is (.bool true), .is (.bool true), .is (.agg #[.int .i64 5, .float .f64 0, .string es, .slice AQ XR.length cQ]), .is (.agg #[.int .i64 5, .int .i64 0, .int .i64 0, .string es, .slice As Ls cs]), .amat (5, 0, es) XR, .is (.bool true)]
      (by kernel_rfl) (by kernel_rfl) (by decide) (by kernel_rfl) (by kernel_rfl) (by kernel_rfl) (by kernel_rfl) rfl (by kernel_rfl) ?_ ?_
    · intro v3 wz lo3 hi3 hb3 hf hlow hap
      have e4 : v3 4 = .bool true := hf 4 _ rfl
      have e8 : v3 8 = .bool true := hf 8 _ rfl
      clear hf hlow hap
      rw [fill_eq_sets]
      simp only [sets, List.setIfInBounds_toArray, List.set_cons_succ, List.set_cons_zero, List.drop_succ_cons, List.drop_zero, e4, e8]
      go_wp2_with fail
      go_ret
      exact ⟨rfl, hwX.trans ((hXY2.trans (hb3.mono hXY2.size)).mono hwX.size)⟩
    · simp only [Duties]
      refine ⟨?_, ?_, ?_, ?_, ?_, ?_, ?_, ?_, ?_, trivial⟩
      · intro v'' wv hb hpre
        refine ⟨by rfl, fun B hB => ?_⟩
        have f0 : B.tmps[8]?.getD undef = .pointer (some ⟨gx, 0, none⟩) := got_out hB (by rfl)
        obtain ⟨q0, q1, q2, q3, qf⟩ := (bx2.below (Below.undrew hb) bx2.lt).cells4
        have hb1 := Below.undrew hb
        clear hB hpre
        unfold Oper.wp
        go_simp
        exact ⟨_, rfl, Below.refl _ _, rfl⟩
      · intro v'' wv hb hpre
        refine ⟨by rfl, fun B hB => ?_⟩
        have f0 : B.tmps[7]?.getD undef = .pointer (some ⟨ga, 0, none⟩) := got_out hB (by rfl)
        obtain ⟨q0, q1, q2, q3, q4, qf⟩ := (ba2.below (Below.undrew hb) ba2.lt).cells5
        have hb1 := Below.undrew hb
        clear hB hpre
        unfold Oper.wp
        go_simp
        exact ⟨_, rfl, Below.refl _ _, rfl⟩
      · intro v'' wv hb hpre
        refine ⟨by rfl, fun B hB => ?_⟩
        obtain ⟨_, _, _, _, _, h0⟩ := hpre 1 _ rfl (by kernel_rfl)
        have e0 : B.tmps[40]?.getD undef = .agg #[.int .i64 5, .int .i64 0, .int .i64 0, .string es, .slice As Ls cs] := (got_in hB (by rfl) (by simp)).trans h0
        have hb1 := Below.undrew hb
        clear hB hpre h0
        unfold Oper.wp
        go_simp
        refine (cOf.out _ (hXY2.trans (hb1.mono hXY2.size))).mono ?_
        rintro e w' ⟨s', rfl, hr', hb'⟩
        exact ⟨_, rfl, hb', s', rfl, hr'⟩
      · intro v'' wv hb hpre
        refine ⟨by rfl, fun B hB => ?_⟩
        obtain ⟨_, _, _, _, _, h0⟩ := hpre 0 _ rfl (by kernel_rfl)
        have e0 : B.tmps[39]?.getD undef = .agg #[.int .i64 5, .float .f64 0, .string es, .slice AP XR.length cP] := (got_in hB (by rfl) (by simp)).trans h0
        obtain ⟨_, hi1, _, _, hz1, s1, h1, hr1⟩ := hpre 2 _ rfl (by kernel_rfl)
        obtain ⟨A1, c1, rfl⟩ := hr1.form
        have HR1 := hid (hr1.imp (S' := fun b => b < wv.heap.size) fun b hb => Nat.lt_of_lt_of_le hb.2 hz1)
        have e1 : B.tmps[41]?.getD undef = .agg #[.int .i64 5, .float .f64 0, .string es, .slice A1 XR.length c1] := (got_in hB (by rfl) (by simp)).trans h1
        have hb1 := Below.undrew hb
        clear hB hpre h0 hr1 h1
        unfold Oper.wp
        go_simp
        refine (cE.out _ _ _ (hrP2.out.keep fun b hb => ⟨hb1.block b hb, Nat.lt_of_lt_of_le hb hb1.size⟩) HR1.out).mono ?_
        rintro e w' ⟨rfl, hb'⟩
        exact ⟨_, rfl, hb', rfl⟩
      · intro v'' wv hb hpre
        refine ⟨by rfl, fun B hB => ?_⟩
        obtain ⟨_, _, _, _, _, h0⟩ := hpre 3 _ rfl (by kernel_rfl)
        have e0 : B.tmps[42]?.getD undef = .bool true := (got_in hB (by rfl) (by simp)).trans h0
        have hb1 := Below.undrew hb
        clear hB hpre h0
        unfold Oper.wp
        go_simp
        exact ⟨_, rfl, Below.refl _ _, rfl⟩
      · intro v'' wv hb hpre
        have hw' : v'' 4 = .bool true := by obtain ⟨_, _, _, _, _, h⟩ := hpre 4 _ rfl (by kernel_rfl); exact h
        refine ⟨wanted_if (b := true) (by rfl) (by rfl) (by rfl) (by simp) hw', fun B hB => ?_⟩
        have f0 : B.tmps[9]?.getD undef = .pointer (some ⟨gy, 0, none⟩) := got_out hB (by rfl)
        obtain ⟨q0, q1, q2, q3, qf⟩ := (by2.below (Below.undrew hb) by2.lt).cells4
        have hb1 := Below.undrew hb
        clear hB hpre hw'
        unfold Oper.wp
        go_simp
        exact ⟨_, rfl, Below.refl _ _, rfl⟩
      · intro v'' wv hb hpre
        have hw' : v'' 4 = .bool true := by obtain ⟨_, _, _, _, _, h⟩ := hpre 4 _ rfl (by kernel_rfl); exact h
        refine ⟨wanted_if (b := true) (by rfl) (by rfl) (by rfl) (by simp) hw', fun B hB => ?_⟩
        have f0 : B.tmps[7]?.getD undef = .pointer (some ⟨ga, 0, none⟩) := got_out hB (by rfl)
        obtain ⟨q0, q1, q2, q3, q4, qf⟩ := (ba2.below (Below.undrew hb) ba2.lt).cells5
        have hb1 := Below.undrew hb
        clear hB hpre hw'
        unfold Oper.wp
        go_simp
        exact ⟨_, rfl, Below.refl _ _, rfl⟩
      · intro v'' wv hb hpre
        have hw' : v'' 4 = .bool true := by obtain ⟨_, _, _, _, _, h⟩ := hpre 4 _ rfl (by kernel_rfl); exact h
        refine ⟨wanted_if (b := true) (by rfl) (by rfl) (by rfl) (by simp) hw', fun B hB => ?_⟩
        obtain ⟨_, _, _, _, _, h0⟩ := hpre 6 _ rfl (by kernel_rfl)
        have e0 : B.tmps[45]?.getD undef = .agg #[.int .i64 5, .int .i64 0, .int .i64 0, .string es, .slice As Ls cs] := (got_in hB (by rfl) (by simp)).trans h0
        have hb1 := Below.undrew hb
        clear hB hpre h0 hw'
        unfold Oper.wp
        go_simp
        refine (cOf.out _ (hXY2.trans (hb1.mono hXY2.size))).mono ?_
        rintro e w' ⟨s', rfl, hr', hb'⟩
        exact ⟨_, rfl, hb', s', rfl, hr'⟩
      · intro v'' wv hb hpre
        have hw' : v'' 4 = .bool true := by obtain ⟨_, _, _, _, _, h⟩ := hpre 4 _ rfl (by kernel_rfl); exact h
        refine ⟨wanted_if (b := true) (by rfl) (by rfl) (by rfl) (by simp) hw', fun B hB => ?_⟩
        obtain ⟨_, _, _, _, _, h0⟩ := hpre 5 _ rfl (by kernel_rfl)
        have e0 : B.tmps[44]?.getD undef = .agg #[.int .i64 5, .float .f64 0, .string es, .slice AQ XR.length cQ] := (got_in hB (by rfl) (by simp)).trans h0
        obtain ⟨_, hi1, _, _, hz1, s1, h1, hr1⟩ := hpre 7 _ rfl (by kernel_rfl)
        obtain ⟨A1, c1, rfl⟩ := hr1.form
        have HR1 := hid (hr1.imp (S' := fun b => b < wv.heap.size) fun b hb => Nat.lt_of_lt_of_le hb.2 hz1)
        have e1 : B.tmps[46]?.getD undef = .agg #[.int .i64 5, .float .f64 0, .string es, .slice A1 XR.length c1] := (got_in hB (by rfl) (by simp)).trans h1
        have hb1 := Below.undrew hb
        clear hB hpre h0 hr1 h1 hw'
        unfold Oper.wp
        go_simp
        refine (cE.out _ _ _ (hrQ2.out.keep fun b hb => ⟨hb1.block b hb, Nat.lt_of_lt_of_le hb hb1.size⟩) HR1.out).mono ?_
        rintro e w' ⟨rfl, hb'⟩
        exact ⟨_, rfl, hb', rfl⟩
  · simp only [Duties]
    refine ⟨?_, ?_, ?_, ?_, ?_, ?_, ?_, ?_, ?_, trivial⟩
    · intro v'' wv hb hpre
      refine ⟨by rfl, fun B hB => ?_⟩
      have f0 : B.tmps[1]?.getD undef = .int .i64 (R : Nat) := got_out hB (by rfl)
      have hb1 := Below.undrew hb
      clear hB hpre
      unfold Oper.wp
      go_simp
      exact ⟨_, rfl, Below.refl _ _, rfl⟩
    · intro v'' wv hb hpre
      refine ⟨by rfl, fun B hB => ?_⟩
      obtain ⟨_, _, _, _, _, h0⟩ := hpre 0 _ rfl (by kernel_rfl)
      have e0 : B.tmps[23]?.getD undef = .int .i64 (R : Nat) := (got_in hB (by rfl) (by simp)).trans h0
      have hb1 := Below.undrew hb
      clear hB hpre h0
      unfold Oper.wp
      go_simp
      refine (int_ok (R : Nat) _ (by omega) (by omega)).mono ?_
      rintro e w' ⟨rfl, hb'⟩
      exact ⟨_, rfl, hb', rfl⟩
    · intro v'' wv hb hpre
      refine ⟨by rfl, fun B hB => ?_⟩
      obtain ⟨_, _, _, _, _, h0⟩ := hpre 1 _ rfl (by kernel_rfl)
      have e0 : B.tmps[24]?.getD undef = .agg #[.int .i64 1, .int .i64 (R : Nat), .int .i64 1, .string es, .slice none 0 0] := (got_in hB (by rfl) (by simp)).trans h0
      have hb1 := Below.undrew hb
      clear hB hpre h0
      unfold Oper.wp
      go_simp
      exact ⟨_, rfl, (Below.refl _ _).alloc (Nat.le_refl _) _, wv.heap.size, rfl, Bk.new _ _ _, Nat.le_refl _, by simp⟩
    · intro v'' wv hb hpre
      refine ⟨by rfl, fun B hB => ?_⟩
      obtain ⟨_, _, _, _, _, g0, h0, hBk, _, _⟩ := hpre 2 _ rfl (by kernel_rfl)
      have e0 : B.tmps[25]?.getD undef = .slice (some ⟨g0, 0, none⟩) 1 1 := (got_in hB (by rfl) (by simp)).trans h0
      have HBk := hid hBk
      have hb1 := Below.undrew hb
      clear hB hpre hBk h0
      unfold Oper.wp
      go_simp
      refine (cAskR.out _ g0 HBk.out).mono ?_
      rintro e w' ⟨s', rfl, hr', hb'⟩
      exact ⟨_, rfl, hb', s', rfl, hr'⟩
    · intro v'' wv hb hpre
      refine ⟨by rfl, fun B hB => ?_⟩
      have f0 : B.tmps[7]?.getD undef = .pointer (some ⟨ga, 0, none⟩) := got_out hB (by rfl)
      obtain ⟨q0, q1, q2, q3, q4, qf⟩ := (ba.below (Below.undrew hb) ba.lt).cells5
      have hb1 := Below.undrew hb
      clear hB hpre
      unfold Oper.wp
      go_simp
      exact ⟨_, rfl, Below.refl _ _, rfl⟩
    · intro v'' wv hb hpre
      refine ⟨by rfl, fun B hB => ?_⟩
      obtain ⟨_, _, _, _, _, h0⟩ := hpre 4 _ rfl (by kernel_rfl)
      have e0 : B.tmps[27]?.getD undef = .agg #[.int .i64 5, .int .i64 0, .int .i64 0, .string es, .slice As Ls cs] := (got_in hB (by rfl) (by simp)).trans h0
      have hb1 := Below.undrew hb
      clear hB hpre h0
      unfold Oper.wp
      go_simp
      refine (cOf.out _ hb1).mono ?_
      rintro e w' ⟨s', rfl, hr', hb'⟩
      exact ⟨_, rfl, hb', s', rfl, hr'⟩
    · intro v'' wv hb hpre
      refine ⟨by rfl, fun B hB => ?_⟩
      obtain ⟨_, hi0, _, _, hz0, s0, h0, hr0⟩ := hpre 3 _ rfl (by kernel_rfl)
      obtain ⟨A0, c0, rfl⟩ := hr0.form
      have HR0 := hid (hr0.imp (S' := fun b => b < wv.heap.size) fun b hb => Nat.lt_of_lt_of_le hb.2 hz0)
      have e0 : B.tmps[26]?.getD undef = .agg #[.int .i64 5, .float .f64 0, .string es, .slice A0 UR.length c0] := (got_in hB (by rfl) (by simp)).trans h0
      obtain ⟨_, hi1, _, _, hz1, s1, h1, hr1⟩ := hpre 5 _ rfl (by kernel_rfl)
      obtain ⟨A1, c1, rfl⟩ := hr1.form
      have HR1 := hid (hr1.imp (S' := fun b => b < wv.heap.size) fun b hb => Nat.lt_of_lt_of_le hb.2 hz1)
      have e1 : B.tmps[28]?.getD undef = .agg #[.int .i64 5, .float .f64 0, .string es, .slice A1 XR.length c1] := (got_in hB (by rfl) (by simp)).trans h1
      have hb1 := Below.undrew hb
      clear hB hpre hr0 h0 hr1 h1
      unfold Oper.wp
      go_simp
      exact ⟨_, rfl, (Below.refl _ _).alloc (Nat.le_refl _) _, wv.heap.size, _, _, rfl, Bk.new _ _ _, Nat.le_refl _, by simp, HR0.out.keep fun b hb => ⟨Below.heap_alloc _ _ _ hb, Nat.lt_succ_of_lt hb⟩, HR1.out.keep fun b hb => ⟨Below.heap_alloc _ _ _ hb, Nat.lt_succ_of_lt hb⟩⟩
    · intro v'' wv hb hpre
      refine ⟨by rfl, fun B hB => ?_⟩
      obtain ⟨_, hi0, _, _, hz0, g0, s1, s2, h0, hBk, _, _, hr1, hr2⟩ := hpre 6 _ rfl (by kernel_rfl)
      have HR1 := hid (hr1.imp (S' := fun b => b < wv.heap.size) fun b hb => Nat.lt_of_lt_of_le hb hz0)
      have HR2 := hid (hr2.imp (S' := fun b => b < wv.heap.size) fun b hb => Nat.lt_of_lt_of_le hb hz0)
      have e0 : B.tmps[29]?.getD undef = .slice (some ⟨g0, 0, none⟩) 2 2 := (got_in hB (by rfl) (by simp)).trans h0
      have HBk := hid hBk
      have hb1 := Below.undrew hb
      clear hB hpre hBk hr1 hr2 h0
      unfold Oper.wp
      go_simp
      refine (cL.out _ g0 _ _ HBk.out HR1.out HR2.out).mono ?_
      rintro e w' ⟨s', rfl, hr', hb'⟩
      exact ⟨_, rfl, hb', s', rfl, hr'⟩
    · intro v'' wv hb hpre
      refine ⟨by rfl, fun B hB => ?_⟩
      have hb1 := Below.undrew hb
      clear hB hpre
      unfold Oper.wp
      go_simp
      exact ⟨_, rfl, (Below.refl _ _).alloc (Nat.le_refl _) _, wv.heap.size, rfl, Bk.new _ _ _, Nat.le_refl _, by simp⟩

theorem law_FnUnit (n c : Nat) (A : Option Addr) (Z : Nat → Int) (a b : Int) (w : World) (hn : n ≤ maxLen) (hZ : ∀ i, i < n → ∃ a, A = some a ∧ w.cell? (a.add i) = some (.int .i64 (Z i))) :
    Calls Tryz.prog 8 #[.slice A n c, .int .i64 a, .int .i64 b] w fun e w' => e = .returned (.bool true) ∧ Below w.heap.size w w' := by
  unfold maxLen at hn
  by_cases h1 : 2147483647 < n
  · clear hZ
    go_enter Tryz.func8, Tryz.ntmps8
    go_wp2_with fail
    go_ret
    exact ⟨rfl, Below.refl _ _⟩
  · exact unit_in n c A Z a b w (by omega) hZ
end Go.Proofs.YtndabbepepbnmaaGreatDoor
