import Derived.Test.YtjnlghokhlmjlaaGreatDoorAndOr
import Derived.Test.YtjnlghokhlmjlaaGreatDoorNot
import Derived.Test.YtjnlghokhlmjlaaGreatDoorSelf
import Derived.Test.YtjnlghokhlmjlaaGreatDoorSaidAND
import Derived.Test.YtjnlghokhlmjlaaGreatDoorSaidOR
import Derived.Test.YtjnlghokhlmjlaaGreatDoorSaidNOT
import Derived.Deep.RegionHeld3
import Derived.Deep.DeepCutAuto
namespace Go.Proofs.YtjnlghokhlmjlaaGreatDoor
open Go.RowKit
attribute [local go_sem] run_store_float

theorem Fn_AND (l : List Bool) (hl0 : 1 ≤ l.length) (hl : l.length ≤ 30) : Fn 45 ((l.map svb).map avOf) (.log (tv (l.all id))) := by
  intro w g L el h
  rw [map_svb] at h
  exact AND_list l hl0 hl w g L el h
theorem Fn_OR (l : List Bool) (hl0 : 1 ≤ l.length) (hl : l.length ≤ 30) : Fn 46 ((l.map svb).map avOf) (.log (tv (l.any id))) := by
  intro w g L el h
  rw [map_svb] at h
  exact OR_list l hl0 hl w g L el h
theorem Fn_NOT (b : Bool) : Fn 44 (([b].map svb).map avOf) (.log (tv (!b))) := by
  intro w g L el h
  rw [map_svb] at h
  have := NOT_num (tv b) b (test_tv b) true es es w g L el h
  have e : (if b then 0 else one64) = tv (!b) := by cases b <;> rfl
  rw [e] at this
  exact this

theorem Args.fst (a b : SV) (W : World) (t : TypeId) (ha : svOk a) : Args (W.alloc (.cells (svCells a ++ svCells b).toArray t)) (.slice (some ⟨W.heap.size, 0, none⟩) 1 2) [a] :=
  ⟨⟨_, 2, rfl, rfl, fun _ => ⟨W.heap.size, 0, rfl, by simp, fun j u hu => by
    rw [(Bk.new W t _).cell, Nat.zero_add]
    have hj : j < 5 := by
      rcases Nat.lt_or_ge j 5 with h | h
      · exact h
      · rw [List.getElem?_eq_none (by simpa [svCells] using h)] at hu; cases hu
    have hu' : (svCells a)[j]? = some u := by simpa using hu
    rw [List.getElem?_toArray, List.getElem?_append_left (by rw [svCells_len]; exact hj), hu']⟩⟩, fun x hx => by simp at hx; subst hx; exact ha, by simp⟩
theorem Args.snd (a b : SV) (W : World) (t : TypeId) (hb : svOk b) : Args (W.alloc (.cells (svCells a ++ svCells b).toArray t)) (.slice (some ⟨W.heap.size, 5, none⟩) 1 1) [b] :=
  ⟨⟨_, 1, rfl, rfl, fun _ => ⟨W.heap.size, 5, rfl, by simp, fun j u hu => by
    rw [(Bk.new W t _).cell]
    have hu' : (svCells b)[j]? = some u := by simpa using hu
    rw [List.getElem?_toArray, List.getElem?_append_right (by rw [svCells_len]; omega), svCells_len, show 5 + j - 5 = j by omega, hu']⟩⟩, fun x hx => by simp at hx; subst hx; exact hb, by simp⟩

/-- another block's five cells are written anew -/
theorem Bk.far5 {w : World} {g q : Nat} {t : TypeId} {cs : Array Value} (hne : g ≠ q) (h : Bk w g t cs) (b0 b1 b2 b3 b4 : Value) :
    Bk (((((w.setCell ⟨q, 0, none⟩ b0).setCell ⟨q, 1, none⟩ b1).setCell ⟨q, 2, none⟩ b2).setCell ⟨q, 3, none⟩ b3).setCell ⟨q, 4, none⟩ b4) g t cs :=
  ((((h.far hne b0).far hne b1).far hne b2).far hne b3).far hne b4

set_option maxRecDepth 100000 in
set_option maxHeartbeats 4000000 in
theorem law_FnMorgan (a b : Bool) (w : World) :
    Calls Tryz.prog 5 #[.bool a, .bool b] w fun e w' => e = .returned (.bool true) ∧ Below w.heap.size w w' := by
  have Fa := hid (Fn_NOT a)
  have Fb := hid (Fn_NOT b)
  have F1 := hid (Fn_AND [a, b] (by simp) (by simp))
  have F2 := hid (Fn_OR [a, b] (by simp) (by simp))
  have F3 := hid (Fn_NOT ([a, b].all id))
  have F4 := hid (Fn_NOT ([a, b].any id))
  have F5 : Hid (Fn 46 (([!a, !b].map svb).map avOf) (.log (tv (!([a, b].all id))))) := by
    have := Fn_OR [!a, !b] (by simp) (by simp)
    rwa [show ([!a, !b].any id) = !([a, b].all id) by cases a <;> cases b <;> rfl] at this
  have F6 : Hid (Fn 45 (([!a, !b].map svb).map avOf) (.log (tv (!([a, b].any id))))) := by
    have := Fn_AND [!a, !b] (by simp) (by simp)
    rwa [show ([!a, !b].all id) = !([a, b].any id) by cases a <;> cases b <;> rfl] at this
  generalize ([a, b].all id) = p at *
  generalize ([a, b].any id) = q at *
  go_enter Tryz.func5, Tryz.ntmps5
  go_wp2_with fail
  refine (bool_any a _).mono ?_
  rintro e w1 ⟨rfl, hb1⟩
  go_wp2_with fail
  refine (bool_any b _).mono ?_
  rintro e w2 ⟨rfl, hb2⟩
  have hd2 := Below.lift hb1 hb1.size hb2
  clear hb1 hb2
  unfold sv
  go_upto_region 2 with fail
  have HA := hid (Args.two (svb a) (svb b) w2 27 (svOk_log a) (svOk_log b))
  have Hx := hid (Args.fst (svb a) (svb b) w2 27 (svOk_log a))
  have Hy := hid (Args.snd (svb a) (svb b) w2 27 (svOk_log b))
  have hdW := hd2.alloc hd2.size (.cells (svCells (svb a) ++ svCells (svb b)).toArray 27)
  change Below _ _ (w2.alloc (.cells #[.int .i64 3, .int .i64 (b2i a), .int .i64 0, .string es, .slice none 0 0, .int .i64 3, .int .i64 (b2i b), .int .i64 0, .string es, .slice none 0 0] 27)) at hdW
  change Hid (Args (w2.alloc (.cells #[.int .i64 3, .int .i64 (b2i a), .int .i64 0, .string es, .slice none 0 0, .int .i64 3, .int .i64 (b2i b), .int .i64 0, .string es, .slice none 0 0] 27)) _ _) at HA Hx Hy
  generalize w2.alloc (.cells #[.int .i64 3, .int .i64 (b2i a), .int .i64 0, .string es, .slice none 0 0, .int .i64 3, .int .i64 (b2i b), .int .i64 0, .string es, .slice none 0 0] 27) = W at *
  go_cut [6, 7] (fun s6 s7 wx => ∃ gx gy : Nat, s6 = ptr gx ∧ s7 = ptr gy ∧ Hid (W.heap.size ≤ gx ∧ W.heap.size ≤ gy) ∧ Hid (Bk wx gx 27 #[.int .i64 3, .int .i64 (b2i (!a)), .int .i64 0, .string es, .slice none 0 0] ∧ Bk wx gy 27 #[.int .i64 3, .int .i64 (b2i (!b)), .int .i64 0, .string es, .slice none 0 0] ∧ Below W.heap.size W wx))
  case first =>
    have d0 : Below W.heap.size W W.drew := Below.drew (Below.refl _ _)
    have d1 : ∀ o, Below W.heap.size W (W.alloc o).drew := fun o => Below.drew ((Below.refl _ _).alloc (Nat.le_refl _) o)
    have d2 : ∀ o o', Below W.heap.size W ((W.alloc o).alloc o').drew := fun o o' => Below.drew (((Below.refl _ _).alloc (Nat.le_refl _) o).alloc (by simp) o')
    go_region_held3 (fun _ => True) (exact trivial)
      (first
        | (go_at_call 13; have hk3' := hk3; refine (said_NOT [svb b] (tv (!b)) (!b) (test_tv _) Fb.out _ _ ?_).mono ?_; (exact Hy.out.keep (by first | with_reducible exact hk3 | with_reducible exact hk3.alloc hk3.size _ | with_reducible exact (hk3.alloc hk3.size _).alloc (hk3.alloc hk3.size _).size _)); rintro e w4 ⟨rfl, hb4⟩; clear hk3'; have hk4 : Below W.heap.size W w4 := (by first | with_reducible exact Below.lift hk3 hk3.size hb4 | with_reducible exact Below.lift (hk3.alloc hk3.size _) (hk3.alloc hk3.size _).size hb4 | with_reducible exact Below.lift ((hk3.alloc hk3.size _).alloc (hk3.alloc hk3.size _).size _) ((hk3.alloc hk3.size _).alloc (hk3.alloc hk3.size _).size _).size hb4); (try (have X := Bk.new w3 27 #[.int .i64 0, .int .i64 0, .int .i64 0, .string ⟨#[]⟩, .slice none 0 0]; have A := X.below hb4 X.lt; have L := A.lt; have C := A.cells5; obtain ⟨_, _, _, _, _, _⟩ := C)); (try (have X := (Bk.new w3 27 #[.int .i64 0, .int .i64 0, .int .i64 0, .string ⟨#[]⟩, .slice none 0 0]).alloc (.cells #[.int .i64 0, .int .i64 0, .int .i64 0, .string ⟨#[]⟩, .slice none 0 0] 27); have A := X.below hb4 X.lt; have L := A.lt; have C := A.cells5; obtain ⟨_, _, _, _, _, _⟩ := C)); (try (have X := Bk.new_at (w := w3.alloc (.cells #[.int .i64 0, .int .i64 0, .int .i64 0, .string ⟨#[]⟩, .slice none 0 0] 27)) (t := 27) (cs := #[.int .i64 0, .int .i64 0, .int .i64 0, .string ⟨#[]⟩, .slice none 0 0]) (g := w3.heap.size + 1) (by simp); have A := X.below hb4 X.lt; have L := A.lt; have C := A.cells5; obtain ⟨_, _, _, _, _, _⟩ := C)); (try (have X := B1; have A := X.below hb4 X.lt; have L := A.lt; have C := A.cells5; obtain ⟨_, _, _, _, _, _⟩ := C)); (try (have X := B1.alloc (.cells #[.int .i64 0, .int .i64 0, .int .i64 0, .string ⟨#[]⟩, .slice none 0 0] 27); have A := X.below hb4 X.lt; have L := A.lt; have C := A.cells5; obtain ⟨_, _, _, _, _, _⟩ := C)); (try (have X := B2; have A := X.below hb4 X.lt; have L := A.lt; have C := A.cells5; obtain ⟨_, _, _, _, _, _⟩ := C)); unfold sv)
        | (go_at_call 13; refine (said_NOT [svb a] (tv (!a)) (!a) (test_tv _) Fa.out _ _ ?_).mono ?_; (exact Hx.out.keep (by first | with_reducible exact d0 | with_reducible exact d1 _ | with_reducible exact d2 _ _)); rintro e w3 ⟨rfl, hb3⟩; have hk3 : Below W.heap.size W w3 := (by first | with_reducible exact Below.lift d0 d0.size hb3 | with_reducible exact Below.lift (d1 _) (d1 _).size hb3 | with_reducible exact Below.lift (d2 _ _) (d2 _ _).size hb3); (try (have X := (show Bk (W.alloc (.cells #[.int .i64 0, .int .i64 0, .int .i64 0, .string ⟨#[]⟩, .slice none 0 0] 27)).drew W.heap.size 27 #[.int .i64 0, .int .i64 0, .int .i64 0, .string ⟨#[]⟩, .slice none 0 0] from Bk.new W 27 #[.int .i64 0, .int .i64 0, .int .i64 0, .string ⟨#[]⟩, .slice none 0 0]); have B1 := X.below hb3 X.lt; have L := B1.lt; have C := B1.cells5; obtain ⟨_, _, _, _, _, _⟩ := C)); (try (have X := (show Bk ((W.alloc (.cells #[.int .i64 0, .int .i64 0, .int .i64 0, .string ⟨#[]⟩, .slice none 0 0] 27)).alloc (.cells #[.int .i64 0, .int .i64 0, .int .i64 0, .string ⟨#[]⟩, .slice none 0 0] 27)).drew W.heap.size 27 #[.int .i64 0, .int .i64 0, .int .i64 0, .string ⟨#[]⟩, .slice none 0 0] from (Bk.new W 27 #[.int .i64 0, .int .i64 0, .int .i64 0, .string ⟨#[]⟩, .slice none 0 0]).alloc (.cells #[.int .i64 0, .int .i64 0, .int .i64 0, .string ⟨#[]⟩, .slice none 0 0] 27)); have B1 := X.below hb3 X.lt; have L := B1.lt; have C := B1.cells5; obtain ⟨_, _, _, _, _, _⟩ := C)); (try (have X := (show Bk ((W.alloc (.cells #[.int .i64 0, .int .i64 0, .int .i64 0, .string ⟨#[]⟩, .slice none 0 0] 27)).alloc (.cells #[.int .i64 0, .int .i64 0, .int .i64 0, .string ⟨#[]⟩, .slice none 0 0] 27)).drew (W.heap.size + 1) 27 #[.int .i64 0, .int .i64 0, .int .i64 0, .string ⟨#[]⟩, .slice none 0 0] from Bk.new_at (by simp)); have B2 := X.below hb3 X.lt; have L := B2.lt; have C := B2.cells5; obtain ⟨_, _, _, _, _, _⟩ := C)); unfold sv))
    all_goals
      have hz3 := hk3.size
      have hz4 := hk4.size
      have hz43 := hb4.size
      first | go_wp2_with fail | skip
      go_meet
      refine ⟨_, _, rfl, rfl, ⟨by omega, by omega⟩, ?_, ?_, ?_⟩
      · (repeat (first | with_reducible assumption | with_reducible exact Bk.new _ _ _ | with_reducible exact Bk.new_at (by simp; done) | with_reducible refine Bk.alloc ?_ _ | with_reducible refine Bk.set5 (x0 := .int .i64 0) (x1 := .int .i64 0) (x2 := .int .i64 0) (x3 := .string ⟨#[]⟩) (x4 := .slice none 0 0) ?_ _ _ _ _ _ | (with_reducible refine Bk.far5 ?_ ?_ _ _ _ _ _; omega)))
      · (repeat (first | with_reducible assumption | with_reducible exact Bk.new _ _ _ | with_reducible exact Bk.new_at (by simp; done) | with_reducible refine Bk.alloc ?_ _ | with_reducible refine Bk.set5 (x0 := .int .i64 0) (x1 := .int .i64 0) (x2 := .int .i64 0) (x3 := .string ⟨#[]⟩) (x4 := .slice none 0 0) ?_ _ _ _ _ _ | (with_reducible refine Bk.far5 ?_ ?_ _ _ _ _ _; omega)))
      · repeat (first | with_reducible assumption | with_reducible refine (fun h => Below.alloc h h.size _) ?_ | with_reducible refine Below.set5 ?_ (by omega) _ _ _ _ _)
  case rest =>
    obtain ⟨gx, gy, rfl, rfl, hge, hcells⟩ := hcut
    have hb : Below W.heap.size W wc := hcells.out.2.2
    have HX := hid hcells.out.1
    have HY := hid hcells.out.2.1
    clear hcells hge Hx Hy Fa Fb
    go_wp2_with fail
    refine (said_AND [svb a, svb b] (tv p) p (test_tv _) F1.out _ _ (HA.out.keep hb)).mono ?_
    rintro e v1 ⟨rfl, c1⟩
    have k1 := Below.lift hb hb.size c1
    unfold sv
    go_wp2_with fail
    refine (said_NOT [svb p] (tv (!p)) (!p) (test_tv _) F3.out _ _ (Args.one (svb p) v1 27 (svOk_log p))).mono ?_
    rintro e v2 ⟨rfl, c2⟩
    have k2 := Below.lift (k1.alloc k1.size _) (by have := k1.size; simp; omega) c2
    have r2 : Below wc.heap.size wc v2 := Below.lift (c1.alloc c1.size _) (by have := c1.size; simp; omega) c2
    clear c1 c2 k1
    unfold sv
    go_wp2_with fail
    have k2a := k2.alloc k2.size (.cells #[.int .i64 3, .int .i64 (b2i (!p)), .int .i64 0, .string es, .slice none 0 0] 27)
    have r2a := r2.alloc r2.size (.cells #[.int .i64 3, .int .i64 (b2i (!p)), .int .i64 0, .string es, .slice none 0 0] 27)
    have H8 := hid (Bk.new v2 27 #[.int .i64 3, .int .i64 (b2i (!p)), .int .i64 0, .string es, .slice none 0 0])
    refine (said_OR [svb a, svb b] (tv q) q (test_tv _) F2.out _ _ (HA.out.keep k2a)).mono ?_
    rintro e v3 ⟨rfl, c3⟩
    have k3 := Below.lift k2a k2a.size c3
    have r3 := Below.lift r2a r2a.size c3
    have H83 := hid (H8.out.below c3 H8.out.lt)
    clear c3 k2 k2a r2 r2a H8
    unfold sv
    go_wp2_with fail
    refine (said_NOT [svb q] (tv (!q)) (!q) (test_tv _) F4.out _ _ (Args.one (svb q) v3 27 (svOk_log q))).mono ?_
    rintro e v4 ⟨rfl, c4⟩
    have k4 := Below.lift (k3.alloc k3.size _) (by have := k3.size; simp; omega) c4
    have r4 := Below.lift (r3.alloc r3.size _) (by have := r3.size; simp; omega) c4
    have H84 := hid ((H83.out.alloc _).below c4 (H83.out.alloc _).lt)
    clear c4 k3 r3 H83
    unfold sv
    go_wp2_with fail
    have k5 := k4.alloc k4.size (.cells #[.int .i64 3, .int .i64 (b2i (!q)), .int .i64 0, .string es, .slice none 0 0] 27)
    have r5 := r4.alloc r4.size (.cells #[.int .i64 3, .int .i64 (b2i (!q)), .int .i64 0, .string es, .slice none 0 0] 27)
    have H85 := hid (H84.out.alloc (.cells #[.int .i64 3, .int .i64 (b2i (!q)), .int .i64 0, .string es, .slice none 0 0] 27))
    have H95 := hid (Bk.new v4 27 #[.int .i64 3, .int .i64 (b2i (!q)), .int .i64 0, .string es, .slice none 0 0])
    clear k4 r4 H84
    generalize v4.alloc (.cells #[.int .i64 3, .int .i64 (b2i (!q)), .int .i64 0, .string es, .slice none 0 0] 27) = Z at *
    have hX := HX.out.below r5 HX.out.lt
    have hY := HY.out.below r5 HY.out.lt
    obtain ⟨x0, x1, x2, x3, x4, xf⟩ := hX.cells5
    obtain ⟨y0, y1, y2, y3, y4, yf⟩ := hY.cells5
    obtain ⟨c0, c1, c2, c3, c4, cf⟩ := H85.out.cells5
    obtain ⟨d0, d1, d2, d3, d4, df⟩ := H95.out.cells5
    have lx := hX.lt
    have ly := hY.lt
    have lc := H85.out.lt
    have ld := H95.out.lt
    have hdZ := Below.lift hdW hdW.size k5
    clear hX hY HX HY H85 H95 k5 r5 hb hdW HA F1 F2 F3 F4 hd2
    generalize hg8 : v2.heap.size = g8 at *
    generalize hg9 : v4.heap.size = g9 at *
    clear hg8 hg9
    have HS : Hid (∀ w', Below Z.heap.size Z w' → (w'.cell? ⟨gx, 0, none⟩ = some (.int .i64 3) ∧ w'.cell? ⟨gx, 1, none⟩ = some (.int .i64 (b2i (!a))) ∧ w'.cell? ⟨gx, 2, none⟩ = some (.int .i64 0) ∧ w'.cell? ⟨gx, 3, none⟩ = some (.string es) ∧ w'.cell? ⟨gx, 4, none⟩ = some (.slice none 0 0) ∧ w'.cell? ⟨gy, 0, none⟩ = some (.int .i64 3) ∧ w'.cell? ⟨gy, 1, none⟩ = some (.int .i64 (b2i (!b))) ∧ w'.cell? ⟨gy, 2, none⟩ = some (.int .i64 0) ∧ w'.cell? ⟨gy, 3, none⟩ = some (.string es) ∧ w'.cell? ⟨gy, 4, none⟩ = some (.slice none 0 0) ∧ w'.cell? ⟨g8, 0, none⟩ = some (.int .i64 3) ∧ w'.cell? ⟨g8, 1, none⟩ = some (.int .i64 (b2i (!p))) ∧ w'.cell? ⟨g8, 2, none⟩ = some (.int .i64 0) ∧ w'.cell? ⟨g8, 3, none⟩ = some (.string es) ∧ w'.cell? ⟨g8, 4, none⟩ = some (.slice none 0 0) ∧ w'.cell? ⟨g9, 0, none⟩ = some (.int .i64 3) ∧ w'.cell? ⟨g9, 1, none⟩ = some (.int .i64 (b2i (!q))) ∧ w'.cell? ⟨g9, 2, none⟩ = some (.int .i64 0) ∧ w'.cell? ⟨g9, 3, none⟩ = some (.string es) ∧ w'.cell? ⟨g9, 4, none⟩ = some (.slice none 0 0))) := hid (fun w' hw => ⟨(hw.cell (p := ⟨gx, 0, none⟩) lx).trans x0, (hw.cell (p := ⟨gx, 1, none⟩) lx).trans x1, (hw.cell (p := ⟨gx, 2, none⟩) lx).trans x2, (hw.cell (p := ⟨gx, 3, none⟩) lx).trans x3, (hw.cell (p := ⟨gx, 4, none⟩) lx).trans x4, (hw.cell (p := ⟨gy, 0, none⟩) ly).trans y0, (hw.cell (p := ⟨gy, 1, none⟩) ly).trans y1, (hw.cell (p := ⟨gy, 2, none⟩) ly).trans y2, (hw.cell (p := ⟨gy, 3, none⟩) ly).trans y3, (hw.cell (p := ⟨gy, 4, none⟩) ly).trans y4, (hw.cell (p := ⟨g8, 0, none⟩) lc).trans c0, (hw.cell (p := ⟨g8, 1, none⟩) lc).trans c1, (hw.cell (p := ⟨g8, 2, none⟩) lc).trans c2, (hw.cell (p := ⟨g8, 3, none⟩) lc).trans c3, (hw.cell (p := ⟨g8, 4, none⟩) lc).trans c4, (hw.cell (p := ⟨g9, 0, none⟩) ld).trans d0, (hw.cell (p := ⟨g9, 1, none⟩) ld).trans d1, (hw.cell (p := ⟨g9, 2, none⟩) ld).trans d2, (hw.cell (p := ⟨g9, 3, none⟩) ld).trans d3, (hw.cell (p := ⟨g9, 4, none⟩) ld).trans d4⟩)
    have k0 : Below Z.heap.size Z Z := Below.refl _ _
    have k0d : Below Z.heap.size Z Z.drew := Below.drew (Below.refl _ _)
    have k0a : ∀ o, Below Z.heap.size Z (Z.alloc o) := fun o => (Below.refl _ _).alloc (Nat.le_refl _) o
    have k0ad : ∀ o, Below Z.heap.size Z (Z.alloc o).drew := fun o => Below.drew ((Below.refl _ _).alloc (Nat.le_refl _) o)
    go_region_held3 (fun w' => w'.cell? ⟨gx, 0, none⟩ = some (.int .i64 3) ∧ w'.cell? ⟨gx, 1, none⟩ = some (.int .i64 (b2i (!a))) ∧ w'.cell? ⟨gx, 2, none⟩ = some (.int .i64 0) ∧ w'.cell? ⟨gx, 3, none⟩ = some (.string es) ∧ w'.cell? ⟨gx, 4, none⟩ = some (.slice none 0 0) ∧ w'.cell? ⟨gy, 0, none⟩ = some (.int .i64 3) ∧ w'.cell? ⟨gy, 1, none⟩ = some (.int .i64 (b2i (!b))) ∧ w'.cell? ⟨gy, 2, none⟩ = some (.int .i64 0) ∧ w'.cell? ⟨gy, 3, none⟩ = some (.string es) ∧ w'.cell? ⟨gy, 4, none⟩ = some (.slice none 0 0) ∧ w'.cell? ⟨g8, 0, none⟩ = some (.int .i64 3) ∧ w'.cell? ⟨g8, 1, none⟩ = some (.int .i64 (b2i (!p))) ∧ w'.cell? ⟨g8, 2, none⟩ = some (.int .i64 0) ∧ w'.cell? ⟨g8, 3, none⟩ = some (.string es) ∧ w'.cell? ⟨g8, 4, none⟩ = some (.slice none 0 0) ∧ w'.cell? ⟨g9, 0, none⟩ = some (.int .i64 3) ∧ w'.cell? ⟨g9, 1, none⟩ = some (.int .i64 (b2i (!q))) ∧ w'.cell? ⟨g9, 2, none⟩ = some (.int .i64 0) ∧ w'.cell? ⟨g9, 3, none⟩ = some (.string es) ∧ w'.cell? ⟨g9, 4, none⟩ = some (.slice none 0 0))
      (first | with_reducible exact HS.out _ hkD | with_reducible exact HS.out _ (hkD.alloc hkD.size _) | with_reducible exact HS.out _ hkC | with_reducible exact HS.out _ (hkC.alloc hkC.size _) | with_reducible exact HS.out _ hkB | with_reducible exact HS.out _ (hkB.alloc hkB.size _) | with_reducible exact HS.out _ hkA | with_reducible exact HS.out _ (hkA.alloc hkA.size _) | with_reducible exact HS.out _ k0 | with_reducible exact HS.out _ k0d | with_reducible exact HS.out _ (k0a _) | with_reducible exact HS.out _ (k0ad _) | go_keep)
      (first
        | (go_at_call 13; have hkB' := hkB; refine (said_AND [svb (!a), svb (!b)] (tv (!q)) (!q) (test_tv _) F6.out _ _ (Args.two (svb (!a)) (svb (!b)) _ 27 (svOk_log _) (svOk_log _))).mono ?_; rintro e wC ⟨rfl, eC⟩; clear hkB'; have hkC : Below Z.heap.size Z wC := Below.lift (hkB.alloc hkB.size _) (hkB.alloc hkB.size _).size eC; unfold sv)
        | (go_at_call 13; refine (said_OR [svb (!a), svb (!b)] (tv (!p)) (!p) (test_tv _) F5.out _ (Z.alloc (.cells (svCells (svb (!a)) ++ svCells (svb (!b))).toArray 27)).drew ((Args.two (svb (!a)) (svb (!b)) Z 27 (svOk_log _) (svOk_log _)).keep (Below.drew (Below.refl _ _)))).mono ?_; rintro e wA ⟨rfl, eA⟩; have hkA : Below Z.heap.size Z wA := Below.lift (k0ad _) (k0ad _).size eA; unfold sv)
        | (go_at_call 17; have hkC' := hkC; refine (self_yes (svb (!q)) _).mono ?_; rintro e wD ⟨rfl, eD⟩; clear hkC'; have hkD : Below Z.heap.size Z wD := Below.lift hkC hkC.size eD)
        | (go_at_call 17; refine (self_yes (svb (!p)) _).mono ?_; rintro e wB ⟨rfl, eB⟩; have hkB : Below Z.heap.size Z wB := Below.lift hkA hkA.size eB))
    all_goals
      go_wp2_with fail
      go_ret
      exact ⟨rfl, Below.lift hdZ hdZ.size hkD⟩
end Go.Proofs.YtjnlghokhlmjlaaGreatDoor
