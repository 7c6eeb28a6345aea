import Derived.Test.YtndabbepepbnmaaGreatDoorEvenA
import Derived.Test.YtndabbepepbnmaaGreatDoorIsOdd
import Derived.Test.YtndabbepepbnmaaGreatDoorSelf
import Derived.Test.YtndabbepepbnmaaGreatDoorSaidEVEN
import Derived.Test.YtndabbepepbnmaaGreatDoorSaidODD
import Derived.Test.YtndabbepepbnmaaGreatDoorSaidISODD
import Derived.Deep.RegionHeld3
import Derived.Lib.QuietBelow
import Derived.BigQuiet
import Derived.Deep.DeepCutAuto
namespace Go.Proofs.YtndabbepepbnmaaGreatDoor
open Go.RowKit Go.Sort Ieee
attribute [local go_sem] run_store_float

set_option maxRecDepth 100000 in
theorem argPart_any (n : Int) (hn : n.natAbs ≤ 1000000000) (w : World) :
    Calls Tryz.prog 42 #[.int .i64 n] w fun e w' => ∃ a d, e = .returned (sv 1 a d es) ∧ Part n a d ∧ Below w.heap.size w w' := by
  have HF := hid (fun W => frac_any n W (by omega) (by omega) (fun a d h => by unfold Lowest Part at h; omega))
  have h1 : n ≤ 35184372088832 := by omega
  have h2 : -35184372088832 ≤ n := by omega
  go_enter Tryz.func42, Tryz.ntmps42
  go_wp2_with fail
  refine (HF.out _).mono ?_
  rintro e w1 ⟨a, d, rfl, hp, hb⟩
  have hB := Bk.below (Bk.new w 24 #[.int .i64 0, .int .i64 0, .int .i64 0, .string ⟨#[]⟩, .slice none 0 0]) hb (by simp)
  have hd := Below.lift ((Below.refl w.heap.size w).alloc (Nat.le_refl _) _) (by simp) hb
  obtain ⟨q0, q1, q2, q3, q4, qf⟩ := hB.cells5
  have hz := hB.lt
  have HP := hid hp
  clear hb hp
  unfold sv
  go_wp2_with fail
  exact end_cell Tryz.results42 rfl (Bk.set5 hB _ _ _ _ _) Tryz.underlying24 rfl info_sv rfl
    ⟨a, d, rfl, HP.out.1, Below.set5 hd (Nat.le_refl _) _ _ _ _ _⟩

/-- another block's five cells are written anew -/
theorem Bk.far5 {w : World} {g q : Nat} {t : TypeId} {cs : Array Value} (hne : g ≠ q) (h : Bk w g t cs) (b0 b1 b2 b3 b4 : Value) :
    Bk (((((w.setCell ⟨q, 0, none⟩ b0).setCell ⟨q, 1, none⟩ b1).setCell ⟨q, 2, none⟩ b2).setCell ⟨q, 3, none⟩ b3).setCell ⟨q, 4, none⟩ b4) g t cs :=
  ((((h.far hne b0).far hne b1).far hne b2).far hne b3).far hne b4

theorem test_0 : (FloatKind.f64.format.order 0 0 != some .eq) = false := by rw [order_zero0]; rfl
theorem test_1 : (FloatKind.f64.format.order one64 0 != some .eq) = true := by rw [order_one]; rfl
theorem Args.atN {W : World} {g : Nat} {t : TypeId} {x : Int} (hg : g = W.heap.size) (h : svOk (1, x, 1, es)) :
    Args (W.alloc (.cells #[.int .i64 1, .int .i64 x, .int .i64 1, .string es, .slice none 0 0] t)) (.slice (some ⟨g, 0, none⟩) 1 1) [(1, x, 1, es)] := hg ▸ Args.one (1, x, 1, es) W t h
theorem Bk.drew {w : World} {g : Nat} {t : TypeId} {cs : Array Value} (h : Bk w g t cs) : Bk w.drew g t cs := h
theorem Args.alloc {w : World} {v : Value} {l : List SV} (h : Args w v l) (o : Obj) : Args (w.alloc o) v l := h.keep ((Below.refl _ _).alloc (Nat.le_refl _) o)
theorem Args.drew {w : World} {v : Value} {l : List SV} (h : Args w v l) : Args w.drew v l := h.keep (Below.drew (Below.refl _ _))

set_option maxRecDepth 100000 in
set_option maxHeartbeats 4000000 in
theorem law_FnEvenOdd (n : Int) (w : World) :
    Calls Tryz.prog 9 #[.int .i64 n] w fun e w' => e = .returned (.bool true) ∧ Below w.heap.size w w' := by
  by_cases hb1 : 1000000000 < n
  · go_enter Tryz.func9, Tryz.ntmps9
    go_wp2_with fail
    go_ret
    exact ⟨rfl, Below.refl _ _⟩
  by_cases hb2 : n < -1000000000
  · go_enter Tryz.func9, Tryz.ntmps9
    go_wp2_with fail
    go_ret
    exact ⟨rfl, Below.refl _ _⟩
  obtain ⟨E, hE, hE1, hE2, hE3⟩ := EVEN_num n (by omega)
  obtain ⟨O, hO, hO1, hO2, hO3⟩ := ODD_num n (by omega)
  have F1 := hid hE
  have F2 := hid hO
  have F3 : Hid (Fn 115 ([((1, E, 1, es) : SV)].map avOf) (.log 0)) := hid (ISODD_num E (by omega) false (by simp [hE1]))
  have F4 : Hid (Fn 115 ([((1, O, 1, es) : SV)].map avOf) (.log one64)) := hid (ISODD_num O (by omega) true (by simp [hO1]))
  have HP := hid (fun W => argPart_any n (by omega) W)
  have HQ := hid (fun a d (h : Part n a d) => svOk_part h (by omega))
  have G1 : Hid (-99999999999 ≤ E ∧ E ≤ 99999999999 ∧ -99999999999 ≤ O ∧ O ≤ 99999999999) := hid (by omega)
  have G2 : Hid (n.natAbs ≤ 16 * E.natAbs ∧ n.natAbs ≤ 16 * O.natAbs ∧ E.natAbs ≤ 200000000 ∧ O.natAbs ≤ 200000000) := hid ⟨hE2, hO2, hE3, hO3⟩
  have HN := hid (show -1000000000 ≤ n ∧ n ≤ 1000000000 from ⟨by omega, by omega⟩)
  clear hE hO hE1 hE2 hE3 hO1 hO2 hO3
  go_enter Tryz.func9, Tryz.ntmps9
  go_wp2_with fail
  refine (HP.out _).mono ?_
  rintro e w1 ⟨a, d, rfl, hp, c1⟩
  unfold sv
  go_wp2_with fail
  refine (said_EVEN [(1, a, d, es)] E G1.out.1 G1.out.2.1 (F1.out a d hp) _ _ (Args.one (1, a, d, es) w1 24 (HQ.out a d hp))).mono ?_
  rintro e w2 ⟨rfl, c2⟩
  have k2 := Below.lift (c1.alloc c1.size _) (by have := c1.size; simp; omega) c2
  clear c1 c2 hp
  unfold sv
  go_wp2_with fail
  refine (HP.out _).mono ?_
  rintro e w3 ⟨a', d', rfl, hp, c3⟩
  have k3 := Below.lift k2 k2.size c3
  clear k2 c3
  unfold sv
  go_wp2_with fail
  refine (said_ODD [(1, a', d', es)] O G1.out.2.2.1 G1.out.2.2.2 (F2.out a' d' hp) _ _ (Args.one (1, a', d', es) w3 24 (HQ.out a' d' hp))).mono ?_
  rintro e w4 ⟨rfl, c4⟩
  have k4 := Below.lift (k3.alloc k3.size _) (by have := k3.size; simp; omega) c4
  clear k3 c4 hp
  unfold sv
  go_upto_region 4 with fail
  have q1 := (Bk.new w4 24 #[.int .i64 1, .int .i64 E, .int .i64 1, .string es, .slice none 0 0]).alloc (.cells #[.int .i64 1, .int .i64 O, .int .i64 1, .string es, .slice none 0 0] 24)
  have q2 := Bk.new_at (w := w4.alloc (.cells #[.int .i64 1, .int .i64 E, .int .i64 1, .string es, .slice none 0 0] 24)) (t := 24) (cs := #[.int .i64 1, .int .i64 O, .int .i64 1, .string es, .slice none 0 0]) (g := w4.heap.size + 1) (by simp)
  have k5 := (k4.alloc k4.size (.cells #[.int .i64 1, .int .i64 E, .int .i64 1, .string es, .slice none 0 0] 24)).alloc (by have := k4.size; simp; omega) (.cells #[.int .i64 1, .int .i64 O, .int .i64 1, .string es, .slice none 0 0] 24)
  generalize (w4.alloc (.cells #[.int .i64 1, .int .i64 E, .int .i64 1, .string es, .slice none 0 0] 24)).alloc (.cells #[.int .i64 1, .int .i64 O, .int .i64 1, .string es, .slice none 0 0] 24) = W at *
  generalize hg3 : w4.heap.size = g3 at *
  generalize hg4 : g3 + 1 = g4 at *
  clear hg3 hg4 k4
  obtain ⟨x0, x1, x2, x3, x4, xf⟩ := q1.cells5
  obtain ⟨y0, y1, y2, y3, y4, yf⟩ := q2.cells5
  have lx := q1.lt
  have ly := q2.lt
  have HS : Hid (∀ w', Below W.heap.size W w' → (w'.cell? ⟨g3, 0, none⟩ = some (.int .i64 1) ∧ w'.cell? ⟨g3, 1, none⟩ = some (.int .i64 E) ∧ w'.cell? ⟨g3, 2, none⟩ = some (.int .i64 1) ∧ w'.cell? ⟨g3, 3, none⟩ = some (.string es) ∧ w'.cell? ⟨g3, 4, none⟩ = some (.slice none 0 0) ∧ w'.cell? ⟨g4, 0, none⟩ = some (.int .i64 1) ∧ w'.cell? ⟨g4, 1, none⟩ = some (.int .i64 O) ∧ w'.cell? ⟨g4, 2, none⟩ = some (.int .i64 1) ∧ w'.cell? ⟨g4, 3, none⟩ = some (.string es) ∧ w'.cell? ⟨g4, 4, none⟩ = some (.slice none 0 0))) := hid (fun w' hw => ⟨(hw.cell (p := ⟨g3, 0, none⟩) lx).trans x0, (hw.cell (p := ⟨g3, 1, none⟩) lx).trans x1, (hw.cell (p := ⟨g3, 2, none⟩) lx).trans x2, (hw.cell (p := ⟨g3, 3, none⟩) lx).trans x3, (hw.cell (p := ⟨g3, 4, none⟩) lx).trans x4, (hw.cell (p := ⟨g4, 0, none⟩) ly).trans y0, (hw.cell (p := ⟨g4, 1, none⟩) ly).trans y1, (hw.cell (p := ⟨g4, 2, none⟩) ly).trans y2, (hw.cell (p := ⟨g4, 3, none⟩) ly).trans y3, (hw.cell (p := ⟨g4, 4, none⟩) ly).trans y4⟩)
  clear q1 q2 x0 x1 x2 x3 x4 y0 y1 y2 y3 y4
  have OK1 : svOk (1, E, 1, es) := svOk_whole E (by have := G1.out; omega)
  have OK2 : svOk (1, O, 1, es) := svOk_whole O (by have := G1.out; omega)
  go_cut [5, 6] (fun s5 s6 wx => ∃ gx gy : Nat, s5 = ptr gx ∧ s6 = ptr gy ∧ Hid (Bk wx gx 24 #[.int .i64 3, .int .i64 (b2i false), .int .i64 0, .string es, .slice none 0 0] ∧ Bk wx gy 24 #[.int .i64 3, .int .i64 (b2i true), .int .i64 0, .string es, .slice none 0 0] ∧ Below W.heap.size W wx))
  case first =>
    go_region_held3 (fun w' => w'.cell? ⟨g3, 0, none⟩ = some (.int .i64 1) ∧ w'.cell? ⟨g3, 1, none⟩ = some (.int .i64 E) ∧ w'.cell? ⟨g3, 2, none⟩ = some (.int .i64 1) ∧ w'.cell? ⟨g3, 3, none⟩ = some (.string es) ∧ w'.cell? ⟨g3, 4, none⟩ = some (.slice none 0 0) ∧ w'.cell? ⟨g4, 0, none⟩ = some (.int .i64 1) ∧ w'.cell? ⟨g4, 1, none⟩ = some (.int .i64 O) ∧ w'.cell? ⟨g4, 2, none⟩ = some (.int .i64 1) ∧ w'.cell? ⟨g4, 3, none⟩ = some (.string es) ∧ w'.cell? ⟨g4, 4, none⟩ = some (.slice none 0 0))
      (first | with_reducible exact HS.out _ hk6 | with_reducible exact HS.out _ hk5 | (refine HS.out _ ?_; (repeat (first | with_reducible assumption | with_reducible refine Below.set5 ?_ (by first | omega | fail) _ _ _ _ _ | with_reducible exact Below.refl _ _ | with_reducible refine Below.drew ?_ | with_reducible refine (fun h => Below.alloc h h.size _) ?_)); done) | go_keep)
      (first
        | (go_at_call 18; have hk5' := hk5; refine (said_ISODD [(1, O, 1, es)] one64 true test_1 F4.out _ _ ?_).mono ?_; (focus ((repeat (first | with_reducible assumption | with_reducible exact Args.atN (by first | (simp; done) | fail) (by assumption) | with_reducible refine Args.drew ?_ | with_reducible refine Args.alloc ?_ _)); done)); rintro e w6 ⟨rfl, hb6⟩; clear hk5'; have hk6 : Below W.heap.size W w6 := Below.lift (w1 := _) (by repeat (first | with_reducible assumption | with_reducible refine Below.set5 ?_ (by first | omega | fail) _ _ _ _ _ | with_reducible exact Below.refl _ _ | with_reducible refine Below.drew ?_ | with_reducible refine (fun h => Below.alloc h h.size _) ?_)) (by have := hk5.size; first | omega | (simp; done) | (simp; omega)) hb6; have hz6 := hk6.size; have hz65 := hb6.size; (try (have A : Bk w6 (W.heap.size) 24 #[.int .i64 0, .int .i64 0, .int .i64 0, .string ⟨#[]⟩, .slice none 0 0] := Bk.below (by first | ((repeat (first | with_reducible assumption | with_reducible exact Bk.new_at (by first | (simp; done) | fail) | with_reducible refine Bk.drew ?_ | with_reducible refine Bk.alloc ?_ _)); done) | fail) hb6 (by first | ((first | omega | (simp; done) | (simp; omega)); done) | fail); have L := A.lt; have C := A.cells5; obtain ⟨_, _, _, _, _, _⟩ := C)); (try (have A : Bk w6 (W.heap.size + 1) 24 #[.int .i64 0, .int .i64 0, .int .i64 0, .string ⟨#[]⟩, .slice none 0 0] := Bk.below (by first | ((repeat (first | with_reducible assumption | with_reducible exact Bk.new_at (by first | (simp; done) | fail) | with_reducible refine Bk.drew ?_ | with_reducible refine Bk.alloc ?_ _)); done) | fail) hb6 (by first | ((first | omega | (simp; done) | (simp; omega)); done) | fail); have L := A.lt; have C := A.cells5; obtain ⟨_, _, _, _, _, _⟩ := C)); (try (have A : Bk w6 (W.heap.size + 2) 24 #[.int .i64 0, .int .i64 0, .int .i64 0, .string ⟨#[]⟩, .slice none 0 0] := Bk.below (by first | ((repeat (first | with_reducible assumption | with_reducible exact Bk.new_at (by first | (simp; done) | fail) | with_reducible refine Bk.drew ?_ | with_reducible refine Bk.alloc ?_ _)); done) | fail) hb6 (by first | ((first | omega | (simp; done) | (simp; omega)); done) | fail); have L := A.lt; have C := A.cells5; obtain ⟨_, _, _, _, _, _⟩ := C)); (try (have A : Bk w6 (W.heap.size + 3) 24 #[.int .i64 0, .int .i64 0, .int .i64 0, .string ⟨#[]⟩, .slice none 0 0] := Bk.below (by first | ((repeat (first | with_reducible assumption | with_reducible exact Bk.new_at (by first | (simp; done) | fail) | with_reducible refine Bk.drew ?_ | with_reducible refine Bk.alloc ?_ _)); done) | fail) hb6 (by first | ((first | omega | (simp; done) | (simp; omega)); done) | fail); have L := A.lt; have C := A.cells5; obtain ⟨_, _, _, _, _, _⟩ := C)); (try (have A : Bk w6 (w5.heap.size) 24 #[.int .i64 0, .int .i64 0, .int .i64 0, .string ⟨#[]⟩, .slice none 0 0] := Bk.below (by first | ((repeat (first | with_reducible assumption | with_reducible exact Bk.new_at (by first | (simp; done) | fail) | with_reducible refine Bk.drew ?_ | with_reducible refine Bk.alloc ?_ _)); done) | fail) hb6 (by first | ((first | omega | (simp; done) | (simp; omega)); done) | fail); have L := A.lt; have C := A.cells5; obtain ⟨_, _, _, _, _, _⟩ := C)); (try (have A : Bk w6 (w5.heap.size + 1) 24 #[.int .i64 0, .int .i64 0, .int .i64 0, .string ⟨#[]⟩, .slice none 0 0] := Bk.below (by first | ((repeat (first | with_reducible assumption | with_reducible exact Bk.new_at (by first | (simp; done) | fail) | with_reducible refine Bk.drew ?_ | with_reducible refine Bk.alloc ?_ _)); done) | fail) hb6 (by first | ((first | omega | (simp; done) | (simp; omega)); done) | fail); have L := A.lt; have C := A.cells5; obtain ⟨_, _, _, _, _, _⟩ := C)); (try (have A : Bk w6 (w5.heap.size + 2) 24 #[.int .i64 0, .int .i64 0, .int .i64 0, .string ⟨#[]⟩, .slice none 0 0] := Bk.below (by first | ((repeat (first | with_reducible assumption | with_reducible exact Bk.new_at (by first | (simp; done) | fail) | with_reducible refine Bk.drew ?_ | with_reducible refine Bk.alloc ?_ _)); done) | fail) hb6 (by first | ((first | omega | (simp; done) | (simp; omega)); done) | fail); have L := A.lt; have C := A.cells5; obtain ⟨_, _, _, _, _, _⟩ := C)); unfold sv)
        | (go_at_call 18; refine (said_ISODD [(1, E, 1, es)] 0 false test_0 F3.out _ _ ?_).mono ?_; (focus ((repeat (first | with_reducible assumption | with_reducible exact Args.atN (by first | (simp; done) | fail) (by assumption) | with_reducible refine Args.drew ?_ | with_reducible refine Args.alloc ?_ _)); done)); rintro e w5 ⟨rfl, hb5⟩; have hk5 : Below W.heap.size W w5 := Below.lift (by repeat (first | with_reducible assumption | with_reducible refine Below.set5 ?_ (by first | omega | fail) _ _ _ _ _ | with_reducible exact Below.refl _ _ | with_reducible refine Below.drew ?_ | with_reducible refine (fun h => Below.alloc h h.size _) ?_)) (by first | omega | (simp; done) | (simp; omega)) hb5; have hz5 := hk5.size; have hz51 := hb5.size; (try simp at hz51); (try (have A : Args w5 (.slice (some ⟨W.heap.size, 0, none⟩) 1 1) [(1, O, 1, es)] := Args.keep (by first | ((repeat (first | with_reducible assumption | with_reducible exact Args.atN (by first | (simp; done) | fail) (by assumption) | with_reducible refine Args.drew ?_ | with_reducible refine Args.alloc ?_ _)); done) | fail) hb5)); (try (have A : Args w5 (.slice (some ⟨W.heap.size + 1, 0, none⟩) 1 1) [(1, O, 1, es)] := Args.keep (by first | ((repeat (first | with_reducible assumption | with_reducible exact Args.atN (by first | (simp; done) | fail) (by assumption) | with_reducible refine Args.drew ?_ | with_reducible refine Args.alloc ?_ _)); done) | fail) hb5)); (try (have A : Args w5 (.slice (some ⟨W.heap.size + 2, 0, none⟩) 1 1) [(1, O, 1, es)] := Args.keep (by first | ((repeat (first | with_reducible assumption | with_reducible exact Args.atN (by first | (simp; done) | fail) (by assumption) | with_reducible refine Args.drew ?_ | with_reducible refine Args.alloc ?_ _)); done) | fail) hb5)); (try (have A : Args w5 (.slice (some ⟨W.heap.size + 3, 0, none⟩) 1 1) [(1, O, 1, es)] := Args.keep (by first | ((repeat (first | with_reducible assumption | with_reducible exact Args.atN (by first | (simp; done) | fail) (by assumption) | with_reducible refine Args.drew ?_ | with_reducible refine Args.alloc ?_ _)); done) | fail) hb5)); (try (have A : Bk w5 (W.heap.size) 24 #[.int .i64 0, .int .i64 0, .int .i64 0, .string ⟨#[]⟩, .slice none 0 0] := Bk.below (by first | ((repeat (first | with_reducible assumption | with_reducible exact Bk.new_at (by first | (simp; done) | fail) | with_reducible refine Bk.drew ?_ | with_reducible refine Bk.alloc ?_ _)); done) | fail) hb5 (by first | ((first | omega | (simp; done) | (simp; omega)); done) | fail))); (try (have A : Bk w5 (W.heap.size + 1) 24 #[.int .i64 0, .int .i64 0, .int .i64 0, .string ⟨#[]⟩, .slice none 0 0] := Bk.below (by first | ((repeat (first | with_reducible assumption | with_reducible exact Bk.new_at (by first | (simp; done) | fail) | with_reducible refine Bk.drew ?_ | with_reducible refine Bk.alloc ?_ _)); done) | fail) hb5 (by first | ((first | omega | (simp; done) | (simp; omega)); done) | fail))); (try (have A : Bk w5 (W.heap.size + 2) 24 #[.int .i64 0, .int .i64 0, .int .i64 0, .string ⟨#[]⟩, .slice none 0 0] := Bk.below (by first | ((repeat (first | with_reducible assumption | with_reducible exact Bk.new_at (by first | (simp; done) | fail) | with_reducible refine Bk.drew ?_ | with_reducible refine Bk.alloc ?_ _)); done) | fail) hb5 (by first | ((first | omega | (simp; done) | (simp; omega)); done) | fail))); (try (have A : Bk w5 (W.heap.size + 3) 24 #[.int .i64 0, .int .i64 0, .int .i64 0, .string ⟨#[]⟩, .slice none 0 0] := Bk.below (by first | ((repeat (first | with_reducible assumption | with_reducible exact Bk.new_at (by first | (simp; done) | fail) | with_reducible refine Bk.drew ?_ | with_reducible refine Bk.alloc ?_ _)); done) | fail) hb5 (by first | ((first | omega | (simp; done) | (simp; omega)); done) | fail))); unfold sv))
    all_goals
      first | go_wp2_with fail | skip
      go_meet
      refine ⟨_, _, rfl, rfl, ?_, ?_, ?_⟩
      · (repeat (first | with_reducible assumption | with_reducible exact Bk.new _ _ _ | with_reducible exact Bk.new_at (by first | (simp; done) | fail) | with_reducible refine Bk.alloc ?_ _ | with_reducible refine Bk.set5 (x0 := .int .i64 0) (x1 := .int .i64 0) (x2 := .int .i64 0) (x3 := .string ⟨#[]⟩) (x4 := .slice none 0 0) ?_ _ _ _ _ _ | (with_reducible refine Bk.far5 ?_ ?_ _ _ _ _ _; omega)))
      · (repeat (first | with_reducible assumption | with_reducible exact Bk.new _ _ _ | with_reducible exact Bk.new_at (by first | (simp; done) | fail) | with_reducible refine Bk.alloc ?_ _ | with_reducible refine Bk.set5 (x0 := .int .i64 0) (x1 := .int .i64 0) (x2 := .int .i64 0) (x3 := .string ⟨#[]⟩) (x4 := .slice none 0 0) ?_ _ _ _ _ _ | (with_reducible refine Bk.far5 ?_ ?_ _ _ _ _ _; omega)))
      · repeat (first | with_reducible assumption | with_reducible refine (fun h => Below.alloc h h.size _) ?_ | with_reducible refine Below.set5 ?_ (by omega) _ _ _ _ _)
  case rest =>
    obtain ⟨gx, gy, rfl, rfl, hcells⟩ := hcut
    have q3 : Below W.heap.size W wc := hcells.out.2.2
    have s3 := HS.out _ q3
    have qx := hcells.out.1
    have qy := hcells.out.2.1
    have hlx : g3 < wc.heap.size := Nat.lt_of_lt_of_le lx q3.size
    have hly : g4 < wc.heap.size := Nat.lt_of_lt_of_le ly q3.size
    clear hcells
    have kZ := Below.lift k5 k5.size q3
    obtain ⟨x0, x1, x2, x3, x4, y0, y1, y2, y3, y4⟩ := s3
    obtain ⟨c0, c1, c2, c3, c4, cf⟩ := qx.cells5
    obtain ⟨d0, d1, d2, d3, d4, df⟩ := qy.cells5
    have lc := qx.lt
    have ld := qy.lt
    clear q3 k5 HS qx qy cf df xf yf F1 F2 F3 F4 HP HQ OK1 OK2 lx ly
    generalize wc = Z at *
    have rx0 := cell_regrown x0
    have rx1 := cell_regrown x1
    have rx2 := cell_regrown x2
    have rx3 := cell_regrown x3
    have rx4 := cell_regrown x4
    have ry0 := cell_regrown y0
    have ry1 := cell_regrown y1
    have ry2 := cell_regrown y2
    have ry3 := cell_regrown y3
    have ry4 := cell_regrown y4
    have rc0 := cell_regrown c0
    have rc1 := cell_regrown c1
    have rc2 := cell_regrown c2
    have rc3 := cell_regrown c3
    have rc4 := cell_regrown c4
    have rd0 := cell_regrown d0
    have rd1 := cell_regrown d1
    have rd2 := cell_regrown d2
    have rd3 := cell_regrown d3
    have rd4 := cell_regrown d4
    clear x0 x1 x2 x3 x4 y0 y1 y2 y3 y4 c0 c1 c2 c3 c4 d0 d1 d2 d3 d4 hlx hly lc ld
    have cB0 : ∀ d os, Calls Tryz.prog 45 #[.bool false] (grow (redrawn Z d) os) fun e w'' => e = .returned (.agg #[.int .i64 3, .int .i64 (b2i false), .int .i64 0, .string es, .slice none 0 0]) ∧ ∃ p : Regrown, w'' = grow (redrawn Z p.d) p.os := fun d os => Calls.regrown_of (bool_any false _)
    have cB1 : ∀ d os, Calls Tryz.prog 45 #[.bool true] (grow (redrawn Z d) os) fun e w'' => e = .returned (.agg #[.int .i64 3, .int .i64 (b2i true), .int .i64 0, .string es, .slice none 0 0]) ∧ ∃ p : Regrown, w'' = grow (redrawn Z p.d) p.os := fun d os => Calls.regrown_of (bool_any true _)
    have cS0 : ∀ d os, Calls Tryz.prog 23 #[.agg #[.int .i64 3, .int .i64 (b2i false), .int .i64 0, .string es, .slice none 0 0], .agg #[.int .i64 3, .int .i64 (b2i false), .int .i64 0, .string es, .slice none 0 0]] (grow (redrawn Z d) os) fun e w'' => e = .returned (.bool true) ∧ ∃ p : Regrown, w'' = grow (redrawn Z p.d) p.os := fun d os => Calls.regrown_of (self_yes (3, b2i false, 0, es) _)
    have cS1 : ∀ d os, Calls Tryz.prog 23 #[.agg #[.int .i64 3, .int .i64 (b2i true), .int .i64 0, .string es, .slice none 0 0], .agg #[.int .i64 3, .int .i64 (b2i true), .int .i64 0, .string es, .slice none 0 0]] (grow (redrawn Z d) os) fun e w'' => e = .returned (.bool true) ∧ ∃ p : Regrown, w'' = grow (redrawn Z p.d) p.os := fun d os => Calls.regrown_of (self_yes (3, b2i true, 0, es) _)
    generalize b2i false = z0 at *
    generalize b2i true = z1 at *
    have g1 := G1.out
    have g2 := G2.out
    have g3' := HN.out
    obtain ⟨E', hnE, dE⟩ : ∃ x, IntKind.i64.wrap (-E) = x ∧ x = -E := ⟨-E, by rw [IntKind.wrap_i64]; omega, rfl⟩
    obtain ⟨O', hnO, dO⟩ : ∃ x, IntKind.i64.wrap (-O) = x ∧ x = -O := ⟨-O, by rw [IntKind.wrap_i64]; omega, rfl⟩
    obtain ⟨n', hnn, dn⟩ : ∃ x, IntKind.i64.wrap (-n) = x ∧ x = -n := ⟨-n, by rw [IntKind.wrap_i64]; omega, rfl⟩
    obtain ⟨ME, hmE, dmE⟩ : ∃ x, IntKind.i64.wrap (16 * E) = x ∧ x = 16 * E := ⟨16 * E, by rw [IntKind.wrap_i64]; omega, rfl⟩
    obtain ⟨MO, hmO, dmO⟩ : ∃ x, IntKind.i64.wrap (16 * O) = x ∧ x = 16 * O := ⟨16 * O, by rw [IntKind.wrap_i64]; omega, rfl⟩
    obtain ⟨ME', hmE', dmE'⟩ : ∃ x, IntKind.i64.wrap (16 * E') = x ∧ x = 16 * E' := ⟨16 * E', by rw [IntKind.wrap_i64]; omega, rfl⟩
    obtain ⟨MO', hmO', dmO'⟩ : ∃ x, IntKind.i64.wrap (16 * O') = x ∧ x = 16 * O' := ⟨16 * O', by rw [IntKind.wrap_i64]; omega, rfl⟩
    have cE : (¬ E < E' ∧ n ≤ ME ∧ n' ≤ ME) ∨ (E < E' ∧ n ≤ ME' ∧ n' ≤ ME') := by omega
    have cO : (¬ O < O' ∧ n ≤ MO ∧ n' ≤ MO) ∨ (O < O' ∧ n ≤ MO' ∧ n' ≤ MO') := by omega
    have cn : (¬ n < n') ∨ n < n' := by omega
    clear g1 g2 g3' G1 G2 HN hb1 hb2 dE dO dn dmE dmO dmE' dmO'
    rcases cE with ⟨e1, e2, e3⟩ | ⟨e1, e2, e3⟩ <;> rcases cO with ⟨o1, o2, o3⟩ | ⟨o1, o2, o3⟩ <;> rcases cn with n1 | n1
    all_goals
      go_wp2_with fail
      refine wp_region_quiet_below (by kernel_rfl) (by kernel_rfl) ?_
      repeat (go_big_quiet_step (first | with_reducible exact cB0 _ _ | with_reducible exact cB1 _ _ | with_reducible exact cS0 _ _ | with_reducible exact cS1 _ _))
      refine wpQuiet_nil ?_
      intro _ hw'
      obtain ⟨⟨dq, osq⟩, hw''⟩ := hw'
      subst hw''
      go_wp2_with fail
      go_ret
      exact ⟨rfl, Below.lift kZ kZ.size (below_regrown Z dq osq)⟩

end Go.Proofs.YtndabbepepbnmaaGreatDoor
