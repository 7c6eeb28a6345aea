import Derived.Test.YtndabbepepbnmaaGreatDoorOutM
import Derived.Test.YtndabbepepbnmaaGreatDoorMM
import Derived.Test.YtndabbepepbnmaaGreatDoorCalmF
import Derived.BigRegion
namespace Go.Proofs.YtndabbepepbnmaaGreatDoor
open Go.RowKit
attribute [local go_sem] run_store_float

/-- numbers in rows, cell by cell -/
def GrV (w : World) (v : Value) (R C : Nat) (f : Nat → Nat → Nat) : Prop :=
  ∃ b o c, v = .slice (some ⟨b, o, none⟩) R c ∧ b < w.heap.size ∧ ∀ i, i < R → ∃ b' o' c', w.cell? ⟨b, o + i, none⟩ = some (.slice (some ⟨b', o', none⟩) C c') ∧ b' < w.heap.size ∧ ∀ k, k < C →
    w.cell? ⟨b', o' + k * 4, none⟩ = some (.int .i64 1) ∧ w.cell? ⟨b', o' + k * 4 + 1, none⟩ = some (.float .f64 (f i k)) ∧ w.cell? ⟨b', o' + k * 4 + 2, none⟩ = some (.string es) ∧ w.cell? ⟨b', o' + k * 4 + 3, none⟩ = some (.slice none 0 0)
theorem GrV.of_rows {w : World} {v : Value} {R C : Nat} {f : Nat → Nat → Nat} (h : Rws w w.heap.size 4 flV v (grid R C f)) (hR : 0 < R) (hC : 0 < C) : GrV w v R C f := by
  obtain ⟨h0, hs, hl, ⟨A, c, rfl, hlc, hc⟩, h2⟩ := h
  obtain ⟨b, o, rfl, hb, hcell⟩ := hc (by rw [grid_len]; exact hR)
  rw [grid_len] at hl hlc
  refine ⟨b, o, c, by rw [grid_len], hb, fun i hi => ?_⟩
  obtain ⟨hh, hhk⟩ : ∃ hh, hs[i]? = some hh := ⟨_, List.getElem?_eq_getElem (by omega)⟩
  obtain ⟨A1, c1, rfl, _, hrc⟩ := h2 i hh _ hhk (grid_at R C f hi)
  obtain ⟨b', o', rfl, hb', hcell'⟩ := hrc (by simpa using hC)
  refine ⟨b', o', c1, ?_, hb', fun k hk => ?_⟩
  · rw [hcell i _ hhk]; simp
  · have F := fun t (ht : t < 4) => flat_at flV 4 flV_len _ k (f i k) t (range_at C (f i) hk) ht
    exact ⟨by have := hcell' (k * 4 + 0) _ ((F 0 (by omega)).trans rfl); simpa using this, hcell' (k * 4 + 1) _ ((F 1 (by omega)).trans rfl), hcell' (k * 4 + 2) _ ((F 2 (by omega)).trans rfl), hcell' (k * 4 + 3) _ ((F 3 (by omega)).trans rfl)⟩
theorem GrV.keep {w w' : World} {v : Value} {R C : Nat} {f : Nat → Nat → Nat} (h : GrV w v R C f) (hb : Below w.heap.size w w') : GrV w' v R C f := by
  obtain ⟨b, o, c, hv, hlt, h⟩ := h
  have hz := hb.size
  refine ⟨b, o, c, hv, by omega, fun i hi => ?_⟩
  obtain ⟨b', o', c', h1, h2, h3⟩ := h i hi
  refine ⟨b', o', c', (hb.cell (p := ⟨b, o + i, none⟩) hlt).trans h1, by omega, fun k hk => ?_⟩
  obtain ⟨z0, z1, z2, z3⟩ := h3 k hk
  exact ⟨(hb.cell (p := ⟨b', o' + k * 4, none⟩) h2).trans z0, (hb.cell (p := ⟨b', o' + k * 4 + 1, none⟩) h2).trans z1, (hb.cell (p := ⟨b', o' + k * 4 + 2, none⟩) h2).trans z2, (hb.cell (p := ⟨b', o' + k * 4 + 3, none⟩) h2).trans z3⟩

set_option maxRecDepth 100000 in
set_option maxHeartbeats 4000000 in
/-- equalTables of a table and the same -/
theorem equalTables_yes (R C : Nat) (f : Nat → Nat → Nat) (hR : 0 < R ∧ R ≤ 6) (hC : 0 < C ∧ C ≤ 6) (hf : ∀ i j, i < R → j < C → fin (f i j)) (v1 v2 : Value) (w : World)
    (h1 : Rws w w.heap.size 4 flV v1 (grid R C f)) (h2 : Rws w w.heap.size 4 flV v2 (grid R C f)) :
    Calls Tryz.prog 40 #[.agg #[.int .i64 5, .float .f64 0, .string es, v1], .agg #[.int .i64 5, .float .f64 0, .string es, v2]] w fun e w' => e = .returned (.bool true) ∧ Below w.heap.size w w' := by
  have hg1 := GrV.of_rows h1 hR.1 hC.1
  have hg2 := GrV.of_rows h2 hR.1 hC.1
  obtain ⟨B1, O1, D1, rfl, hB1, hr1⟩ := hg1
  obtain ⟨B2, O2, D2, rfl, hB2, hr2⟩ := hg2
  have H1 := hid hr1
  have H2 := hid hr2
  have HF := hid hf
  clear h1 h2 hr1 hr2 hf
  go_enter Tryz.func40, Tryz.ntmps40
  go_wp2_with fail
  have x0 : ((w.alloc (.cells #[.int .i64 5, .float .f64 0, .string es, .slice (some ⟨B1, O1, none⟩) R D1] 42)).alloc (.cells #[.int .i64 5, .float .f64 0, .string es, .slice (some ⟨B2, O2, none⟩) R D2] 42)).cell? ⟨w.heap.size, 3, none⟩ = some (.slice (some ⟨B1, O1, none⟩) R D1) := ((Bk.new _ _ _).alloc _).cell 3
  have x1 : ((w.alloc (.cells #[.int .i64 5, .float .f64 0, .string es, .slice (some ⟨B1, O1, none⟩) R D1] 42)).alloc (.cells #[.int .i64 5, .float .f64 0, .string es, .slice (some ⟨B2, O2, none⟩) R D2] 42)).cell? ⟨(w.heap.size + 1), 3, none⟩ = some (.slice (some ⟨B2, O2, none⟩) R D2) := (Bk.new_at (by simp)).cell 3
  have hw : Below w.heap.size w ((w.alloc (.cells #[.int .i64 5, .float .f64 0, .string es, .slice (some ⟨B1, O1, none⟩) R D1] 42)).alloc (.cells #[.int .i64 5, .float .f64 0, .string es, .slice (some ⟨B2, O2, none⟩) R D2] 42)) := ((Below.refl _ _).alloc (Nat.le_refl _) _).alloc (by simp) _
  have hzW : ((w.alloc (.cells #[.int .i64 5, .float .f64 0, .string es, .slice (some ⟨B1, O1, none⟩) R D1] 42)).alloc (.cells #[.int .i64 5, .float .f64 0, .string es, .slice (some ⟨B2, O2, none⟩) R D2] 42)).heap.size = w.heap.size + 1 + 1 := by simp
  generalize ((w.alloc (.cells #[.int .i64 5, .float .f64 0, .string es, .slice (some ⟨B1, O1, none⟩) R D1] 42)).alloc (.cells #[.int .i64 5, .float .f64 0, .string es, .slice (some ⟨B2, O2, none⟩) R D2] 42)) = W at *
  go_loopw [5] (fun i wr => ∃ (k : Nat), k ≤ R ∧ i = .int .i64 k ∧ Below W.heap.size W wr) (fun i _ => R - (intOf i).toNat)
  case atStart => exact ⟨0, Nat.zero_le _, rfl, Below.refl _ _⟩
  case round =>
    obtain ⟨i, hi, rfl, hb⟩ := hrel
    have hbz := hb.size
    have hx0 := (hb.cell (p := ⟨w.heap.size, 3, none⟩) (by simp; omega)).trans x0
    have hx1 := (hb.cell (p := ⟨w.heap.size + 1, 3, none⟩) (by simp; omega)).trans x1
    have hRI : (0 : Int) < (R : Int) := by omega
    by_cases hlt : i < R
    · obtain ⟨b1, o1, c1, hc1, hl1, hz1⟩ := H1.out i hlt
      obtain ⟨b2, o2, c2, hc2, hl2, hz2⟩ := H2.out i hlt
      have hwr : Below w.heap.size w wr := hw.trans (hb.mono (by omega))
      have y0 := (hwr.cell (p := ⟨B1, O1 + i, none⟩) hB1).trans hc1
      have y1 := (hwr.cell (p := ⟨B2, O2 + i, none⟩) hB2).trans hc2
      have hiI : (i : Int) < (R : Int) := by omega
      have Z1 := hid hz1
      have Z2 := hid hz2
      clear hc1 hc2 hz1 hz2
      obtain ⟨V, hV⟩ : ∃ V, V = wr := ⟨_, rfl⟩
      subst hV
      go_wp2_with fail
      go_quiet (fail)
      go_wp2_with fail
      go_loopw [6] (fun i wr => ∃ (k : Nat), k ≤ C ∧ i = .int .i64 k ∧ Below V.heap.size V wr) (fun i _ => C - (intOf i).toNat)
      case atStart => exact ⟨0, Nat.zero_le _, rfl, Below.drewN (Below.refl _ _) nq⟩
      case round =>
        obtain ⟨j, hj, rfl, hb1⟩ := hrel
        have hb1z := hb1.size
        have x0 := (hb1.cell (p := ⟨w.heap.size, 3, none⟩) (by simp; omega)).trans hx0
        have x1 := (hb1.cell (p := ⟨w.heap.size + 1, 3, none⟩) (by simp; omega)).trans hx1
        have y0 := (hb1.cell (p := ⟨B1, O1 + i, none⟩) (by simp; omega)).trans y0
        have y1 := (hb1.cell (p := ⟨B2, O2 + i, none⟩) (by simp; omega)).trans y1
        have hjn : (j : Int) < (C : Int) ∨ ¬ (j : Int) < (C : Int) := Classical.em _
        by_cases hltj : j < C
        · obtain ⟨x, hx⟩ : ∃ x, f i j = x := ⟨_, rfl⟩
          have hfx := HF.out i j hlt hltj
          rw [hx] at hfx
          have hE : FloatKind.f64.format.order x x = some .eq := hfx
          have hwV : Below w.heap.size w wr := hwr.trans (hb1.mono (by omega))
          obtain ⟨z00, z01, z02, z03⟩ := Z1.out j hltj
          obtain ⟨z10, z11, z12, z13⟩ := Z2.out j hltj
          rw [hx] at z01 z11
          have z00 := (hwV.cell (p := ⟨b1, o1 + j * 4, none⟩) hl1).trans z00
          have z01 := (hwV.cell (p := ⟨b1, o1 + j * 4 + 1, none⟩) hl1).trans z01
          have z02 := (hwV.cell (p := ⟨b1, o1 + j * 4 + 2, none⟩) hl1).trans z02
          have z03 := (hwV.cell (p := ⟨b1, o1 + j * 4 + 3, none⟩) hl1).trans z03
          have z10 := (hwV.cell (p := ⟨b2, o2 + j * 4, none⟩) hl2).trans z10
          have z11 := (hwV.cell (p := ⟨b2, o2 + j * 4 + 1, none⟩) hl2).trans z11
          have z12 := (hwV.cell (p := ⟨b2, o2 + j * 4 + 2, none⟩) hl2).trans z12
          have z13 := (hwV.cell (p := ⟨b2, o2 + j * 4 + 3, none⟩) hl2).trans z13
          have hjI : (j : Int) < (C : Int) := by omega
          have hwVz := hwV.size
          have lx0 : w.heap.size < wr.heap.size := by omega
          have lx1 : w.heap.size + 1 < wr.heap.size := by omega
          have ly0 : B1 < wr.heap.size := by omega
          have ly1 : B2 < wr.heap.size := by omega
          have lz0 : b1 < wr.heap.size := by omega
          have lz1 : b2 < wr.heap.size := by omega
          clear hx
          go_wp2_with fail
          go_region
          all_goals
            go_wp2_with fail
            go_roundw
            case rel => exact ⟨j + 1, by omega, by go_num, Below.drew ((hb1.alloc hb1z _).alloc (by simp; omega) _)⟩
            case measure => simp [intOf]; omega
        · have hjl : j = C := by omega
          subst hjl
          go_wp2_with fail
          go_roundw
          case rel => exact ⟨i + 1, by omega, by go_num, hb.trans (hb1.mono hbz)⟩
          case measure => simp [intOf]; omega
    · have hkl : i = R := by omega
      subst hkl
      go_wp2_with fail
      go_ret
      exact ⟨rfl, hw.trans (hb.mono (by omega))⟩
end Go.Proofs.YtndabbepepbnmaaGreatDoor
