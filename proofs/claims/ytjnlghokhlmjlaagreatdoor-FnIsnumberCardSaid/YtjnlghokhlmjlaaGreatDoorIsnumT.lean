import Derived.Test.YtjnlghokhlmjlaaGreatDoorIsnumS
namespace Go.Proofs.YtjnlghokhlmjlaaGreatDoor
open Go.RowKit
attribute [local go_sem] run_store_float

set_option maxRecDepth 100000 in
set_option maxHeartbeats 1000000 in
theorem told_ISNUMBER (k n d : Int) (t : ByteArray) (w : World) : Calls Tryz.prog 132 #[.string ⟨#[73, 83, 78, 85, 77, 66, 69, 82]⟩, sv k n d t] w fun e w' => e = .returned (sv 3 (b2i (k == 1)) 0 es) ∧ Below w.heap.size w w' := by
  unfold sv
  obtain ⟨c2, hc2⟩ : ∃ c, (k == 2) = c := ⟨_, rfl⟩
  obtain ⟨c1, hc1⟩ : ∃ c, (k == 1) = c := ⟨_, rfl⟩
  have HC1 := hid hc1
  cases c2
  all_goals
    go_enter Tryz.func132, Tryz.ntmps132
    go_wp2_with fail
    refine (bool_any c1 _).mono ?_
    rintro e w1 ⟨rfl, hb1⟩
    have hB1 := Bk.below (Bk.new_at (w := w.alloc (.cells #[.int .i64 k, .int .i64 n, .int .i64 d, .string t, .slice none 0 0] 27)) (t := 27) (cs := #[.int .i64 0, .int .i64 0, .int .i64 0, .string ⟨#[]⟩, .slice none 0 0]) (g := w.heap.size + 1) (by simp)) hb1 (by simp)
    have hd1 : Below w.heap.size w w1 := Below.lift (((Below.refl _ _).alloc (Nat.le_refl _) _).alloc (by simp) _) (by simp; omega) hb1
    have hz1 := hB1.lt
    obtain ⟨q0, q1, q2, q3, q4, qf⟩ := hB1.cells5
    clear hb1
    unfold sv
    go_wp2_with fail
    exact end_cell Tryz.results132 rfl (Bk.set5 hB1 _ _ _ _ _) Tryz.underlying27 rfl info_sv rfl
      ⟨by rw [HC1.out], Below.set5 hd1 (by omega) _ _ _ _ _⟩

set_option maxRecDepth 100000 in
set_option maxHeartbeats 1000000 in
theorem CallInfo_ISNUMBER (a : SV) (h5 : (a.1 == 5) = false) (h6 : (a.1 == 6) = false) (A : Option Addr) (c : Nat) (w : World) (h : Sl w w.heap.size 5 (.slice A 1 c) 1 ([a].flatMap svCells)) :
    Calls Tryz.prog 54 #[.string ⟨#[73, 83, 78, 85, 77, 66, 69, 82]⟩, .slice A 1 c] w fun e w' => e = .returned (.tuple #[sv 3 (b2i (a.1 == 1)) 0 es, .bool true]) ∧ Below w.heap.size w w' := by
  obtain ⟨A', c', hv, _, hc⟩ := h
  simp only [Value.slice.injEq] at hv
  obtain ⟨rfl, _, rfl⟩ := hv
  obtain ⟨b, o, rfl, hb, hcell⟩ := hc (by omega)
  have g0 := hcell 0 _ rfl
  have g1 := hcell 1 _ rfl
  have g2 := hcell 2 _ rfl
  have g3 := hcell 3 _ rfl
  have g4 := hcell 4 _ rfl
  clear hcell hc
  rw [Nat.add_zero] at g0
  have HT := hid (told_ISNUMBER a.1 a.2.1 a.2.2.1 a.2.2.2)
  generalize b2i (a.1 == 1) = y at *
  go_enter Tryz.func54, Tryz.ntmps54
  go_wp2_with fail
  refine (HT.out _).mono ?_
  rintro e w1 ⟨rfl, hb1⟩
  have hB := Bk.below (Bk.new w 27 #[.int .i64 0, .int .i64 0, .int .i64 0, .string ⟨#[]⟩, .slice none 0 0]) hb1 (by simp)
  have hd := Below.lift ((Below.refl w.heap.size w).alloc (Nat.le_refl _) _) (by simp) hb1
  obtain ⟨q0, q1, q2, q3, q4, qf⟩ := hB.cells5
  have hz := hB.lt
  clear hb1
  unfold sv
  go_wp2_with fail
  exact end_cell_tmp Tryz.results54 rfl (Bk.set5 hB _ _ _ _ _) Tryz.underlying27 rfl info_sv rfl
    ⟨rfl, Below.set5 hd (Nat.le_refl _) _ _ _ _ _⟩
end Go.Proofs.YtjnlghokhlmjlaaGreatDoor
