import Derived.Test.YtjnlghokhlmjlaaGreatDoorFitsNot
namespace Go.Proofs.YtjnlghokhlmjlaaGreatDoor
open Go.RowKit
attribute [local go_sem] run_store_float

theorem AsLogic_log (n d : Int) (t : ByteArray) (w : World) : Calls Tryz.prog 220 #[sv 3 n d t] w fun e w' => e = .returned (sv 3 n d t) ∧ Below w.heap.size w w' := by
  unfold sv
  go_enter Tryz.func220, Tryz.ntmps220
  go_wp2_with fail
  exact end_cell Tryz.results220 rfl (Bk.new_at (by simp)) Tryz.underlying27 rfl info_sv rfl ⟨rfl, ((Below.refl _ _).alloc (Nat.le_refl _) _).alloc (by simp) _⟩
theorem AsLogic_num (n d : Int) (t : ByteArray) (w : World) (c : Bool) (hc : (n != 0) = c) : Calls Tryz.prog 220 #[sv 1 n d t] w fun e w' => e = .returned (sv 3 (b2i c) 0 es) ∧ Below w.heap.size w w' := by
  unfold sv
  cases c
  all_goals
    go_enter Tryz.func220, Tryz.ntmps220
    go_wp2_with fail
    refine (bool_any _ _).mono ?_
    rintro e w1 ⟨rfl, hb⟩
    obtain ⟨hcl, hfr⟩ := bcell hb
    simp only [b2i, if_true, Bool.false_eq_true, if_false]
    unfold sv
    go_wp2_with fail
    exact end_cell Tryz.results220 rfl (Bk.set5 (Bk.below (Bk.new_at (by simp)) hb (by simp)) _ _ _ _ _) Tryz.underlying27 rfl info_sv rfl
      ⟨rfl, Below.set5 (Below.lift (((Below.refl _ _).alloc (Nat.le_refl _) _).alloc (by simp) _) (by simp; omega) hb) (by simp) _ _ _ _ _⟩

theorem not_of (a : SV) (n : Int) (r : Bool) (hr : (n == 0) = r) (b o c : Nat) (w : World) (hb : b < w.heap.size)
    (hA : ∀ W, Calls Tryz.prog 220 #[svV a] W fun e w' => e = .returned (sv 3 n 0 es) ∧ Below W.heap.size W w')
    (g0 : w.cell? ⟨b, o, none⟩ = some (.int .i64 a.1)) (g1 : w.cell? ⟨b, o + 1, none⟩ = some (.int .i64 a.2.1)) (g2 : w.cell? ⟨b, o + 2, none⟩ = some (.int .i64 a.2.2.1))
    (g3 : w.cell? ⟨b, o + 3, none⟩ = some (.string a.2.2.2)) (g4 : w.cell? ⟨b, o + 4, none⟩ = some (.slice none 0 0)) :
    Calls Tryz.prog 126 #[.slice (some ⟨b, o, none⟩) 1 c] w fun e w' => e = .returned (sv 3 (b2i r) 0 es) ∧ Below w.heap.size w w' := by
  have HA := hid hA
  clear hA
  cases r
  all_goals
    go_enter Tryz.func126, Tryz.ntmps126
    go_wp2_with fail
    refine (HA.out _).mono ?_
    rintro e w1 ⟨rfl, hb1⟩
    obtain ⟨hcl, hfr⟩ := bcell hb1
    unfold sv
    go_wp2_with fail
    refine (bool_any _ _).mono ?_
    rintro e w2 ⟨rfl, hb2⟩
    have hz1 : w.heap.size + 1 ≤ w1.heap.size := by have := hb1.size; simpa using this
    have hB := ((Bk.below (Bk.new w 27 #[.int .i64 0, .int .i64 0, .int .i64 0, .string ⟨#[]⟩, .slice none 0 0]) hb1 (by simp)).alloc (.cells #[.int .i64 3, .int .i64 n, .int .i64 0, .string es, .slice none 0 0] 27)).below hb2 (by simp; omega)
    obtain ⟨q0, q1, q2, q3, q4, qf⟩ := hB.cells5
    clear hcl hfr
    simp only [b2i, if_true, Bool.false_eq_true, if_false]
    unfold sv
    go_wp2_with fail
    exact end_cell Tryz.results126 rfl (Bk.set5 hB _ _ _ _ _) Tryz.underlying27 rfl info_sv rfl
      ⟨rfl, Below.set5 (Below.lift ((Below.lift ((Below.refl _ _).alloc (Nat.le_refl _) _) (by simp) hb1).alloc (by omega) _) (by simp; omega) hb2) (by simp) _ _ _ _ _⟩
end Go.Proofs.YtjnlghokhlmjlaaGreatDoor
