import Derived.Test.YtndabbepepbnmaaGreatDoorNum
import Derived.Test.YtndabbepepbnmaaGreatDoorOf
import Derived.Test.YtndabbepepbnmaaGreatDoorCalmF
namespace Go.Proofs.YtndabbepepbnmaaGreatDoor
open Go.RowKit
attribute [local go_sem] run_store_float

theorem fin_fnum (a : SV) (h : svOk a) (hn : a.1 = 3 → a.2.1.natAbs < 9007199254740992) : fin (fnum a) := by
  by_cases h1 : a.1 = 1
  · exact (avOk_of a h).1 h1
  · unfold fnum
    rw [if_neg h1]
    by_cases h3 : a.1 = 3
    · rw [if_pos h3]; exact fin_enc _ _ (hn h3) (by omega)
    · rw [if_neg h3]; exact fin_zero

set_option maxRecDepth 100000 in
/-- same of a value and itself, turned -/
theorem same_yes (v : SV) (w : World) (h : svOk v) (hf : fin (fnum v)) :
    Calls Tryz.prog 77 #[iv v.1 (fnum v) v.2.2.2, svV v] w fun e w' => e = .returned (.bool true) ∧ Below w.heap.size w w' := by
  obtain ⟨x, hx⟩ : ∃ x, x = fnum v := ⟨_, rfl⟩
  have hof := fun W => of_any v W h
  rw [← hx] at hf ⊢
  have Hof := hid hof
  rw [← hx] at Hof
  unfold fin at hf
  clear hof hx h
  unfold iv svV sv
  go_enter Tryz.func77, Tryz.ntmps77
  go_wp2_with fail
  refine (Hof.out _).mono ?_
  rintro e w1 ⟨rfl, hb1⟩
  have hB := (Bk.below ((Bk.new w 42 #[.int .i64 v.1, .float .f64 x, .string v.2.2.2, .slice none 0 0]).alloc (.cells #[.int .i64 v.1, .int .i64 v.2.1, .int .i64 v.2.2.1, .string v.2.2.2, .slice none 0 0] 24)) hb1 (by simp; omega))
  obtain ⟨q0, q1, q2, q3, qf⟩ := hB.cells4
  have hz : w.heap.size + 2 ≤ w1.heap.size := by have := hb1.size; simpa using this
  have hz' : w.heap.size < w1.heap.size := by omega
  have hd : Below w.heap.size w w1 := Below.lift (((Below.refl _ _).alloc (Nat.le_refl _) _).alloc (by simp) _) (by simp; omega) hb1
  clear hb1 hB
  unfold iv
  go_wp2_with fail
  go_loop [6] (fun i => i = .int .i64 0) (fun _ => 0)
  case atStart => rfl
  case round =>
    obtain rfl := hrel
    go_wp2_with fail
    go_ret
    exact ⟨rfl, hd.alloc (by omega) _⟩

set_option maxRecDepth 100000 in
theorem number_yes (n : Int) (h1 : -99999999999 ≤ n) (h2 : n ≤ 99999999999) (w : World) :
    Calls Tryz.prog 33 #[iv 1 (enc n 0) es, .int .i64 n] w fun e w' => e = .returned (.bool true) ∧ Below w.heap.size w w' := by
  have HS := hid (fun W => same_yes (1, n, 1, es) W (svOk_whole n (by omega)) (by rw [fnum_whole]; exact fin_enc n 0 (by omega) (by omega)))
  simp only [fnum_whole] at HS
  have HI := hid (fun W => int_ok n W h1 h2)
  clear h1 h2
  generalize enc n 0 = x at *
  unfold iv
  go_enter Tryz.func33, Tryz.ntmps33
  go_wp2_with fail
  have bB := Bk.new w 42 #[.int .i64 1, .float .f64 x, .string es, .slice none 0 0]
  have hw := (Below.refl w.heap.size w).alloc (Nat.le_refl _) (.cells #[.int .i64 1, .float .f64 x, .string es, .slice none 0 0] 42)
  generalize w.alloc (.cells #[.int .i64 1, .float .f64 x, .string es, .slice none 0 0] 42) = W at *
  refine wp_region_duties 4 [(0, 5), (1, 6), (2, 7), (3, 8)] [.is (.agg #[.int .i64 1, .float .f64 x, .string es, .slice none 0 0]), .is (.int .i64 n), .is (sv 1 n 1 es), .is (.bool true)]
    (by kernel_rfl) (by kernel_rfl) (by decide) (by kernel_rfl) (by kernel_rfl) (by kernel_rfl) (by kernel_rfl) rfl (by kernel_rfl) ?_ ?_
  · intro v wx lo hi hb hf hlow hap
    have e3 : v 3 = .bool true := hf 3 _ rfl
    clear hf hlow hap
    rw [fill_eq_sets]
    simp only [sets, List.setIfInBounds_toArray, List.set_cons_succ, List.set_cons_zero, List.drop_succ_cons, List.drop_zero, e3]
    go_wp2_with fail
    go_ret
    exact ⟨rfl, hw.trans (hb.mono hw.size)⟩
  · simp only [Duties]
    refine ⟨?_, ?_, ?_, ?_, trivial⟩
    · intro v wx hb hpre
      refine ⟨by rfl, fun B hB => ?_⟩
      have e0 : B.tmps[2]?.getD undef = .pointer (some ⟨w.heap.size, 0, none⟩) := got_out hB (by rfl)
      obtain ⟨q0, q1, q2, q3, qf⟩ := (bB.below (Below.undrew hb) bB.lt).cells4
      clear hB hpre
      unfold Oper.wp
      go_simp
      exact ⟨_, rfl, Below.refl _ _, rfl⟩
    · intro v wx hb hpre
      refine ⟨by rfl, fun B hB => ?_⟩
      have e0 : B.tmps[1]?.getD undef = .int .i64 n := got_out hB (by rfl)
      clear hB hpre
      unfold Oper.wp
      go_simp
      exact ⟨_, rfl, Below.refl _ _, rfl⟩
    · intro v wx hb hpre
      refine ⟨by rfl, fun B hB => ?_⟩
      obtain ⟨_, _, _, _, _, h0⟩ := hpre 1 _ rfl (by kernel_rfl)
      have e0 : B.tmps[6]?.getD undef = .int .i64 n := (got_in hB (by rfl) (by simp)).trans h0
      clear hB hpre h0
      unfold Oper.wp
      go_simp
      refine (HI.out _).mono ?_
      rintro e w' ⟨rfl, hb'⟩
      exact ⟨_, rfl, hb', rfl⟩
    · intro v wx hb hpre
      refine ⟨by rfl, fun B hB => ?_⟩
      obtain ⟨_, _, _, _, _, h0⟩ := hpre 0 _ rfl (by kernel_rfl)
      obtain ⟨_, _, _, _, _, h1⟩ := hpre 2 _ rfl (by kernel_rfl)
      have e0 : B.tmps[5]?.getD undef = .agg #[.int .i64 1, .float .f64 x, .string es, .slice none 0 0] := (got_in hB (by rfl) (by simp)).trans h0
      have e1 : B.tmps[7]?.getD undef = sv 1 n 1 es := (got_in hB (by rfl) (by simp)).trans h1
      clear hB hpre h0 h1
      unfold Oper.wp
      go_simp
      refine (HS.out _).mono ?_
      rintro e w' ⟨rfl, hb'⟩
      exact ⟨_, rfl, hb', rfl⟩
end Go.Proofs.YtndabbepepbnmaaGreatDoor
