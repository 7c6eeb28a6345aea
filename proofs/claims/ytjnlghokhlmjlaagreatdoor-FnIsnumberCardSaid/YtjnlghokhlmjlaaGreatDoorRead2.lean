import Derived.Test.YtjnlghokhlmjlaaGreatDoorRead
namespace Go.Proofs.YtjnlghokhlmjlaaGreatDoor
open Go.RowKit
attribute [local go_sem] run_store_float

theorem same_odd (v : SV) (hv : Odd6 v) (w : World) : Calls Tryz.prog 17 #[svV v, sv 4 0 0 valS] w fun e w' => ∃ b : Bool, e = .returned (.bool b) ∧ Below w.heap.size w w' := by
  rcases hv with rfl | rfl
  · unfold svV sv
    go_enter Tryz.func17, Tryz.ntmps17
    go_wp2_with fail
    go_ret
    exact ⟨_, rfl, ((Below.refl _ _).alloc (Nat.le_refl _) _).alloc (by simp) _⟩
  · refine (self_yes (4, 0, 0, valS) w).mono ?_
    rintro e w' ⟨rfl, hb⟩
    exact ⟨_, rfl, hb⟩

theorem letters_some (s : ByteArray) (hs : s.size ≤ 1000) (w : World) : Calls Tryz.prog 170 #[.string s] w fun e w' => ∃ b : Bool, e = .returned (.bool b) ∧ Below w.heap.size w w' := by
  go_enter Tryz.func170, Tryz.ntmps170
  go_wp2_with fail
  refine (other_some s hs _).mono ?_
  rintro e w1 ⟨v, hv, rfl, hb1⟩
  have HV := hid hv
  clear hv
  go_wp2_with fail
  refine (err_any _ _).mono ?_
  rintro e w2 ⟨rfl, hb2⟩
  have hd2 := Below.lift hb1 hb1.size hb2
  clear hb1 hb2
  go_wp2_with fail
  refine (same_odd v HV.out _).mono ?_
  rintro e w3 ⟨b, rfl, hb3⟩
  go_wp2_with fail
  go_ret
  exact ⟨_, rfl, Below.lift hd2 hd2.size hb3⟩

/-- a number of sixteenths, or nothing said -/
def OkNum (v : SV) : Prop := v = (6, 0, 0, es) ∨ ∃ a d : Int, v = (1, a, d, es) ∧ (d = 1 ∨ d = 2 ∨ d = 4 ∨ d = 8 ∨ d = 16) ∧ -99999999999 ≤ a ∧ a ≤ 99999999999

set_option maxRecDepth 100000 in
set_option maxHeartbeats 2000000 in
theorem frac_some (n d : Int) (w : World) (h1 : -1125899906842624 ≤ n) (h2 : n ≤ 1125899906842624) (hd1 : 1 ≤ d) (hd2 : d ≤ 1048576) :
    Calls Tryz.prog 31 #[.int .i64 n, .int .i64 d] w fun e w' => ∃ v : SV, OkNum v ∧ e = .returned (svV v) ∧ Below w.heap.size w w' := by
  obtain ⟨r, hr⟩ : ∃ r, (n * 16).tmod d = r := ⟨_, rfl⟩
  obtain ⟨q, hq⟩ : ∃ q, (n * 16).tdiv d = q := ⟨_, rfl⟩
  have hq1 : q.natAbs ≤ (n * 16).natAbs := by rw [← hq, Int.natAbs_tdiv]; exact Nat.div_le_self _ _
  have hqa : -18014398509481984 ≤ q := by omega
  have hqb : q ≤ 18014398509481984 := by omega
  have hd0 : ¬ d < 0 := by omega
  have hd3 : (d == 0) = false := by rw [beq_eq_false_iff_ne]; omega
  clear hq1
  by_cases h0 : r = 0
  · subst h0
    go_enter Tryz.func31, Tryz.ntmps31
    go_wp2_with fail
    clear hr hq hd3
    go_loop [0, 1] (fun x y => ∃ a b : Int, x = .int .i64 a ∧ y = .int .i64 b ∧ (b = 1 ∨ b = 2 ∨ b = 4 ∨ b = 8 ∨ b = 16) ∧ -18014398509481984 ≤ a ∧ a ≤ 18014398509481984) (fun _ y => (intOf y).toNat)
    case atStart => exact ⟨q, 16, rfl, rfl, by simp, hqa, hqb⟩
    case round =>
      obtain ⟨a, b, rfl, rfl, hb, ha1, ha2⟩ := hrel
      rcases hb with hb | hb | hb | hb | hb
      all_goals subst hb
      · by_cases g1 : 99999999999 < a
        · go_wp2_with fail
          refine (doubt_any _).mono ?_
          rintro e w2 ⟨rfl, hb2⟩
          have hB2 := (Bk.new w 27 #[.int .i64 0, .int .i64 0, .int .i64 0, .string ⟨#[]⟩, .slice none 0 0]).below hb2 (by simp)
          have hd2 := Below.lift ((Below.refl w.heap.size w).alloc (Nat.le_refl _) _) (by simp) hb2
          obtain ⟨q0, q1, q2, q3, q4, qf⟩ := hB2.cells5
          unfold sv
          go_wp2_with fail
          exact end_cell Tryz.results31 rfl (Bk.set5 hB2 _ _ _ _ _) Tryz.underlying27 rfl info_sv rfl ⟨(6, 0, 0, es), .inl rfl, rfl, Below.set5 hd2 (Nat.le_refl _) _ _ _ _ _⟩
        by_cases g2 : a < -99999999999
        · go_wp2_with fail
          refine (doubt_any _).mono ?_
          rintro e w2 ⟨rfl, hb2⟩
          have hB2 := (Bk.new w 27 #[.int .i64 0, .int .i64 0, .int .i64 0, .string ⟨#[]⟩, .slice none 0 0]).below hb2 (by simp)
          have hd2 := Below.lift ((Below.refl w.heap.size w).alloc (Nat.le_refl _) _) (by simp) hb2
          obtain ⟨q0, q1, q2, q3, q4, qf⟩ := hB2.cells5
          unfold sv
          go_wp2_with fail
          exact end_cell Tryz.results31 rfl (Bk.set5 hB2 _ _ _ _ _) Tryz.underlying27 rfl info_sv rfl ⟨(6, 0, 0, es), .inl rfl, rfl, Below.set5 hd2 (Nat.le_refl _) _ _ _ _ _⟩
        go_wp2_with fail
        exact end_cell Tryz.results31 rfl (Bk.new_at rfl) Tryz.underlying27 rfl info_sv rfl ⟨1, a, 1, es, .inr ⟨a, 1, rfl, by decide, by omega, by omega⟩, rfl, (Below.refl _ _).alloc (Nat.le_refl _) _⟩
      · by_cases c2 : a.tmod 2 = 0
        · have hbq : (a.tmod 2 == 0) = true := by simpa using c2
          have hm := Int.tdiv_mul_add_tmod a 2
          have hm1 : -18014398509481984 ≤ a.tdiv 2 := by omega
          have hm2 : a.tdiv 2 ≤ 18014398509481984 := by omega
          clear c2 hm
          go_wp2_with fail
          go_round
          case rel => exact ⟨_, _, rfl, rfl, by decide, hm1, hm2⟩
          case measure => simp [intOf]
        · have hbq : (a.tmod 2 == 0) = false := by simpa using c2
          have hbe : (a % 2 == 0) = false := by rw [beq_eq_false_iff_ne]; intro h; exact c2 (Int.tmod_eq_zero_of_dvd (by omega))
          clear c2
          by_cases g1 : 99999999999 < a
          · go_wp2_with fail
            refine (doubt_any _).mono ?_
            rintro e w2 ⟨rfl, hb2⟩
            have hB2 := (Bk.new w 27 #[.int .i64 0, .int .i64 0, .int .i64 0, .string ⟨#[]⟩, .slice none 0 0]).below hb2 (by simp)
            have hd2 := Below.lift ((Below.refl w.heap.size w).alloc (Nat.le_refl _) _) (by simp) hb2
            obtain ⟨q0, q1, q2, q3, q4, qf⟩ := hB2.cells5
            unfold sv
            go_wp2_with fail
            exact end_cell Tryz.results31 rfl (Bk.set5 hB2 _ _ _ _ _) Tryz.underlying27 rfl info_sv rfl ⟨(6, 0, 0, es), .inl rfl, rfl, Below.set5 hd2 (Nat.le_refl _) _ _ _ _ _⟩
          by_cases g2 : a < -99999999999
          · go_wp2_with fail
            refine (doubt_any _).mono ?_
            rintro e w2 ⟨rfl, hb2⟩
            have hB2 := (Bk.new w 27 #[.int .i64 0, .int .i64 0, .int .i64 0, .string ⟨#[]⟩, .slice none 0 0]).below hb2 (by simp)
            have hd2 := Below.lift ((Below.refl w.heap.size w).alloc (Nat.le_refl _) _) (by simp) hb2
            obtain ⟨q0, q1, q2, q3, q4, qf⟩ := hB2.cells5
            unfold sv
            go_wp2_with fail
            exact end_cell Tryz.results31 rfl (Bk.set5 hB2 _ _ _ _ _) Tryz.underlying27 rfl info_sv rfl ⟨(6, 0, 0, es), .inl rfl, rfl, Below.set5 hd2 (Nat.le_refl _) _ _ _ _ _⟩
          go_wp2_with fail
          exact end_cell Tryz.results31 rfl (Bk.new_at rfl) Tryz.underlying27 rfl info_sv rfl ⟨1, a, 2, es, .inr ⟨a, 2, rfl, by decide, by omega, by omega⟩, rfl, (Below.refl _ _).alloc (Nat.le_refl _) _⟩
      · by_cases c2 : a.tmod 2 = 0
        · have hbq : (a.tmod 2 == 0) = true := by simpa using c2
          have hm := Int.tdiv_mul_add_tmod a 2
          have hm1 : -18014398509481984 ≤ a.tdiv 2 := by omega
          have hm2 : a.tdiv 2 ≤ 18014398509481984 := by omega
          clear c2 hm
          go_wp2_with fail
          go_round
          case rel => exact ⟨_, _, rfl, rfl, by decide, hm1, hm2⟩
          case measure => simp [intOf]
        · have hbq : (a.tmod 2 == 0) = false := by simpa using c2
          have hbe : (a % 2 == 0) = false := by rw [beq_eq_false_iff_ne]; intro h; exact c2 (Int.tmod_eq_zero_of_dvd (by omega))
          clear c2
          by_cases g1 : 99999999999 < a
          · go_wp2_with fail
            refine (doubt_any _).mono ?_
            rintro e w2 ⟨rfl, hb2⟩
            have hB2 := (Bk.new w 27 #[.int .i64 0, .int .i64 0, .int .i64 0, .string ⟨#[]⟩, .slice none 0 0]).below hb2 (by simp)
            have hd2 := Below.lift ((Below.refl w.heap.size w).alloc (Nat.le_refl _) _) (by simp) hb2
            obtain ⟨q0, q1, q2, q3, q4, qf⟩ := hB2.cells5
            unfold sv
            go_wp2_with fail
            exact end_cell Tryz.results31 rfl (Bk.set5 hB2 _ _ _ _ _) Tryz.underlying27 rfl info_sv rfl ⟨(6, 0, 0, es), .inl rfl, rfl, Below.set5 hd2 (Nat.le_refl _) _ _ _ _ _⟩
          by_cases g2 : a < -99999999999
          · go_wp2_with fail
            refine (doubt_any _).mono ?_
            rintro e w2 ⟨rfl, hb2⟩
            have hB2 := (Bk.new w 27 #[.int .i64 0, .int .i64 0, .int .i64 0, .string ⟨#[]⟩, .slice none 0 0]).below hb2 (by simp)
            have hd2 := Below.lift ((Below.refl w.heap.size w).alloc (Nat.le_refl _) _) (by simp) hb2
            obtain ⟨q0, q1, q2, q3, q4, qf⟩ := hB2.cells5
            unfold sv
            go_wp2_with fail
            exact end_cell Tryz.results31 rfl (Bk.set5 hB2 _ _ _ _ _) Tryz.underlying27 rfl info_sv rfl ⟨(6, 0, 0, es), .inl rfl, rfl, Below.set5 hd2 (Nat.le_refl _) _ _ _ _ _⟩
          go_wp2_with fail
          exact end_cell Tryz.results31 rfl (Bk.new_at rfl) Tryz.underlying27 rfl info_sv rfl ⟨1, a, 4, es, .inr ⟨a, 4, rfl, by decide, by omega, by omega⟩, rfl, (Below.refl _ _).alloc (Nat.le_refl _) _⟩
      · by_cases c2 : a.tmod 2 = 0
        · have hbq : (a.tmod 2 == 0) = true := by simpa using c2
          have hm := Int.tdiv_mul_add_tmod a 2
          have hm1 : -18014398509481984 ≤ a.tdiv 2 := by omega
          have hm2 : a.tdiv 2 ≤ 18014398509481984 := by omega
          clear c2 hm
          go_wp2_with fail
          go_round
          case rel => exact ⟨_, _, rfl, rfl, by decide, hm1, hm2⟩
          case measure => simp [intOf]
        · have hbq : (a.tmod 2 == 0) = false := by simpa using c2
          have hbe : (a % 2 == 0) = false := by rw [beq_eq_false_iff_ne]; intro h; exact c2 (Int.tmod_eq_zero_of_dvd (by omega))
          clear c2
          by_cases g1 : 99999999999 < a
          · go_wp2_with fail
            refine (doubt_any _).mono ?_
            rintro e w2 ⟨rfl, hb2⟩
            have hB2 := (Bk.new w 27 #[.int .i64 0, .int .i64 0, .int .i64 0, .string ⟨#[]⟩, .slice none 0 0]).below hb2 (by simp)
            have hd2 := Below.lift ((Below.refl w.heap.size w).alloc (Nat.le_refl _) _) (by simp) hb2
            obtain ⟨q0, q1, q2, q3, q4, qf⟩ := hB2.cells5
            unfold sv
            go_wp2_with fail
            exact end_cell Tryz.results31 rfl (Bk.set5 hB2 _ _ _ _ _) Tryz.underlying27 rfl info_sv rfl ⟨(6, 0, 0, es), .inl rfl, rfl, Below.set5 hd2 (Nat.le_refl _) _ _ _ _ _⟩
          by_cases g2 : a < -99999999999
          · go_wp2_with fail
            refine (doubt_any _).mono ?_
            rintro e w2 ⟨rfl, hb2⟩
            have hB2 := (Bk.new w 27 #[.int .i64 0, .int .i64 0, .int .i64 0, .string ⟨#[]⟩, .slice none 0 0]).below hb2 (by simp)
            have hd2 := Below.lift ((Below.refl w.heap.size w).alloc (Nat.le_refl _) _) (by simp) hb2
            obtain ⟨q0, q1, q2, q3, q4, qf⟩ := hB2.cells5
            unfold sv
            go_wp2_with fail
            exact end_cell Tryz.results31 rfl (Bk.set5 hB2 _ _ _ _ _) Tryz.underlying27 rfl info_sv rfl ⟨(6, 0, 0, es), .inl rfl, rfl, Below.set5 hd2 (Nat.le_refl _) _ _ _ _ _⟩
          go_wp2_with fail
          exact end_cell Tryz.results31 rfl (Bk.new_at rfl) Tryz.underlying27 rfl info_sv rfl ⟨1, a, 8, es, .inr ⟨a, 8, rfl, by decide, by omega, by omega⟩, rfl, (Below.refl _ _).alloc (Nat.le_refl _) _⟩
      · by_cases c2 : a.tmod 2 = 0
        · have hbq : (a.tmod 2 == 0) = true := by simpa using c2
          have hm := Int.tdiv_mul_add_tmod a 2
          have hm1 : -18014398509481984 ≤ a.tdiv 2 := by omega
          have hm2 : a.tdiv 2 ≤ 18014398509481984 := by omega
          clear c2 hm
          go_wp2_with fail
          go_round
          case rel => exact ⟨_, _, rfl, rfl, by decide, hm1, hm2⟩
          case measure => simp [intOf]
        · have hbq : (a.tmod 2 == 0) = false := by simpa using c2
          have hbe : (a % 2 == 0) = false := by rw [beq_eq_false_iff_ne]; intro h; exact c2 (Int.tmod_eq_zero_of_dvd (by omega))
          clear c2
          by_cases g1 : 99999999999 < a
          · go_wp2_with fail
            refine (doubt_any _).mono ?_
            rintro e w2 ⟨rfl, hb2⟩
            have hB2 := (Bk.new w 27 #[.int .i64 0, .int .i64 0, .int .i64 0, .string ⟨#[]⟩, .slice none 0 0]).below hb2 (by simp)
            have hd2 := Below.lift ((Below.refl w.heap.size w).alloc (Nat.le_refl _) _) (by simp) hb2
            obtain ⟨q0, q1, q2, q3, q4, qf⟩ := hB2.cells5
            unfold sv
            go_wp2_with fail
            exact end_cell Tryz.results31 rfl (Bk.set5 hB2 _ _ _ _ _) Tryz.underlying27 rfl info_sv rfl ⟨(6, 0, 0, es), .inl rfl, rfl, Below.set5 hd2 (Nat.le_refl _) _ _ _ _ _⟩
          by_cases g2 : a < -99999999999
          · go_wp2_with fail
            refine (doubt_any _).mono ?_
            rintro e w2 ⟨rfl, hb2⟩
            have hB2 := (Bk.new w 27 #[.int .i64 0, .int .i64 0, .int .i64 0, .string ⟨#[]⟩, .slice none 0 0]).below hb2 (by simp)
            have hd2 := Below.lift ((Below.refl w.heap.size w).alloc (Nat.le_refl _) _) (by simp) hb2
            obtain ⟨q0, q1, q2, q3, q4, qf⟩ := hB2.cells5
            unfold sv
            go_wp2_with fail
            exact end_cell Tryz.results31 rfl (Bk.set5 hB2 _ _ _ _ _) Tryz.underlying27 rfl info_sv rfl ⟨(6, 0, 0, es), .inl rfl, rfl, Below.set5 hd2 (Nat.le_refl _) _ _ _ _ _⟩
          go_wp2_with fail
          exact end_cell Tryz.results31 rfl (Bk.new_at rfl) Tryz.underlying27 rfl info_sv rfl ⟨1, a, 16, es, .inr ⟨a, 16, rfl, by decide, by omega, by omega⟩, rfl, (Below.refl _ _).alloc (Nat.le_refl _) _⟩
  · have hr0 : (r != 0) = true := by simpa using h0
    go_enter Tryz.func31, Tryz.ntmps31
    go_wp2_with fail
    refine (doubt_any _).mono ?_
    rintro e w2 ⟨rfl, hb2⟩
    have hB2 := (Bk.new w 27 #[.int .i64 0, .int .i64 0, .int .i64 0, .string ⟨#[]⟩, .slice none 0 0]).below hb2 (by simp)
    have hd2 := Below.lift ((Below.refl w.heap.size w).alloc (Nat.le_refl _) _) (by simp) hb2
    obtain ⟨q0, q1, q2, q3, q4, qf⟩ := hB2.cells5
    unfold sv
    go_wp2_with fail
    exact end_cell Tryz.results31 rfl (Bk.set5 hB2 _ _ _ _ _) Tryz.underlying27 rfl info_sv rfl ⟨(6, 0, 0, es), .inl rfl, rfl, Below.set5 hd2 (Nat.le_refl _) _ _ _ _ _⟩

-- behind frac_some
end Go.Proofs.YtjnlghokhlmjlaaGreatDoor
