import Derived.Test.YtjnlghokhlmjlaaGreatDoorFix
namespace Go.Proofs.YtjnlghokhlmjlaaGreatDoor
open Go.RowKit
attribute [local go_sem] run_store_float

set_option maxRecDepth 100000 in
set_option maxHeartbeats 8000000 in
theorem other_fix (s : ByteArray) (hs : s.size ≤ 1000) : ∃ v : SV, Odd6 v ∧ ∀ w, Calls Tryz.prog 243 #[.string s] w fun e w' => e = .returned (svV v) ∧ Below w.heap.size w w' := by
  by_cases hbad : ∃ k, ∃ hk : k < s.size, lwb (s[k]'hk).toNat < 97 ∨ 122 < lwb (s[k]'hk).toNat
  · refine ⟨(6, 0, 0, es), .inl rfl, fun w => ?_⟩
    have HBAD := hid hbad
    clear hbad
    go_enter Tryz.func243, Tryz.ntmps243
    go_wp2_with fail
    have hB0 := Bk.new w 27 #[.int .i64 0, .int .i64 0, .int .i64 0, .string ⟨#[]⟩, .slice none 0 0]
    have hd0 : Below w.heap.size w (w.alloc (.cells #[.int .i64 0, .int .i64 0, .int .i64 0, .string ⟨#[]⟩, .slice none 0 0] 27)) := (Below.refl _ _).alloc (Nat.le_refl _) _
    generalize w.alloc (.cells #[.int .i64 0, .int .i64 0, .int .i64 0, .string ⟨#[]⟩, .slice none 0 0] 27) = W at *
    go_loop [3] (fun i => ∃ k : Nat, k ≤ s.size ∧ i = .int .i64 (k : Int) ∧ Hid (∀ j (hj : j < s.size), j < k → ¬ (lwb (s[j]'hj).toNat < 97 ∨ 122 < lwb (s[j]'hj).toNat))) (fun i => s.size - (intOf i).toNat)
    case atStart => exact ⟨0, Nat.zero_le _, rfl, fun j _ h => absurd h (by omega)⟩
    case round =>
      obtain ⟨k, hk, rfl, hno⟩ := hrel
      by_cases hlt : k < s.size
      · have hx := UInt8.toNat_lt (s[k]'hlt)
        have hk0 : (0 : Int) ≤ (k : Int) := by omega
        have hk1 : (k : Int) < (s.size : Int) := by omega
        have HN := hid (fun (h : ¬ (lwb (s[k]'hlt).toNat < 97 ∨ 122 < lwb (s[k]'hlt).toNat)) => (show ∀ j (hj : j < s.size), j < k + 1 → ¬ (lwb (s[j]'hj).toNat < 97 ∨ 122 < lwb (s[j]'hj).toNat) from fun j hj hjk => by
          by_cases hjk2 : j = k
          · subst hjk2; exact h
          · exact hno.out j hj (by omega)))
        go_wp2_with fail
        generalize (s[k]'hlt).toNat = x at *
        refine (Lower_fix x (by omega) _).mono ?_
        rintro e w1 ⟨rfl, rfl⟩
        generalize lwb x = d at *
        by_cases h1 : d < 97
        · go_wp2_with fail
          refine (doubt_any _).mono ?_
          rintro e w9 ⟨rfl, hb9⟩
          have hB9 := hB0.below hb9 hB0.lt
          have hd9 := Below.lift hd0 hd0.size hb9
          obtain ⟨q0, q1, q2, q3, q4, qf⟩ := hB9.cells5
          unfold sv
          go_wp2_with fail
          exact end_cell Tryz.results243 rfl (Bk.set5 hB9 _ _ _ _ _) Tryz.underlying27 rfl info_sv rfl ⟨rfl, Below.set5 hd9 (Nat.le_refl _) _ _ _ _ _⟩
        by_cases h2 : 122 < d
        · go_wp2_with fail
          refine (doubt_any _).mono ?_
          rintro e w9 ⟨rfl, hb9⟩
          have hB9 := hB0.below hb9 hB0.lt
          have hd9 := Below.lift hd0 hd0.size hb9
          obtain ⟨q0, q1, q2, q3, q4, qf⟩ := hB9.cells5
          unfold sv
          go_wp2_with fail
          exact end_cell Tryz.results243 rfl (Bk.set5 hB9 _ _ _ _ _) Tryz.underlying27 rfl info_sv rfl ⟨rfl, Below.set5 hd9 (Nat.le_refl _) _ _ _ _ _⟩
        have HN2 := hid (HN.out (by omega))
        clear HN
        go_wp2_with fail
        go_round
        case rel => exact ⟨k + 1, by omega, by go_num, HN2.out⟩
        case measure => simp [intOf]; omega
      · obtain ⟨j, hj, hb⟩ := HBAD.out
        exact absurd hb (hno.out j hj (by omega))
  have HG : Hid (∀ k (hk : k < s.size), 97 ≤ lwb (s[k]'hk).toNat ∧ lwb (s[k]'hk).toNat ≤ 122) := fun k hk => by
    refine ⟨?_, ?_⟩
    · rcases Nat.lt_or_ge (lwb (s[k]'hk).toNat) 97 with h | h
      · exact absurd ⟨k, hk, .inl h⟩ hbad
      · exact h
    · rcases Nat.lt_or_ge 122 (lwb (s[k]'hk).toNat) with h | h
      · exact absurd ⟨k, hk, .inr h⟩ hbad
      · exact h
  clear hbad
  obtain ⟨u, hu⟩ : ∃ u, lowS s = u := ⟨_, rfl⟩
  by_cases e0 : (u.toList == []) = true
  · refine ⟨(6, 0, 0, es), .inl rfl, fun w => ?_⟩
    go_enter Tryz.func243, Tryz.ntmps243
    go_wp2_with fail
    have hB0 := Bk.new w 27 #[.int .i64 0, .int .i64 0, .int .i64 0, .string ⟨#[]⟩, .slice none 0 0]
    have hd0 : Below w.heap.size w (w.alloc (.cells #[.int .i64 0, .int .i64 0, .int .i64 0, .string ⟨#[]⟩, .slice none 0 0] 27)) := (Below.refl _ _).alloc (Nat.le_refl _) _
    generalize w.alloc (.cells #[.int .i64 0, .int .i64 0, .int .i64 0, .string ⟨#[]⟩, .slice none 0 0] 27) = W at *
    go_loop [3] (fun i => ∃ k : Nat, k ≤ s.size ∧ i = .int .i64 (k : Int)) (fun i => s.size - (intOf i).toNat)
    case atStart => exact ⟨0, Nat.zero_le _, rfl⟩
    case round =>
      obtain ⟨k, hk, rfl⟩ := hrel
      by_cases hlt : k < s.size
      · have hx := UInt8.toNat_lt (s[k]'hlt)
        have hk0 : (0 : Int) ≤ (k : Int) := by omega
        have hk1 : (k : Int) < (s.size : Int) := by omega
        have hgd := HG.out k hlt
        go_wp2_with fail
        generalize (s[k]'hlt).toNat = x at *
        refine (Lower_fix x (by omega) _).mono ?_
        rintro e w1 ⟨rfl, rfl⟩
        generalize lwb x = d at *
        obtain ⟨hg1, hg2⟩ := hgd
        go_wp2_with fail
        go_round
        case rel => exact ⟨k + 1, by omega, by go_num⟩
        case measure => simp [intOf]; omega
      · have hkl : k = s.size := by omega
        subst hkl
        clear hk hlt
        go_wp2_with fail
        refine (lower_fix s hs _).mono ?_
        rintro e w2 ⟨rfl, hb2⟩
        have hB2 := hB0.below hb2 hB0.lt
        have hd2 := Below.lift hd0 hd0.size hb2
        clear hb2
        rw [hu]
        go_wp2_with fail
        refine (doubt_any _).mono ?_
        rintro e w9 ⟨rfl, hb9⟩
        have hB9 := hB2.below hb9 hB2.lt
        have hd9 := Below.lift hd2 hd2.size hb9
        obtain ⟨q0, q1, q2, q3, q4, qf⟩ := hB9.cells5
        unfold sv
        go_wp2_with fail
        exact end_cell Tryz.results243 rfl (Bk.set5 hB9 _ _ _ _ _) Tryz.underlying27 rfl info_sv rfl ⟨rfl, Below.set5 hd9 (Nat.le_refl _) _ _ _ _ _⟩
  have q0 : (u.toList == []) = false := by cases h9 : (u.toList == []) with | false => rfl | true => exact absurd h9 e0
  clear e0
  by_cases e1 : (u.toList == [101]) = true
  · refine ⟨(6, 0, 0, es), .inl rfl, fun w => ?_⟩
    go_enter Tryz.func243, Tryz.ntmps243
    go_wp2_with fail
    have hB0 := Bk.new w 27 #[.int .i64 0, .int .i64 0, .int .i64 0, .string ⟨#[]⟩, .slice none 0 0]
    have hd0 : Below w.heap.size w (w.alloc (.cells #[.int .i64 0, .int .i64 0, .int .i64 0, .string ⟨#[]⟩, .slice none 0 0] 27)) := (Below.refl _ _).alloc (Nat.le_refl _) _
    generalize w.alloc (.cells #[.int .i64 0, .int .i64 0, .int .i64 0, .string ⟨#[]⟩, .slice none 0 0] 27) = W at *
    go_loop [3] (fun i => ∃ k : Nat, k ≤ s.size ∧ i = .int .i64 (k : Int)) (fun i => s.size - (intOf i).toNat)
    case atStart => exact ⟨0, Nat.zero_le _, rfl⟩
    case round =>
      obtain ⟨k, hk, rfl⟩ := hrel
      by_cases hlt : k < s.size
      · have hx := UInt8.toNat_lt (s[k]'hlt)
        have hk0 : (0 : Int) ≤ (k : Int) := by omega
        have hk1 : (k : Int) < (s.size : Int) := by omega
        have hgd := HG.out k hlt
        go_wp2_with fail
        generalize (s[k]'hlt).toNat = x at *
        refine (Lower_fix x (by omega) _).mono ?_
        rintro e w1 ⟨rfl, rfl⟩
        generalize lwb x = d at *
        obtain ⟨hg1, hg2⟩ := hgd
        go_wp2_with fail
        go_round
        case rel => exact ⟨k + 1, by omega, by go_num⟩
        case measure => simp [intOf]; omega
      · have hkl : k = s.size := by omega
        subst hkl
        clear hk hlt
        go_wp2_with fail
        refine (lower_fix s hs _).mono ?_
        rintro e w2 ⟨rfl, hb2⟩
        have hB2 := hB0.below hb2 hB0.lt
        have hd2 := Below.lift hd0 hd0.size hb2
        clear hb2
        rw [hu]
        go_wp2_with fail
        refine (doubt_any _).mono ?_
        rintro e w9 ⟨rfl, hb9⟩
        have hB9 := hB2.below hb9 hB2.lt
        have hd9 := Below.lift hd2 hd2.size hb9
        obtain ⟨q0, q1, q2, q3, q4, qf⟩ := hB9.cells5
        unfold sv
        go_wp2_with fail
        exact end_cell Tryz.results243 rfl (Bk.set5 hB9 _ _ _ _ _) Tryz.underlying27 rfl info_sv rfl ⟨rfl, Below.set5 hd9 (Nat.le_refl _) _ _ _ _ _⟩
  have q1 : (u.toList == [101]) = false := by cases h9 : (u.toList == [101]) with | false => rfl | true => exact absurd h9 e1
  clear e1
  by_cases e2 : (u.toList == [110, 97, 110]) = true
  · refine ⟨(6, 0, 0, es), .inl rfl, fun w => ?_⟩
    go_enter Tryz.func243, Tryz.ntmps243
    go_wp2_with fail
    have hB0 := Bk.new w 27 #[.int .i64 0, .int .i64 0, .int .i64 0, .string ⟨#[]⟩, .slice none 0 0]
    have hd0 : Below w.heap.size w (w.alloc (.cells #[.int .i64 0, .int .i64 0, .int .i64 0, .string ⟨#[]⟩, .slice none 0 0] 27)) := (Below.refl _ _).alloc (Nat.le_refl _) _
    generalize w.alloc (.cells #[.int .i64 0, .int .i64 0, .int .i64 0, .string ⟨#[]⟩, .slice none 0 0] 27) = W at *
    go_loop [3] (fun i => ∃ k : Nat, k ≤ s.size ∧ i = .int .i64 (k : Int)) (fun i => s.size - (intOf i).toNat)
    case atStart => exact ⟨0, Nat.zero_le _, rfl⟩
    case round =>
      obtain ⟨k, hk, rfl⟩ := hrel
      by_cases hlt : k < s.size
      · have hx := UInt8.toNat_lt (s[k]'hlt)
        have hk0 : (0 : Int) ≤ (k : Int) := by omega
        have hk1 : (k : Int) < (s.size : Int) := by omega
        have hgd := HG.out k hlt
        go_wp2_with fail
        generalize (s[k]'hlt).toNat = x at *
        refine (Lower_fix x (by omega) _).mono ?_
        rintro e w1 ⟨rfl, rfl⟩
        generalize lwb x = d at *
        obtain ⟨hg1, hg2⟩ := hgd
        go_wp2_with fail
        go_round
        case rel => exact ⟨k + 1, by omega, by go_num⟩
        case measure => simp [intOf]; omega
      · have hkl : k = s.size := by omega
        subst hkl
        clear hk hlt
        go_wp2_with fail
        refine (lower_fix s hs _).mono ?_
        rintro e w2 ⟨rfl, hb2⟩
        have hB2 := hB0.below hb2 hB0.lt
        have hd2 := Below.lift hd0 hd0.size hb2
        clear hb2
        rw [hu]
        go_wp2_with fail
        refine (doubt_any _).mono ?_
        rintro e w9 ⟨rfl, hb9⟩
        have hB9 := hB2.below hb9 hB2.lt
        have hd9 := Below.lift hd2 hd2.size hb9
        obtain ⟨q0, q1, q2, q3, q4, qf⟩ := hB9.cells5
        unfold sv
        go_wp2_with fail
        exact end_cell Tryz.results243 rfl (Bk.set5 hB9 _ _ _ _ _) Tryz.underlying27 rfl info_sv rfl ⟨rfl, Below.set5 hd9 (Nat.le_refl _) _ _ _ _ _⟩
  have q2 : (u.toList == [110, 97, 110]) = false := by cases h9 : (u.toList == [110, 97, 110]) with | false => rfl | true => exact absurd h9 e2
  clear e2
  by_cases e3 : (u.toList == [105, 110, 102]) = true
  · refine ⟨(6, 0, 0, es), .inl rfl, fun w => ?_⟩
    go_enter Tryz.func243, Tryz.ntmps243
    go_wp2_with fail
    have hB0 := Bk.new w 27 #[.int .i64 0, .int .i64 0, .int .i64 0, .string ⟨#[]⟩, .slice none 0 0]
    have hd0 : Below w.heap.size w (w.alloc (.cells #[.int .i64 0, .int .i64 0, .int .i64 0, .string ⟨#[]⟩, .slice none 0 0] 27)) := (Below.refl _ _).alloc (Nat.le_refl _) _
    generalize w.alloc (.cells #[.int .i64 0, .int .i64 0, .int .i64 0, .string ⟨#[]⟩, .slice none 0 0] 27) = W at *
    go_loop [3] (fun i => ∃ k : Nat, k ≤ s.size ∧ i = .int .i64 (k : Int)) (fun i => s.size - (intOf i).toNat)
    case atStart => exact ⟨0, Nat.zero_le _, rfl⟩
    case round =>
      obtain ⟨k, hk, rfl⟩ := hrel
      by_cases hlt : k < s.size
      · have hx := UInt8.toNat_lt (s[k]'hlt)
        have hk0 : (0 : Int) ≤ (k : Int) := by omega
        have hk1 : (k : Int) < (s.size : Int) := by omega
        have hgd := HG.out k hlt
        go_wp2_with fail
        generalize (s[k]'hlt).toNat = x at *
        refine (Lower_fix x (by omega) _).mono ?_
        rintro e w1 ⟨rfl, rfl⟩
        generalize lwb x = d at *
        obtain ⟨hg1, hg2⟩ := hgd
        go_wp2_with fail
        go_round
        case rel => exact ⟨k + 1, by omega, by go_num⟩
        case measure => simp [intOf]; omega
      · have hkl : k = s.size := by omega
        subst hkl
        clear hk hlt
        go_wp2_with fail
        refine (lower_fix s hs _).mono ?_
        rintro e w2 ⟨rfl, hb2⟩
        have hB2 := hB0.below hb2 hB0.lt
        have hd2 := Below.lift hd0 hd0.size hb2
        clear hb2
        rw [hu]
        go_wp2_with fail
        refine (doubt_any _).mono ?_
        rintro e w9 ⟨rfl, hb9⟩
        have hB9 := hB2.below hb9 hB2.lt
        have hd9 := Below.lift hd2 hd2.size hb9
        obtain ⟨q0, q1, q2, q3, q4, qf⟩ := hB9.cells5
        unfold sv
        go_wp2_with fail
        exact end_cell Tryz.results243 rfl (Bk.set5 hB9 _ _ _ _ _) Tryz.underlying27 rfl info_sv rfl ⟨rfl, Below.set5 hd9 (Nat.le_refl _) _ _ _ _ _⟩
  have q3 : (u.toList == [105, 110, 102]) = false := by cases h9 : (u.toList == [105, 110, 102]) with | false => rfl | true => exact absurd h9 e3
  clear e3
  by_cases e4 : (u.toList == [105, 110, 102, 105, 110, 105, 116, 121]) = true
  · refine ⟨(6, 0, 0, es), .inl rfl, fun w => ?_⟩
    go_enter Tryz.func243, Tryz.ntmps243
    go_wp2_with fail
    have hB0 := Bk.new w 27 #[.int .i64 0, .int .i64 0, .int .i64 0, .string ⟨#[]⟩, .slice none 0 0]
    have hd0 : Below w.heap.size w (w.alloc (.cells #[.int .i64 0, .int .i64 0, .int .i64 0, .string ⟨#[]⟩, .slice none 0 0] 27)) := (Below.refl _ _).alloc (Nat.le_refl _) _
    generalize w.alloc (.cells #[.int .i64 0, .int .i64 0, .int .i64 0, .string ⟨#[]⟩, .slice none 0 0] 27) = W at *
    go_loop [3] (fun i => ∃ k : Nat, k ≤ s.size ∧ i = .int .i64 (k : Int)) (fun i => s.size - (intOf i).toNat)
    case atStart => exact ⟨0, Nat.zero_le _, rfl⟩
    case round =>
      obtain ⟨k, hk, rfl⟩ := hrel
      by_cases hlt : k < s.size
      · have hx := UInt8.toNat_lt (s[k]'hlt)
        have hk0 : (0 : Int) ≤ (k : Int) := by omega
        have hk1 : (k : Int) < (s.size : Int) := by omega
        have hgd := HG.out k hlt
        go_wp2_with fail
        generalize (s[k]'hlt).toNat = x at *
        refine (Lower_fix x (by omega) _).mono ?_
        rintro e w1 ⟨rfl, rfl⟩
        generalize lwb x = d at *
        obtain ⟨hg1, hg2⟩ := hgd
        go_wp2_with fail
        go_round
        case rel => exact ⟨k + 1, by omega, by go_num⟩
        case measure => simp [intOf]; omega
      · have hkl : k = s.size := by omega
        subst hkl
        clear hk hlt
        go_wp2_with fail
        refine (lower_fix s hs _).mono ?_
        rintro e w2 ⟨rfl, hb2⟩
        have hB2 := hB0.below hb2 hB0.lt
        have hd2 := Below.lift hd0 hd0.size hb2
        clear hb2
        rw [hu]
        go_wp2_with fail
        refine (doubt_any _).mono ?_
        rintro e w9 ⟨rfl, hb9⟩
        have hB9 := hB2.below hb9 hB2.lt
        have hd9 := Below.lift hd2 hd2.size hb9
        obtain ⟨q0, q1, q2, q3, q4, qf⟩ := hB9.cells5
        unfold sv
        go_wp2_with fail
        exact end_cell Tryz.results243 rfl (Bk.set5 hB9 _ _ _ _ _) Tryz.underlying27 rfl info_sv rfl ⟨rfl, Below.set5 hd9 (Nat.le_refl _) _ _ _ _ _⟩
  have q4 : (u.toList == [105, 110, 102, 105, 110, 105, 116, 121]) = false := by cases h9 : (u.toList == [105, 110, 102, 105, 110, 105, 116, 121]) with | false => rfl | true => exact absurd h9 e4
  clear e4
  by_cases e5 : (u.toList == [116, 114, 117, 101]) = true
  · refine ⟨(6, 0, 0, es), .inl rfl, fun w => ?_⟩
    go_enter Tryz.func243, Tryz.ntmps243
    go_wp2_with fail
    have hB0 := Bk.new w 27 #[.int .i64 0, .int .i64 0, .int .i64 0, .string ⟨#[]⟩, .slice none 0 0]
    have hd0 : Below w.heap.size w (w.alloc (.cells #[.int .i64 0, .int .i64 0, .int .i64 0, .string ⟨#[]⟩, .slice none 0 0] 27)) := (Below.refl _ _).alloc (Nat.le_refl _) _
    generalize w.alloc (.cells #[.int .i64 0, .int .i64 0, .int .i64 0, .string ⟨#[]⟩, .slice none 0 0] 27) = W at *
    go_loop [3] (fun i => ∃ k : Nat, k ≤ s.size ∧ i = .int .i64 (k : Int)) (fun i => s.size - (intOf i).toNat)
    case atStart => exact ⟨0, Nat.zero_le _, rfl⟩
    case round =>
      obtain ⟨k, hk, rfl⟩ := hrel
      by_cases hlt : k < s.size
      · have hx := UInt8.toNat_lt (s[k]'hlt)
        have hk0 : (0 : Int) ≤ (k : Int) := by omega
        have hk1 : (k : Int) < (s.size : Int) := by omega
        have hgd := HG.out k hlt
        go_wp2_with fail
        generalize (s[k]'hlt).toNat = x at *
        refine (Lower_fix x (by omega) _).mono ?_
        rintro e w1 ⟨rfl, rfl⟩
        generalize lwb x = d at *
        obtain ⟨hg1, hg2⟩ := hgd
        go_wp2_with fail
        go_round
        case rel => exact ⟨k + 1, by omega, by go_num⟩
        case measure => simp [intOf]; omega
      · have hkl : k = s.size := by omega
        subst hkl
        clear hk hlt
        go_wp2_with fail
        refine (lower_fix s hs _).mono ?_
        rintro e w2 ⟨rfl, hb2⟩
        have hB2 := hB0.below hb2 hB0.lt
        have hd2 := Below.lift hd0 hd0.size hb2
        clear hb2
        rw [hu]
        go_wp2_with fail
        refine (doubt_any _).mono ?_
        rintro e w9 ⟨rfl, hb9⟩
        have hB9 := hB2.below hb9 hB2.lt
        have hd9 := Below.lift hd2 hd2.size hb9
        obtain ⟨q0, q1, q2, q3, q4, qf⟩ := hB9.cells5
        unfold sv
        go_wp2_with fail
        exact end_cell Tryz.results243 rfl (Bk.set5 hB9 _ _ _ _ _) Tryz.underlying27 rfl info_sv rfl ⟨rfl, Below.set5 hd9 (Nat.le_refl _) _ _ _ _ _⟩
  have q5 : (u.toList == [116, 114, 117, 101]) = false := by cases h9 : (u.toList == [116, 114, 117, 101]) with | false => rfl | true => exact absurd h9 e5
  clear e5
  by_cases e6 : (u.toList == [102, 97, 108, 115, 101]) = true
  · refine ⟨(6, 0, 0, es), .inl rfl, fun w => ?_⟩
    go_enter Tryz.func243, Tryz.ntmps243
    go_wp2_with fail
    have hB0 := Bk.new w 27 #[.int .i64 0, .int .i64 0, .int .i64 0, .string ⟨#[]⟩, .slice none 0 0]
    have hd0 : Below w.heap.size w (w.alloc (.cells #[.int .i64 0, .int .i64 0, .int .i64 0, .string ⟨#[]⟩, .slice none 0 0] 27)) := (Below.refl _ _).alloc (Nat.le_refl _) _
    generalize w.alloc (.cells #[.int .i64 0, .int .i64 0, .int .i64 0, .string ⟨#[]⟩, .slice none 0 0] 27) = W at *
    go_loop [3] (fun i => ∃ k : Nat, k ≤ s.size ∧ i = .int .i64 (k : Int)) (fun i => s.size - (intOf i).toNat)
    case atStart => exact ⟨0, Nat.zero_le _, rfl⟩
    case round =>
      obtain ⟨k, hk, rfl⟩ := hrel
      by_cases hlt : k < s.size
      · have hx := UInt8.toNat_lt (s[k]'hlt)
        have hk0 : (0 : Int) ≤ (k : Int) := by omega
        have hk1 : (k : Int) < (s.size : Int) := by omega
        have hgd := HG.out k hlt
        go_wp2_with fail
        generalize (s[k]'hlt).toNat = x at *
        refine (Lower_fix x (by omega) _).mono ?_
        rintro e w1 ⟨rfl, rfl⟩
        generalize lwb x = d at *
        obtain ⟨hg1, hg2⟩ := hgd
        go_wp2_with fail
        go_round
        case rel => exact ⟨k + 1, by omega, by go_num⟩
        case measure => simp [intOf]; omega
      · have hkl : k = s.size := by omega
        subst hkl
        clear hk hlt
        go_wp2_with fail
        refine (lower_fix s hs _).mono ?_
        rintro e w2 ⟨rfl, hb2⟩
        have hB2 := hB0.below hb2 hB0.lt
        have hd2 := Below.lift hd0 hd0.size hb2
        clear hb2
        rw [hu]
        go_wp2_with fail
        refine (doubt_any _).mono ?_
        rintro e w9 ⟨rfl, hb9⟩
        have hB9 := hB2.below hb9 hB2.lt
        have hd9 := Below.lift hd2 hd2.size hb9
        obtain ⟨q0, q1, q2, q3, q4, qf⟩ := hB9.cells5
        unfold sv
        go_wp2_with fail
        exact end_cell Tryz.results243 rfl (Bk.set5 hB9 _ _ _ _ _) Tryz.underlying27 rfl info_sv rfl ⟨rfl, Below.set5 hd9 (Nat.le_refl _) _ _ _ _ _⟩
  have q6 : (u.toList == [102, 97, 108, 115, 101]) = false := by cases h9 : (u.toList == [102, 97, 108, 115, 101]) with | false => rfl | true => exact absurd h9 e6
  clear e6
  by_cases e7 : (u.toList == [97, 109]) = true
  · refine ⟨(6, 0, 0, es), .inl rfl, fun w => ?_⟩
    go_enter Tryz.func243, Tryz.ntmps243
    go_wp2_with fail
    have hB0 := Bk.new w 27 #[.int .i64 0, .int .i64 0, .int .i64 0, .string ⟨#[]⟩, .slice none 0 0]
    have hd0 : Below w.heap.size w (w.alloc (.cells #[.int .i64 0, .int .i64 0, .int .i64 0, .string ⟨#[]⟩, .slice none 0 0] 27)) := (Below.refl _ _).alloc (Nat.le_refl _) _
    generalize w.alloc (.cells #[.int .i64 0, .int .i64 0, .int .i64 0, .string ⟨#[]⟩, .slice none 0 0] 27) = W at *
    go_loop [3] (fun i => ∃ k : Nat, k ≤ s.size ∧ i = .int .i64 (k : Int)) (fun i => s.size - (intOf i).toNat)
    case atStart => exact ⟨0, Nat.zero_le _, rfl⟩
    case round =>
      obtain ⟨k, hk, rfl⟩ := hrel
      by_cases hlt : k < s.size
      · have hx := UInt8.toNat_lt (s[k]'hlt)
        have hk0 : (0 : Int) ≤ (k : Int) := by omega
        have hk1 : (k : Int) < (s.size : Int) := by omega
        have hgd := HG.out k hlt
        go_wp2_with fail
        generalize (s[k]'hlt).toNat = x at *
        refine (Lower_fix x (by omega) _).mono ?_
        rintro e w1 ⟨rfl, rfl⟩
        generalize lwb x = d at *
        obtain ⟨hg1, hg2⟩ := hgd
        go_wp2_with fail
        go_round
        case rel => exact ⟨k + 1, by omega, by go_num⟩
        case measure => simp [intOf]; omega
      · have hkl : k = s.size := by omega
        subst hkl
        clear hk hlt
        go_wp2_with fail
        refine (lower_fix s hs _).mono ?_
        rintro e w2 ⟨rfl, hb2⟩
        have hB2 := hB0.below hb2 hB0.lt
        have hd2 := Below.lift hd0 hd0.size hb2
        clear hb2
        rw [hu]
        go_wp2_with fail
        refine (doubt_any _).mono ?_
        rintro e w9 ⟨rfl, hb9⟩
        have hB9 := hB2.below hb9 hB2.lt
        have hd9 := Below.lift hd2 hd2.size hb9
        obtain ⟨q0, q1, q2, q3, q4, qf⟩ := hB9.cells5
        unfold sv
        go_wp2_with fail
        exact end_cell Tryz.results243 rfl (Bk.set5 hB9 _ _ _ _ _) Tryz.underlying27 rfl info_sv rfl ⟨rfl, Below.set5 hd9 (Nat.le_refl _) _ _ _ _ _⟩
  have q7 : (u.toList == [97, 109]) = false := by cases h9 : (u.toList == [97, 109]) with | false => rfl | true => exact absurd h9 e7
  clear e7
  by_cases e8 : (u.toList == [112, 109]) = true
  · refine ⟨(6, 0, 0, es), .inl rfl, fun w => ?_⟩
    go_enter Tryz.func243, Tryz.ntmps243
    go_wp2_with fail
    have hB0 := Bk.new w 27 #[.int .i64 0, .int .i64 0, .int .i64 0, .string ⟨#[]⟩, .slice none 0 0]
    have hd0 : Below w.heap.size w (w.alloc (.cells #[.int .i64 0, .int .i64 0, .int .i64 0, .string ⟨#[]⟩, .slice none 0 0] 27)) := (Below.refl _ _).alloc (Nat.le_refl _) _
    generalize w.alloc (.cells #[.int .i64 0, .int .i64 0, .int .i64 0, .string ⟨#[]⟩, .slice none 0 0] 27) = W at *
    go_loop [3] (fun i => ∃ k : Nat, k ≤ s.size ∧ i = .int .i64 (k : Int)) (fun i => s.size - (intOf i).toNat)
    case atStart => exact ⟨0, Nat.zero_le _, rfl⟩
    case round =>
      obtain ⟨k, hk, rfl⟩ := hrel
      by_cases hlt : k < s.size
      · have hx := UInt8.toNat_lt (s[k]'hlt)
        have hk0 : (0 : Int) ≤ (k : Int) := by omega
        have hk1 : (k : Int) < (s.size : Int) := by omega
        have hgd := HG.out k hlt
        go_wp2_with fail
        generalize (s[k]'hlt).toNat = x at *
        refine (Lower_fix x (by omega) _).mono ?_
        rintro e w1 ⟨rfl, rfl⟩
        generalize lwb x = d at *
        obtain ⟨hg1, hg2⟩ := hgd
        go_wp2_with fail
        go_round
        case rel => exact ⟨k + 1, by omega, by go_num⟩
        case measure => simp [intOf]; omega
      · have hkl : k = s.size := by omega
        subst hkl
        clear hk hlt
        go_wp2_with fail
        refine (lower_fix s hs _).mono ?_
        rintro e w2 ⟨rfl, hb2⟩
        have hB2 := hB0.below hb2 hB0.lt
        have hd2 := Below.lift hd0 hd0.size hb2
        clear hb2
        rw [hu]
        go_wp2_with fail
        refine (doubt_any _).mono ?_
        rintro e w9 ⟨rfl, hb9⟩
        have hB9 := hB2.below hb9 hB2.lt
        have hd9 := Below.lift hd2 hd2.size hb9
        obtain ⟨q0, q1, q2, q3, q4, qf⟩ := hB9.cells5
        unfold sv
        go_wp2_with fail
        exact end_cell Tryz.results243 rfl (Bk.set5 hB9 _ _ _ _ _) Tryz.underlying27 rfl info_sv rfl ⟨rfl, Below.set5 hd9 (Nat.le_refl _) _ _ _ _ _⟩
  have q8 : (u.toList == [112, 109]) = false := by cases h9 : (u.toList == [112, 109]) with | false => rfl | true => exact absurd h9 e8
  clear e8
  by_cases e9 : (u.toList == [97]) = true
  · refine ⟨(6, 0, 0, es), .inl rfl, fun w => ?_⟩
    go_enter Tryz.func243, Tryz.ntmps243
    go_wp2_with fail
    have hB0 := Bk.new w 27 #[.int .i64 0, .int .i64 0, .int .i64 0, .string ⟨#[]⟩, .slice none 0 0]
    have hd0 : Below w.heap.size w (w.alloc (.cells #[.int .i64 0, .int .i64 0, .int .i64 0, .string ⟨#[]⟩, .slice none 0 0] 27)) := (Below.refl _ _).alloc (Nat.le_refl _) _
    generalize w.alloc (.cells #[.int .i64 0, .int .i64 0, .int .i64 0, .string ⟨#[]⟩, .slice none 0 0] 27) = W at *
    go_loop [3] (fun i => ∃ k : Nat, k ≤ s.size ∧ i = .int .i64 (k : Int)) (fun i => s.size - (intOf i).toNat)
    case atStart => exact ⟨0, Nat.zero_le _, rfl⟩
    case round =>
      obtain ⟨k, hk, rfl⟩ := hrel
      by_cases hlt : k < s.size
      · have hx := UInt8.toNat_lt (s[k]'hlt)
        have hk0 : (0 : Int) ≤ (k : Int) := by omega
        have hk1 : (k : Int) < (s.size : Int) := by omega
        have hgd := HG.out k hlt
        go_wp2_with fail
        generalize (s[k]'hlt).toNat = x at *
        refine (Lower_fix x (by omega) _).mono ?_
        rintro e w1 ⟨rfl, rfl⟩
        generalize lwb x = d at *
        obtain ⟨hg1, hg2⟩ := hgd
        go_wp2_with fail
        go_round
        case rel => exact ⟨k + 1, by omega, by go_num⟩
        case measure => simp [intOf]; omega
      · have hkl : k = s.size := by omega
        subst hkl
        clear hk hlt
        go_wp2_with fail
        refine (lower_fix s hs _).mono ?_
        rintro e w2 ⟨rfl, hb2⟩
        have hB2 := hB0.below hb2 hB0.lt
        have hd2 := Below.lift hd0 hd0.size hb2
        clear hb2
        rw [hu]
        go_wp2_with fail
        refine (doubt_any _).mono ?_
        rintro e w9 ⟨rfl, hb9⟩
        have hB9 := hB2.below hb9 hB2.lt
        have hd9 := Below.lift hd2 hd2.size hb9
        obtain ⟨q0, q1, q2, q3, q4, qf⟩ := hB9.cells5
        unfold sv
        go_wp2_with fail
        exact end_cell Tryz.results243 rfl (Bk.set5 hB9 _ _ _ _ _) Tryz.underlying27 rfl info_sv rfl ⟨rfl, Below.set5 hd9 (Nat.le_refl _) _ _ _ _ _⟩
  have q9 : (u.toList == [97]) = false := by cases h9 : (u.toList == [97]) with | false => rfl | true => exact absurd h9 e9
  clear e9
  by_cases e10 : (u.toList == [112]) = true
  · refine ⟨(6, 0, 0, es), .inl rfl, fun w => ?_⟩
    go_enter Tryz.func243, Tryz.ntmps243
    go_wp2_with fail
    have hB0 := Bk.new w 27 #[.int .i64 0, .int .i64 0, .int .i64 0, .string ⟨#[]⟩, .slice none 0 0]
    have hd0 : Below w.heap.size w (w.alloc (.cells #[.int .i64 0, .int .i64 0, .int .i64 0, .string ⟨#[]⟩, .slice none 0 0] 27)) := (Below.refl _ _).alloc (Nat.le_refl _) _
    generalize w.alloc (.cells #[.int .i64 0, .int .i64 0, .int .i64 0, .string ⟨#[]⟩, .slice none 0 0] 27) = W at *
    go_loop [3] (fun i => ∃ k : Nat, k ≤ s.size ∧ i = .int .i64 (k : Int)) (fun i => s.size - (intOf i).toNat)
    case atStart => exact ⟨0, Nat.zero_le _, rfl⟩
    case round =>
      obtain ⟨k, hk, rfl⟩ := hrel
      by_cases hlt : k < s.size
      · have hx := UInt8.toNat_lt (s[k]'hlt)
        have hk0 : (0 : Int) ≤ (k : Int) := by omega
        have hk1 : (k : Int) < (s.size : Int) := by omega
        have hgd := HG.out k hlt
        go_wp2_with fail
        generalize (s[k]'hlt).toNat = x at *
        refine (Lower_fix x (by omega) _).mono ?_
        rintro e w1 ⟨rfl, rfl⟩
        generalize lwb x = d at *
        obtain ⟨hg1, hg2⟩ := hgd
        go_wp2_with fail
        go_round
        case rel => exact ⟨k + 1, by omega, by go_num⟩
        case measure => simp [intOf]; omega
      · have hkl : k = s.size := by omega
        subst hkl
        clear hk hlt
        go_wp2_with fail
        refine (lower_fix s hs _).mono ?_
        rintro e w2 ⟨rfl, hb2⟩
        have hB2 := hB0.below hb2 hB0.lt
        have hd2 := Below.lift hd0 hd0.size hb2
        clear hb2
        rw [hu]
        go_wp2_with fail
        refine (doubt_any _).mono ?_
        rintro e w9 ⟨rfl, hb9⟩
        have hB9 := hB2.below hb9 hB2.lt
        have hd9 := Below.lift hd2 hd2.size hb9
        obtain ⟨q0, q1, q2, q3, q4, qf⟩ := hB9.cells5
        unfold sv
        go_wp2_with fail
        exact end_cell Tryz.results243 rfl (Bk.set5 hB9 _ _ _ _ _) Tryz.underlying27 rfl info_sv rfl ⟨rfl, Below.set5 hd9 (Nat.le_refl _) _ _ _ _ _⟩
  have q10 : (u.toList == [112]) = false := by cases h9 : (u.toList == [112]) with | false => rfl | true => exact absurd h9 e10
  clear e10
  by_cases hsz : s.size < 2
  · refine ⟨(6, 0, 0, es), .inl rfl, fun w => ?_⟩
    go_enter Tryz.func243, Tryz.ntmps243
    go_wp2_with fail
    have hB0 := Bk.new w 27 #[.int .i64 0, .int .i64 0, .int .i64 0, .string ⟨#[]⟩, .slice none 0 0]
    have hd0 : Below w.heap.size w (w.alloc (.cells #[.int .i64 0, .int .i64 0, .int .i64 0, .string ⟨#[]⟩, .slice none 0 0] 27)) := (Below.refl _ _).alloc (Nat.le_refl _) _
    generalize w.alloc (.cells #[.int .i64 0, .int .i64 0, .int .i64 0, .string ⟨#[]⟩, .slice none 0 0] 27) = W at *
    go_loop [3] (fun i => ∃ k : Nat, k ≤ s.size ∧ i = .int .i64 (k : Int)) (fun i => s.size - (intOf i).toNat)
    case atStart => exact ⟨0, Nat.zero_le _, rfl⟩
    case round =>
      obtain ⟨k, hk, rfl⟩ := hrel
      by_cases hlt : k < s.size
      · have hx := UInt8.toNat_lt (s[k]'hlt)
        have hk0 : (0 : Int) ≤ (k : Int) := by omega
        have hk1 : (k : Int) < (s.size : Int) := by omega
        have hgd := HG.out k hlt
        go_wp2_with fail
        generalize (s[k]'hlt).toNat = x at *
        refine (Lower_fix x (by omega) _).mono ?_
        rintro e w1 ⟨rfl, rfl⟩
        generalize lwb x = d at *
        obtain ⟨hg1, hg2⟩ := hgd
        go_wp2_with fail
        go_round
        case rel => exact ⟨k + 1, by omega, by go_num⟩
        case measure => simp [intOf]; omega
      · have hkl : k = s.size := by omega
        subst hkl
        clear hk hlt
        go_wp2_with fail
        refine (lower_fix s hs _).mono ?_
        rintro e w2 ⟨rfl, hb2⟩
        have hB2 := hB0.below hb2 hB0.lt
        have hd2 := Below.lift hd0 hd0.size hb2
        clear hb2
        rw [hu]
        go_wp2_with fail
        refine (doubt_any _).mono ?_
        rintro e w9 ⟨rfl, hb9⟩
        have hB9 := hB2.below hb9 hB2.lt
        have hd9 := Below.lift hd2 hd2.size hb9
        obtain ⟨q0, q1, q2, q3, q4, qf⟩ := hB9.cells5
        unfold sv
        go_wp2_with fail
        exact end_cell Tryz.results243 rfl (Bk.set5 hB9 _ _ _ _ _) Tryz.underlying27 rfl info_sv rfl ⟨rfl, Below.set5 hd9 (Nat.le_refl _) _ _ _ _ _⟩
  obtain ⟨b, hm⟩ := month_fix u (by rw [← hu, lowS_size]; exact hs)
  have HM := hid hm
  clear hm
  cases b
  · refine ⟨(4, 0, 0, valS), .inr rfl, fun w => ?_⟩
    go_enter Tryz.func243, Tryz.ntmps243
    go_wp2_with fail
    have hB0 := Bk.new w 27 #[.int .i64 0, .int .i64 0, .int .i64 0, .string ⟨#[]⟩, .slice none 0 0]
    have hd0 : Below w.heap.size w (w.alloc (.cells #[.int .i64 0, .int .i64 0, .int .i64 0, .string ⟨#[]⟩, .slice none 0 0] 27)) := (Below.refl _ _).alloc (Nat.le_refl _) _
    generalize w.alloc (.cells #[.int .i64 0, .int .i64 0, .int .i64 0, .string ⟨#[]⟩, .slice none 0 0] 27) = W at *
    go_loop [3] (fun i => ∃ k : Nat, k ≤ s.size ∧ i = .int .i64 (k : Int)) (fun i => s.size - (intOf i).toNat)
    case atStart => exact ⟨0, Nat.zero_le _, rfl⟩
    case round =>
      obtain ⟨k, hk, rfl⟩ := hrel
      by_cases hlt : k < s.size
      · have hx := UInt8.toNat_lt (s[k]'hlt)
        have hk0 : (0 : Int) ≤ (k : Int) := by omega
        have hk1 : (k : Int) < (s.size : Int) := by omega
        have hgd := HG.out k hlt
        go_wp2_with fail
        generalize (s[k]'hlt).toNat = x at *
        refine (Lower_fix x (by omega) _).mono ?_
        rintro e w1 ⟨rfl, rfl⟩
        generalize lwb x = d at *
        obtain ⟨hg1, hg2⟩ := hgd
        go_wp2_with fail
        go_round
        case rel => exact ⟨k + 1, by omega, by go_num⟩
        case measure => simp [intOf]; omega
      · have hkl : k = s.size := by omega
        subst hkl
        clear hk hlt
        go_wp2_with fail
        refine (lower_fix s hs _).mono ?_
        rintro e w2 ⟨rfl, hb2⟩
        have hB2 := hB0.below hb2 hB0.lt
        have hd2 := Below.lift hd0 hd0.size hb2
        clear hb2
        rw [hu]
        go_wp2_with fail
        refine (lower_fix s hs _).mono ?_
        rintro e w3 ⟨rfl, hb3⟩
        have hB3 := hB2.below hb3 hB2.lt
        have hd3 := Below.lift hd2 hd2.size hb3
        clear hb3
        rw [hu]
        go_wp2_with fail
        refine (HM.out _).mono ?_
        rintro e w4 ⟨rfl, rfl⟩
        go_wp2_with fail
        refine (err_any _ _).mono ?_
        rintro e w9 ⟨rfl, hb9⟩
        have hB9 := hB3.below hb9 hB3.lt
        have hd9 := Below.lift hd3 hd3.size hb9
        obtain ⟨q0, q1, q2, q3, q4, qf⟩ := hB9.cells5
        unfold sv
        go_wp2_with fail
        exact end_cell Tryz.results243 rfl (Bk.set5 hB9 _ _ _ _ _) Tryz.underlying27 rfl info_sv rfl ⟨rfl, Below.set5 hd9 (Nat.le_refl _) _ _ _ _ _⟩
  · refine ⟨(6, 0, 0, es), .inl rfl, fun w => ?_⟩
    go_enter Tryz.func243, Tryz.ntmps243
    go_wp2_with fail
    have hB0 := Bk.new w 27 #[.int .i64 0, .int .i64 0, .int .i64 0, .string ⟨#[]⟩, .slice none 0 0]
    have hd0 : Below w.heap.size w (w.alloc (.cells #[.int .i64 0, .int .i64 0, .int .i64 0, .string ⟨#[]⟩, .slice none 0 0] 27)) := (Below.refl _ _).alloc (Nat.le_refl _) _
    generalize w.alloc (.cells #[.int .i64 0, .int .i64 0, .int .i64 0, .string ⟨#[]⟩, .slice none 0 0] 27) = W at *
    go_loop [3] (fun i => ∃ k : Nat, k ≤ s.size ∧ i = .int .i64 (k : Int)) (fun i => s.size - (intOf i).toNat)
    case atStart => exact ⟨0, Nat.zero_le _, rfl⟩
    case round =>
      obtain ⟨k, hk, rfl⟩ := hrel
      by_cases hlt : k < s.size
      · have hx := UInt8.toNat_lt (s[k]'hlt)
        have hk0 : (0 : Int) ≤ (k : Int) := by omega
        have hk1 : (k : Int) < (s.size : Int) := by omega
        have hgd := HG.out k hlt
        go_wp2_with fail
        generalize (s[k]'hlt).toNat = x at *
        refine (Lower_fix x (by omega) _).mono ?_
        rintro e w1 ⟨rfl, rfl⟩
        generalize lwb x = d at *
        obtain ⟨hg1, hg2⟩ := hgd
        go_wp2_with fail
        go_round
        case rel => exact ⟨k + 1, by omega, by go_num⟩
        case measure => simp [intOf]; omega
      · have hkl : k = s.size := by omega
        subst hkl
        clear hk hlt
        go_wp2_with fail
        refine (lower_fix s hs _).mono ?_
        rintro e w2 ⟨rfl, hb2⟩
        have hB2 := hB0.below hb2 hB0.lt
        have hd2 := Below.lift hd0 hd0.size hb2
        clear hb2
        rw [hu]
        go_wp2_with fail
        refine (lower_fix s hs _).mono ?_
        rintro e w3 ⟨rfl, hb3⟩
        have hB3 := hB2.below hb3 hB2.lt
        have hd3 := Below.lift hd2 hd2.size hb3
        clear hb3
        rw [hu]
        go_wp2_with fail
        refine (HM.out _).mono ?_
        rintro e w4 ⟨rfl, rfl⟩
        go_wp2_with fail
        refine (doubt_any _).mono ?_
        rintro e w9 ⟨rfl, hb9⟩
        have hB9 := hB3.below hb9 hB3.lt
        have hd9 := Below.lift hd3 hd3.size hb9
        obtain ⟨q0, q1, q2, q3, q4, qf⟩ := hB9.cells5
        unfold sv
        go_wp2_with fail
        exact end_cell Tryz.results243 rfl (Bk.set5 hB9 _ _ _ _ _) Tryz.underlying27 rfl info_sv rfl ⟨rfl, Below.set5 hd9 (Nat.le_refl _) _ _ _ _ _⟩
end Go.Proofs.YtjnlghokhlmjlaaGreatDoor
