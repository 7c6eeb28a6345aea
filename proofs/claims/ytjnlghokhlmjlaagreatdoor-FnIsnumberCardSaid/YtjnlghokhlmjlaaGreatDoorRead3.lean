import Derived.Test.YtjnlghokhlmjlaaGreatDoorRead2
import Derived.Deep.DeepCutAuto
namespace Go.Proofs.YtjnlghokhlmjlaaGreatDoor
open Go.RowKit
attribute [local go_sem] run_store_float

def Acc (x m d : Nat) : Prop := x + 1 ≤ 10 ^ m ∧ d ≤ 10 ^ m ∧ 1 ≤ d ∧ m ≤ 12
theorem Acc.bound {x m d : Nat} (h : Acc x m d) : x ≤ 999999999999 ∧ d ≤ 1000000000000 ∧ 1 ≤ d := by
  obtain ⟨h1, h2, h3, h4⟩ := h
  have hp : 10 ^ m ≤ 10 ^ 12 := Nat.pow_le_pow_right (by omega) h4
  have e : 10 ^ 12 = 1000000000000 := rfl
  omega
theorem Acc.dig {x m d : Nat} (h : Acc x m d) (hm : m < 12) (g : Nat) (hg : g ≤ 9) : Acc (10 * x + g) (m + 1) d := by
  obtain ⟨h1, h2, h3, h4⟩ := h
  unfold Acc
  rw [Nat.pow_succ]
  generalize 10 ^ m = P at *
  omega
theorem Acc.dig10 {x m d : Nat} (h : Acc x m d) (hm : m < 12) (g : Nat) (hg : g ≤ 9) : Acc (10 * x + g) (m + 1) (d * 10) := by
  obtain ⟨h1, h2, h3, h4⟩ := h
  unfold Acc
  rw [Nat.pow_succ]
  generalize 10 ^ m = P at *
  omega

set_option maxRecDepth 100000 in
set_option maxHeartbeats 8000000 in
/-- the number that a text is: something is said, or nothing -/
theorem Read_some (s : ByteArray) (hs : s.size ≤ 1000) (w : World) : Calls Tryz.prog 223 #[.string s] w fun e w' => ∃ v : SV, (OkNum v ∨ Odd6 v) ∧ e = .returned (svV v) ∧ Below w.heap.size w w' := by
  go_enter Tryz.func223, Tryz.ntmps223
  go_upto_region 2 with fail
  have hB0 := Bk.new w 27 #[.int .i64 0, .int .i64 0, .int .i64 0, .string ⟨#[]⟩, .slice none 0 0]
  have hd0 : Below w.heap.size w (w.alloc (.cells #[.int .i64 0, .int .i64 0, .int .i64 0, .string ⟨#[]⟩, .slice none 0 0] 27)) := (Below.refl _ _).alloc (Nat.le_refl _) _
  generalize w.alloc (.cells #[.int .i64 0, .int .i64 0, .int .i64 0, .string ⟨#[]⟩, .slice none 0 0] 27) = W at *
  go_cut [19] (fun s19 wx => ∃ c : Bool, s19 = .bool c ∧ Hid (c = true → 1 ≤ s.size) ∧ wx = W)
  case first =>
    by_cases h0 : s.size = 0
    · go_wp2_with fail
      all_goals go_meet
      all_goals exact ⟨false, rfl, (fun h => by cases h), rfl⟩
    · have h00 : 0 < s.size := by omega
      go_wp2_with fail
      all_goals go_meet
      all_goals exact ⟨_, rfl, (fun _ => by omega), rfl⟩
  case rest =>
  obtain ⟨c, rfl, hc, rfl⟩ := hcut
  go_upto_if 19 with fail
  go_cut [3, 4] (fun s3 s4 wx => ∃ (k0 : Nat) (mn : Bool), k0 ≤ s.size ∧ s3 = .int .i64 (k0 : Int) ∧ s4 = .bool mn ∧ wx = wc)
  case first =>
    cases c
    · go_wp2_with fail
      go_meet
      exact ⟨0, false, Nat.zero_le _, rfl, rfl, rfl⟩
    · go_wp2_with fail
      go_meet
      exact ⟨1, true, hc.out (by first | rfl | trivial), rfl, rfl, rfl⟩
  case rest =>
    obtain ⟨k0, mn, hk0, rfl, rfl, rfl⟩ := hcut
    go_wp2_with fail
    go_loop [3, 5, 6, 7, 8] (fun i1 i2 i3 i4 i5 => ∃ (k x m d : Nat) (pt : Bool), k ≤ s.size ∧ i1 = .int .i64 (k : Int) ∧ i2 = .int .i64 (x : Int) ∧ i3 = .int .i64 (m : Int) ∧ i4 = .int .i64 (d : Int) ∧ i5 = .bool pt ∧ Hid (Acc x m d)) (fun i1 _ _ _ _ => s.size - (intOf i1).toNat)
    case atStart => exact ⟨k0, 0, 0, 1, false, hk0, rfl, rfl, rfl, rfl, rfl, by show Acc 0 0 1; unfold Acc; omega⟩
    case round =>
      obtain ⟨k, x, m, d, pt, hk, rfl, rfl, rfl, rfl, rfl, hacc⟩ := hrel
      obtain ⟨hxb, hdb, hd1⟩ := hacc.out.bound
      have hm12 : m ≤ 12 := hacc.out.2.2.2
      by_cases hlt : k < s.size
      · have hb8 := UInt8.toNat_lt (s[k]'hlt)
        have hkz : (0 : Int) ≤ (k : Int) := by omega
        have hkn : (k : Int) < (s.size : Int) := by omega
        obtain ⟨b, hb⟩ : ∃ b, (s[k]'hlt).toNat = b := ⟨_, rfl⟩
        rw [hb] at hb8
        by_cases h1 : 48 ≤ b ∧ b ≤ 57 ∧ m < 12
        · obtain ⟨h11, h12, h13⟩ := h1
          have A1 := hid (hacc.out.dig h13 (b - 48) (by omega))
          have A2 := hid (hacc.out.dig10 h13 (b - 48) (by omega))
          cases pt
          · go_wp2_with fail
            go_round
            case rel => exact ⟨k + 1, 10 * x + (b - 48), m + 1, d, false, by omega, by go_num, by go_num, by go_num, rfl, rfl, A1.out⟩
            case measure => simp [intOf]; omega
          · go_wp2_with fail
            go_round
            case rel => exact ⟨k + 1, 10 * x + (b - 48), m + 1, d * 10, true, by omega, by go_num, by go_num, by go_num, by go_num, rfl, A2.out⟩
            case measure => simp [intOf]; omega
        by_cases h2 : b = 46 ∧ pt = false ∧ 0 < m ∧ k + 1 < s.size
        · obtain ⟨h21, h22, h23, h24⟩ := h2
          subst h22
          subst h21
          clear h1
          go_wp2_with fail
          go_round
          case rel => exact ⟨k + 1, x, m, d, true, by omega, by go_num, rfl, rfl, rfl, rfl, hacc.out⟩
          case measure => simp [intOf]; omega
        have h1' : b < 48 ∨ 57 < b ∨ 12 ≤ m := by omega
        have h2' : b ≠ 46 ∨ pt = true ∨ m = 0 ∨ s.size ≤ k + 1 := by
          by_cases g : b = 46 <;> cases pt <;> simp_all <;> omega
        clear h1 h2
        rcases h1' with h1' | h1' | h1' <;> rcases h2' with h2' | h2' | h2' | h2'
        all_goals try subst h2'
        all_goals try (exfalso; omega)
        all_goals
          go_wp2_with fail
          all_goals
            refine (other_some s hs _).mono ?_
            rintro e w2 ⟨v, hv, rfl, hb2⟩
            have hB2 := hB0.below hb2 hB0.lt
            have hd2 := Below.lift hd0 hd0.size hb2
            obtain ⟨q0, q1, q2, q3, q4, qf⟩ := hB2.cells5
            have HV := hid hv
            clear hv hb2
            unfold svV sv
            go_wp2_with fail
            exact end_cell Tryz.results223 rfl (Bk.set5 hB2 _ _ _ _ _) Tryz.underlying27 rfl info_sv rfl ⟨v, .inr HV.out, rfl, Below.set5 hd2 (Nat.le_refl _) _ _ _ _ _⟩
      · have hkl : k = s.size := by omega
        subst hkl
        clear hk hlt
        by_cases h0 : m = 0
        · subst h0
          go_wp2_with fail
          refine (other_some s hs _).mono ?_
          rintro e w2 ⟨v, hv, rfl, hb2⟩
          have hB2 := hB0.below hb2 hB0.lt
          have hd2 := Below.lift hd0 hd0.size hb2
          obtain ⟨q0, q1, q2, q3, q4, qf⟩ := hB2.cells5
          have HV := hid hv
          clear hv hb2
          unfold svV sv
          go_wp2_with fail
          exact end_cell Tryz.results223 rfl (Bk.set5 hB2 _ _ _ _ _) Tryz.underlying27 rfl info_sv rfl ⟨v, .inr HV.out, rfl, Below.set5 hd2 (Nat.le_refl _) _ _ _ _ _⟩
        have hm0 : ((m : Int) == 0) = false := by rw [beq_eq_false_iff_ne]; omega
        by_cases h5 : 100000 < d
        · go_wp2_with fail
          refine (other_some s hs _).mono ?_
          rintro e w2 ⟨v, hv, rfl, hb2⟩
          have hB2 := hB0.below hb2 hB0.lt
          have hd2 := Below.lift hd0 hd0.size hb2
          obtain ⟨q0, q1, q2, q3, q4, qf⟩ := hB2.cells5
          have HV := hid hv
          clear hv hb2
          unfold svV sv
          go_wp2_with fail
          exact end_cell Tryz.results223 rfl (Bk.set5 hB2 _ _ _ _ _) Tryz.underlying27 rfl info_sv rfl ⟨v, .inr HV.out, rfl, Below.set5 hd2 (Nat.le_refl _) _ _ _ _ _⟩
        cases mn
        · go_wp2_with fail
          refine (frac_some (x : Int) (d : Int) _ (by omega) (by omega) (by omega) (by omega)).mono ?_
          rintro e w2 ⟨v, hv, rfl, hb2⟩
          have hB2 := hB0.below hb2 hB0.lt
          have hd2 := Below.lift hd0 hd0.size hb2
          obtain ⟨q0, q1, q2, q3, q4, qf⟩ := hB2.cells5
          have HV := hid hv
          clear hv hb2
          unfold svV sv
          go_wp2_with fail
          exact end_cell Tryz.results223 rfl (Bk.set5 hB2 _ _ _ _ _) Tryz.underlying27 rfl info_sv rfl ⟨v, .inl HV.out, rfl, Below.set5 hd2 (Nat.le_refl _) _ _ _ _ _⟩
        · go_wp2_with fail
          refine (frac_some (-(x : Int)) (d : Int) _ (by omega) (by omega) (by omega) (by omega)).mono ?_
          rintro e w2 ⟨v, hv, rfl, hb2⟩
          have hB2 := hB0.below hb2 hB0.lt
          have hd2 := Below.lift hd0 hd0.size hb2
          obtain ⟨q0, q1, q2, q3, q4, qf⟩ := hB2.cells5
          have HV := hid hv
          clear hv hb2
          unfold svV sv
          go_wp2_with fail
          exact end_cell Tryz.results223 rfl (Bk.set5 hB2 _ _ _ _ _) Tryz.underlying27 rfl info_sv rfl ⟨v, .inl HV.out, rfl, Below.set5 hd2 (Nat.le_refl _) _ _ _ _ _⟩
end Go.Proofs.YtjnlghokhlmjlaaGreatDoor
