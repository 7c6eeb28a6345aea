import Derived.Test.YtjnlghokhlmjlaaGreatDoorRead
namespace Go.Proofs.YtjnlghokhlmjlaaGreatDoor
open Go.RowKit
attribute [local go_sem] run_store_float

def lwb (c : Nat) : Nat := if 65 ≤ c ∧ c ≤ 90 then c + 32 else c
theorem lwb_lt {c : Nat} (h : c < 256) : lwb c < 256 := by unfold lwb; split <;> omega
theorem Lower_fix (c : Nat) (hc : c < 256) (w : World) : Calls Tryz.prog 212 #[.int .u8 c] w fun e w' => e = .returned (.int .u8 (lwb c : Nat)) ∧ w = w' := by
  by_cases h1 : 65 ≤ c
  · by_cases h2 : c ≤ 90
    · have e : Hid (lwb c = c + 32) := if_pos ⟨h1, h2⟩
      go_enter Tryz.func212, Tryz.ntmps212
      go_wp2_with fail
      go_ret
      exact ⟨by rw [e.out]; first | rfl | simp, rfl⟩
    · have e : Hid (lwb c = c) := if_neg (by omega)
      go_enter Tryz.func212, Tryz.ntmps212
      go_wp2_with fail
      go_ret
      exact ⟨by rw [e.out]; rfl, rfl⟩
  · have e : Hid (lwb c = c) := if_neg (by omega)
    go_enter Tryz.func212, Tryz.ntmps212
    go_wp2_with fail
    go_ret
    exact ⟨by rw [e.out]; rfl, rfl⟩
def fb (c : UInt8) : UInt8 := UInt8.ofNat (lwb c.toNat)
theorem fb_nat (c : UInt8) : (fb c).toNat = lwb c.toNat := by
  have := lwb_lt (UInt8.toNat_lt c)
  unfold fb; simp; omega
def lowTo (L : List UInt8) (k : Nat) : List UInt8 := (L.take k).map fb ++ L.drop k
def lowS (s : ByteArray) : ByteArray := ⟨(s.data.toList.map fb).toArray⟩
theorem lowS_size (s : ByteArray) : (lowS s).size = s.size := by
  show (s.data.toList.map fb).toArray.size = _
  rw [List.size_toArray, List.length_map, Array.length_toList]; rfl
theorem lowTo_len (L : List UInt8) (k : Nat) : (lowTo L k).length = L.length := by
  unfold lowTo; simp; omega
theorem lowTo_succ (L : List UInt8) (k : Nat) (hk : k < L.length) : (lowTo L k).set k (fb L[k]) = lowTo L (k + 1) := by
  unfold lowTo
  have hl : ((L.take k).map fb).length = k := by simp; omega
  rw [List.drop_eq_getElem_cons hk, List.set_append_right _ _ (by omega), hl, Nat.sub_self, List.set_cons_zero, List.take_add_one, List.getElem?_eq_getElem hk, List.map_append, List.append_assoc]
  rfl
theorem lowTo_at (L : List UInt8) (k : Nat) (hk : k < L.length) (hk' : k < (lowTo L k).length) : (lowTo L k)[k]'hk' = L[k] := by
  have hl : ((L.take k).map fb).length = k := by simp; omega
  have h : (lowTo L k)[k]? = some L[k] := by
    unfold lowTo
    rw [List.getElem?_append_right (by omega), hl, Nat.sub_self, List.getElem?_drop, Nat.add_zero, List.getElem?_eq_getElem hk]
  rw [List.getElem?_eq_getElem hk'] at h
  exact Option.some.inj h
set_option maxRecDepth 100000 in
theorem lower_fix (s : ByteArray) (hs : s.size ≤ 1000) (w : World) : Calls Tryz.prog 189 #[.string s] w fun e w' => e = .returned (.string (lowS s)) ∧ Below w.heap.size w w' := by
  have hcv := Lib.run_convert_string_bytes (P := Tryz.prog) w 9 125 5 s Tryz.underlying9 Tryz.underlying125 Tryz.underlying5
  have hbn := hid (BytesAt.new w s)
  have hbl := Lib.bytesWorld_below w 5 s
  generalize grownCap w s.size 0 5 = cap at *
  go_enter Tryz.func189, Tryz.ntmps189
  go_wp2_with fail
  generalize Lib.bytesWorld w 5 s = W at *
  clear hcv
  have hlen : s.data.toList.length = s.size := by rw [Array.length_toList]; rfl
  go_loopw [4] (fun i wr => ∃ (k : Nat) (l : List UInt8), k ≤ s.size ∧ i = .int .i64 (k : Int) ∧ Hid (l = lowTo s.data.toList k ∧ l.length = s.size) ∧ Hid (BytesAt wr w.heap.size l) ∧ Below w.heap.size w wr) (fun i _ => s.size - (intOf i).toNat)
  case atStart => exact ⟨0, s.data.toList, Nat.zero_le _, rfl, ⟨by simp [lowTo], hlen⟩, hbn.out, hbl⟩
  case round =>
    clear hlen hbl hbn
    obtain ⟨k, l, hk, rfl, hl2, hB, hb⟩ := hrel
    have hl : Hid (l.length = s.size) := hl2.out.2
    by_cases hlt : k < s.size
    · obtain ⟨g0, gf⟩ := hB.out k (by rw [hl.out]; exact hlt)
      have hx := UInt8.toNat_lt (l[k]'(by rw [hl.out]; exact hlt))
      have hkL : k < s.data.toList.length := by rw [Array.length_toList]; exact hlt
      have hat : Hid (l[k]'(by rw [hl.out]; exact hlt) = s.data.toList[k]) := by
        show _ = _
        have := hl2.out.1
        subst this
        exact lowTo_at _ k hkL _
      have hnew : Hid (l.set k (UInt8.ofNat (lwb (l[k]'(by rw [hl.out]; exact hlt)).toNat)) = lowTo s.data.toList (k + 1)) := by
        show _ = _
        rw [hat.out]
        have := hl2.out.1
        subst this
        exact lowTo_succ _ k hkL
      clear hat
      generalize (l[k]'(by rw [hl.out]; exact hlt)).toNat = x at *
      have HL := hid (fun d hd => (hB.out).set_ (k := k) d hd)
      have hk0 : (0 : Int) ≤ (k : Int) := by omega
      have hk1 : (k : Int) < (s.size : Int) := by omega
      go_wp2_with fail
      refine (Lower_fix x (by omega) _).mono ?_
      rintro e w1 ⟨rfl, rfl⟩
      have HL2 := hid (HL.out (lwb x) (lwb_lt (by omega)))
      generalize lwb x = d at *
      clear HL
      go_wp2_with fail
      go_roundw
      case rel => exact ⟨k + 1, l.set k (UInt8.ofNat d), by omega, by go_num, ⟨hnew.out, by rw [List.length_set]; exact hl.out⟩, HL2.out, Below.setCell hb (by simp) _⟩
      case measure => simp [intOf]; omega
    · have hkl : k = s.size := by omega
      subst hkl
      have hcv := run_convert_bytes_back (P := Tryz.prog) wr 125 9 5 ⟨w.heap.size, 0, none⟩ cap l Tryz.underlying125 Tryz.underlying5 Tryz.underlying9 (fun j hj => by
        have := (hB.out j hj).1
        have e : (⟨w.heap.size, 0, none⟩ : Addr).add j = ⟨w.heap.size, j, none⟩ := by unfold Addr.add; split <;> simp_all
        rw [e]; exact this)
      rw [hl.out] at hcv
      go_wp2_with fail
      go_ret
      have e : Hid (l = s.data.toList.map fb) := by
        show _ = _
        rw [hl2.out.1]; unfold lowTo
        rw [List.take_of_length_le (by rw [Array.length_toList]; exact Nat.le_refl _), List.drop_of_length_le (by rw [Array.length_toList]; exact Nat.le_refl _), List.append_nil]
      exact ⟨by rw [e.out]; rfl, hb⟩


set_option maxRecDepth 100000 in
set_option maxHeartbeats 4000000 in
theorem month_fix (s : ByteArray) (hs : s.size ≤ 1000) : ∃ b : Bool, ∀ w, Calls Tryz.prog 268 #[.string s] w fun e w' => e = .returned (.bool b) ∧ w = w' := by
  by_cases h : s.size < 3
  · refine ⟨false, fun w => ?_⟩
    go_enter Tryz.func268, Tryz.ntmps268
    go_wp2_with fail
    go_ret
    exact ⟨rfl, rfl⟩
  obtain ⟨u, hu⟩ : ∃ u, s.extract 0 3 = u := ⟨_, rfl⟩
  have h3 : 3 ≤ s.size := by omega
  by_cases e0 : (u.toList == [106, 97, 110]) = true
  · refine ⟨true, fun w => ?_⟩
    go_enter Tryz.func268, Tryz.ntmps268
    go_wp2_with fail
    go_ret
    exact ⟨rfl, rfl⟩
  have q0 : (u.toList == [106, 97, 110]) = false := by cases h9 : (u.toList == [106, 97, 110]) with | false => rfl | true => exact absurd h9 e0
  clear e0
  by_cases e1 : (u.toList == [102, 101, 98]) = true
  · refine ⟨true, fun w => ?_⟩
    go_enter Tryz.func268, Tryz.ntmps268
    go_wp2_with fail
    go_ret
    exact ⟨rfl, rfl⟩
  have q1 : (u.toList == [102, 101, 98]) = false := by cases h9 : (u.toList == [102, 101, 98]) with | false => rfl | true => exact absurd h9 e1
  clear e1
  by_cases e2 : (u.toList == [109, 97, 114]) = true
  · refine ⟨true, fun w => ?_⟩
    go_enter Tryz.func268, Tryz.ntmps268
    go_wp2_with fail
    go_ret
    exact ⟨rfl, rfl⟩
  have q2 : (u.toList == [109, 97, 114]) = false := by cases h9 : (u.toList == [109, 97, 114]) with | false => rfl | true => exact absurd h9 e2
  clear e2
  by_cases e3 : (u.toList == [97, 112, 114]) = true
  · refine ⟨true, fun w => ?_⟩
    go_enter Tryz.func268, Tryz.ntmps268
    go_wp2_with fail
    go_ret
    exact ⟨rfl, rfl⟩
  have q3 : (u.toList == [97, 112, 114]) = false := by cases h9 : (u.toList == [97, 112, 114]) with | false => rfl | true => exact absurd h9 e3
  clear e3
  by_cases e4 : (u.toList == [109, 97, 121]) = true
  · refine ⟨true, fun w => ?_⟩
    go_enter Tryz.func268, Tryz.ntmps268
    go_wp2_with fail
    go_ret
    exact ⟨rfl, rfl⟩
  have q4 : (u.toList == [109, 97, 121]) = false := by cases h9 : (u.toList == [109, 97, 121]) with | false => rfl | true => exact absurd h9 e4
  clear e4
  by_cases e5 : (u.toList == [106, 117, 110]) = true
  · refine ⟨true, fun w => ?_⟩
    go_enter Tryz.func268, Tryz.ntmps268
    go_wp2_with fail
    go_ret
    exact ⟨rfl, rfl⟩
  have q5 : (u.toList == [106, 117, 110]) = false := by cases h9 : (u.toList == [106, 117, 110]) with | false => rfl | true => exact absurd h9 e5
  clear e5
  by_cases e6 : (u.toList == [106, 117, 108]) = true
  · refine ⟨true, fun w => ?_⟩
    go_enter Tryz.func268, Tryz.ntmps268
    go_wp2_with fail
    go_ret
    exact ⟨rfl, rfl⟩
  have q6 : (u.toList == [106, 117, 108]) = false := by cases h9 : (u.toList == [106, 117, 108]) with | false => rfl | true => exact absurd h9 e6
  clear e6
  by_cases e7 : (u.toList == [97, 117, 103]) = true
  · refine ⟨true, fun w => ?_⟩
    go_enter Tryz.func268, Tryz.ntmps268
    go_wp2_with fail
    go_ret
    exact ⟨rfl, rfl⟩
  have q7 : (u.toList == [97, 117, 103]) = false := by cases h9 : (u.toList == [97, 117, 103]) with | false => rfl | true => exact absurd h9 e7
  clear e7
  by_cases e8 : (u.toList == [115, 101, 112]) = true
  · refine ⟨true, fun w => ?_⟩
    go_enter Tryz.func268, Tryz.ntmps268
    go_wp2_with fail
    go_ret
    exact ⟨rfl, rfl⟩
  have q8 : (u.toList == [115, 101, 112]) = false := by cases h9 : (u.toList == [115, 101, 112]) with | false => rfl | true => exact absurd h9 e8
  clear e8
  by_cases e9 : (u.toList == [111, 99, 116]) = true
  · refine ⟨true, fun w => ?_⟩
    go_enter Tryz.func268, Tryz.ntmps268
    go_wp2_with fail
    go_ret
    exact ⟨rfl, rfl⟩
  have q9 : (u.toList == [111, 99, 116]) = false := by cases h9 : (u.toList == [111, 99, 116]) with | false => rfl | true => exact absurd h9 e9
  clear e9
  by_cases e10 : (u.toList == [110, 111, 118]) = true
  · refine ⟨true, fun w => ?_⟩
    go_enter Tryz.func268, Tryz.ntmps268
    go_wp2_with fail
    go_ret
    exact ⟨rfl, rfl⟩
  have q10 : (u.toList == [110, 111, 118]) = false := by cases h9 : (u.toList == [110, 111, 118]) with | false => rfl | true => exact absurd h9 e10
  clear e10
  by_cases e11 : (u.toList == [100, 101, 99]) = true
  · refine ⟨true, fun w => ?_⟩
    go_enter Tryz.func268, Tryz.ntmps268
    go_wp2_with fail
    go_ret
    exact ⟨rfl, rfl⟩
  have q11 : (u.toList == [100, 101, 99]) = false := by cases h9 : (u.toList == [100, 101, 99]) with | false => rfl | true => exact absurd h9 e11
  clear e11
  by_cases e12 : (u.toList == [109, 111, 110]) = true
  · refine ⟨true, fun w => ?_⟩
    go_enter Tryz.func268, Tryz.ntmps268
    go_wp2_with fail
    go_ret
    exact ⟨rfl, rfl⟩
  have q12 : (u.toList == [109, 111, 110]) = false := by cases h9 : (u.toList == [109, 111, 110]) with | false => rfl | true => exact absurd h9 e12
  clear e12
  by_cases e13 : (u.toList == [116, 117, 101]) = true
  · refine ⟨true, fun w => ?_⟩
    go_enter Tryz.func268, Tryz.ntmps268
    go_wp2_with fail
    go_ret
    exact ⟨rfl, rfl⟩
  have q13 : (u.toList == [116, 117, 101]) = false := by cases h9 : (u.toList == [116, 117, 101]) with | false => rfl | true => exact absurd h9 e13
  clear e13
  by_cases e14 : (u.toList == [119, 101, 100]) = true
  · refine ⟨true, fun w => ?_⟩
    go_enter Tryz.func268, Tryz.ntmps268
    go_wp2_with fail
    go_ret
    exact ⟨rfl, rfl⟩
  have q14 : (u.toList == [119, 101, 100]) = false := by cases h9 : (u.toList == [119, 101, 100]) with | false => rfl | true => exact absurd h9 e14
  clear e14
  by_cases e15 : (u.toList == [116, 104, 117]) = true
  · refine ⟨true, fun w => ?_⟩
    go_enter Tryz.func268, Tryz.ntmps268
    go_wp2_with fail
    go_ret
    exact ⟨rfl, rfl⟩
  have q15 : (u.toList == [116, 104, 117]) = false := by cases h9 : (u.toList == [116, 104, 117]) with | false => rfl | true => exact absurd h9 e15
  clear e15
  by_cases e16 : (u.toList == [102, 114, 105]) = true
  · refine ⟨true, fun w => ?_⟩
    go_enter Tryz.func268, Tryz.ntmps268
    go_wp2_with fail
    go_ret
    exact ⟨rfl, rfl⟩
  have q16 : (u.toList == [102, 114, 105]) = false := by cases h9 : (u.toList == [102, 114, 105]) with | false => rfl | true => exact absurd h9 e16
  clear e16
  by_cases e17 : (u.toList == [115, 97, 116]) = true
  · refine ⟨true, fun w => ?_⟩
    go_enter Tryz.func268, Tryz.ntmps268
    go_wp2_with fail
    go_ret
    exact ⟨rfl, rfl⟩
  have q17 : (u.toList == [115, 97, 116]) = false := by cases h9 : (u.toList == [115, 97, 116]) with | false => rfl | true => exact absurd h9 e17
  clear e17
  by_cases e18 : (u.toList == [115, 117, 110]) = true
  · refine ⟨true, fun w => ?_⟩
    go_enter Tryz.func268, Tryz.ntmps268
    go_wp2_with fail
    go_ret
    exact ⟨rfl, rfl⟩
  have q18 : (u.toList == [115, 117, 110]) = false := by cases h9 : (u.toList == [115, 117, 110]) with | false => rfl | true => exact absurd h9 e18
  clear e18
  refine ⟨false, fun w => ?_⟩
  go_enter Tryz.func268, Tryz.ntmps268
  go_wp2_with fail
  go_ret
  exact ⟨rfl, rfl⟩
end Go.Proofs.YtjnlghokhlmjlaaGreatDoor
