import Derived.Test.YtdanlcciefbboaaGreatItem
import Derived.Test.YtdanlcciefbboaaGreatSelf
import Derived.Lib.ConvBytes
import Derived.Lib.AtoiErrMem
import Derived.Laws.IdiomStrings
import Derived.Deep.RegionHeld3
import Derived.IntWalk
namespace Go.Proofs.YtdanlcciefbboaaGreat
open Go.RowKit
attribute [local go_sem] run_store_float

/-! what the reference reads in a text, as far as it matters here: every function comes back -/
theorem Lower_some (c : Nat) (hc : c < 256) (w : World) : Calls Tryz.prog 188 #[.int .u8 c] w fun e w' => ∃ d : Nat, d < 256 ∧ e = .returned (.int .u8 d) ∧ w = w' := by
  by_cases h1 : 65 ≤ c
  · by_cases h2 : c ≤ 90
    · go_enter Tryz.func188, Tryz.ntmps188
      go_wp2_with fail
      go_ret
      exact ⟨c + 32, by omega, by first | rfl | simp, rfl⟩
    · go_enter Tryz.func188, Tryz.ntmps188
      go_wp2_with fail
      go_ret
      exact ⟨c, by omega, rfl, rfl⟩
  · go_enter Tryz.func188, Tryz.ntmps188
    go_wp2_with fail
    go_ret
    exact ⟨c, by omega, rfl, rfl⟩

def BytesAt (w : World) (b : Nat) (l : List UInt8) : Prop := ∀ j (hj : j < l.length), w.cell? ⟨b, j, none⟩ = some (.int .u8 (l[j].toNat : Int)) ∧ w.frozen? ⟨b, j, none⟩ = false
theorem BytesAt.set_ {w : World} {b k : Nat} {l : List UInt8} (h : BytesAt w b l) (d : Nat) (hd : d < 256) : BytesAt (w.setCell ⟨b, k, none⟩ (.int .u8 (d : Int))) b (l.set k (UInt8.ofNat d)) := by
  intro j hj
  rw [List.length_set] at hj
  obtain ⟨h1, h2⟩ := h j hj
  refine ⟨?_, by rw [World.frozen?_setCell]; exact h2⟩
  rw [List.getElem_set]
  by_cases hjk : k = j
  · subst hjk
    rw [if_pos rfl, World.cell?_setCell_same (h := h1)]
    have : (UInt8.ofNat d).toNat = d := by simp; omega
    rw [this]
  · rw [if_neg hjk, World.cell?_setCell_other (h := by intro hh; injection hh with _ h3; exact hjk h3)]
    exact h1
theorem BytesAt.new (w : World) (s : ByteArray) : BytesAt (Lib.bytesWorld w 5 s) w.heap.size s.data.toList := by
  intro j hj
  have hj' : j < s.size := by rw [Array.length_toList] at hj; exact hj
  refine ⟨?_, ?_⟩
  · rw [Lib.bytesWorld_cell w _ s j hj']
    congr 2
    rw [List.getD_eq_getElem?_getD, List.getElem?_eq_getElem hj]; rfl
  · have hb := Lib.bytesWorld_at_new w 5 s
    have hsz : s.size ≤ (Lib.bytesCells w 5 s).size := by unfold Lib.bytesCells; rw [Array.size_append, Array.size_map]; exact Nat.le_add_right _ _
    simp [World.frozen?, hb]
    omega

set_option maxRecDepth 100000 in
theorem lower_some (s : ByteArray) (hs : s.size ≤ 2147483647) (w : World) : Calls Tryz.prog 165 #[.string s] w fun e w' => ∃ t : ByteArray, t.size = s.size ∧ e = .returned (.string t) ∧ Below w.heap.size w w' := by
  have hcv := Lib.run_convert_string_bytes (P := Tryz.prog) w 9 153 5 s Tryz.underlying9 Tryz.underlying153 Tryz.underlying5
  have hbn := hid (BytesAt.new w s)
  have hbl := Lib.bytesWorld_below w 5 s
  generalize grownCap w s.size 0 5 = cap at *
  go_enter Tryz.func165, Tryz.ntmps165
  go_wp2_with fail
  generalize Lib.bytesWorld w 5 s = W at *
  clear hcv
  have hlen : s.data.toList.length = s.size := by rw [Array.length_toList]; rfl
  go_loopw [4] (fun i wr => ∃ (k : Nat) (l : List UInt8), k ≤ s.size ∧ i = .int .i64 (k : Int) ∧ Hid (l.length = s.size) ∧ Hid (BytesAt wr w.heap.size l) ∧ Below w.heap.size w wr) (fun i _ => s.size - (intOf i).toNat)
  case atStart => exact ⟨0, s.data.toList, Nat.zero_le _, rfl, hlen, hbn.out, hbl⟩
  case round =>
    clear hlen hbl hbn
    obtain ⟨k, l, hk, rfl, hl, hB, hb⟩ := hrel
    by_cases hlt : k < s.size
    · obtain ⟨g0, gf⟩ := hB.out k (by rw [hl.out]; exact hlt)
      have hx := UInt8.toNat_lt (l[k]'(by rw [hl.out]; exact hlt))
      generalize (l[k]'(by rw [hl.out]; exact hlt)).toNat = x at *
      have HL := hid (fun d hd => (hB.out).set_ (k := k) d hd)
      have hk0 : (0 : Int) ≤ (k : Int) := by omega
      have hk1 : (k : Int) < (s.size : Int) := by omega
      go_wp2_with fail
      refine (Lower_some x (by omega) _).mono ?_
      rintro e w1 ⟨d, hd, rfl, rfl⟩
      have HL2 := hid (HL.out d hd)
      clear HL
      go_wp2_with fail
      go_roundw
      case rel => exact ⟨k + 1, l.set k (UInt8.ofNat d), by omega, by go_num, by show _ = _; rw [List.length_set]; exact hl.out, HL2.out, Below.setCell hb (by simp) _⟩
      case measure => simp [intOf]; omega
    · have hkl : k = s.size := by omega
      subst hkl
      have hcv := run_convert_bytes_back (P := Tryz.prog) wr 153 9 5 ⟨w.heap.size, 0, none⟩ cap l Tryz.underlying153 Tryz.underlying5 Tryz.underlying9 (fun j hj => by
        have := (hB.out j hj).1
        have e : (⟨w.heap.size, 0, none⟩ : Addr).add j = ⟨w.heap.size, j, none⟩ := by unfold Addr.add; split <;> simp_all
        rw [e]; exact this)
      rw [hl.out] at hcv
      go_wp2_with fail
      go_ret
      exact ⟨_, by rw [← hl.out]; exact List.size_toArray, rfl, hb⟩

theorem month_some (s : ByteArray) (hs : s.size ≤ 2147483647) (w : World) : Calls Tryz.prog 225 #[.string s] w fun e w' => ∃ b : Bool, e = .returned (.bool b) ∧ w = w' := by
  by_cases h : s.size < 3
  · go_enter Tryz.func225, Tryz.ntmps225
    go_wp2_with fail
    go_ret
    exact ⟨_, rfl, rfl⟩
  · go_enter Tryz.func225, Tryz.ntmps225
    go_wp2_with fail
    all_goals
      go_ret
      exact ⟨_, rfl, rfl⟩

def valS : ByteArray := ⟨#[35, 86, 65, 76, 85, 69, 33]⟩
def Odd6 (v : SV) : Prop := v = (6, 0, 0, es) ∨ v = (4, 0, 0, valS)

set_option maxRecDepth 100000 in
set_option maxHeartbeats 2000000 in
/-- what a text is that is no plain number -/
theorem other_some (s : ByteArray) (hs : s.size ≤ 2147483647) (w : World) : Calls Tryz.prog 207 #[.string s] w fun e w' => ∃ v : SV, Odd6 v ∧ e = .returned (svV v) ∧ Below w.heap.size w w' := by
  go_enter Tryz.func207, Tryz.ntmps207
  go_wp2_with fail
  have hB0 := Bk.new w 34 #[.int .i64 0, .int .i64 0, .int .i64 0, .string ⟨#[]⟩, .slice none 0 0]
  have hd0 : Below w.heap.size w (w.alloc (.cells #[.int .i64 0, .int .i64 0, .int .i64 0, .string ⟨#[]⟩, .slice none 0 0] 34)) := (Below.refl _ _).alloc (Nat.le_refl _) _
  generalize w.alloc (.cells #[.int .i64 0, .int .i64 0, .int .i64 0, .string ⟨#[]⟩, .slice none 0 0] 34) = W at *
  go_loop [3] (fun i => ∃ k : Nat, k ≤ s.size ∧ i = .int .i64 (k : Int)) (fun i => s.size - (intOf i).toNat)
  case atStart => exact ⟨0, Nat.zero_le _, rfl⟩
  case round =>
    obtain ⟨k, hk, rfl⟩ := hrel
    by_cases hlt : k < s.size
    · have hx := UInt8.toNat_lt (s[k]'hlt)
      have hk0 : (0 : Int) ≤ (k : Int) := by omega
      have hk1 : (k : Int) < (s.size : Int) := by omega
      go_wp2_with fail
      generalize (s[k]'hlt).toNat = x at *
      refine (Lower_some x (by omega) _).mono ?_
      rintro e w1 ⟨d, hd, rfl, rfl⟩
      by_cases h1 : d < 97
      · go_wp2_with fail
        refine (doubt_any _).mono ?_
        rintro e w2 ⟨rfl, hb2⟩
        have hB2 := hB0.below hb2 hB0.lt
        have hd2 := Below.lift hd0 hd0.size hb2
        obtain ⟨q0, q1, q2, q3, q4, qf⟩ := hB2.cells5
        unfold sv
        go_wp2_with fail
        exact end_cell Tryz.results207 rfl (Bk.set5 hB2 _ _ _ _ _) Tryz.underlying34 rfl info_sv rfl ⟨(6, 0, 0, es), .inl rfl, rfl, Below.set5 hd2 (Nat.le_refl _) _ _ _ _ _⟩
      by_cases h2 : 122 < d
      · go_wp2_with fail
        refine (doubt_any _).mono ?_
        rintro e w2 ⟨rfl, hb2⟩
        have hB2 := hB0.below hb2 hB0.lt
        have hd2 := Below.lift hd0 hd0.size hb2
        obtain ⟨q0, q1, q2, q3, q4, qf⟩ := hB2.cells5
        unfold sv
        go_wp2_with fail
        exact end_cell Tryz.results207 rfl (Bk.set5 hB2 _ _ _ _ _) Tryz.underlying34 rfl info_sv rfl ⟨(6, 0, 0, es), .inl rfl, rfl, Below.set5 hd2 (Nat.le_refl _) _ _ _ _ _⟩
      go_wp2_with fail
      go_round
      case rel => exact ⟨k + 1, by omega, by go_num⟩
      case measure => simp [intOf]; omega
    · have hkl : k = s.size := by omega
      subst hkl
      clear hk hlt
      go_wp2_with fail
      refine (lower_some s hs _).mono ?_
      rintro e w2 ⟨t, ht, rfl, hb2⟩
      have hB2 := hB0.below hb2 hB0.lt
      have hd2 := Below.lift hd0 hd0.size hb2
      clear hb2
      have HT := hid ht
      clear ht
      go_wp2_with (first
        | (go_at_call 33; have hd3' := hd3; refine (doubt_any _).mono ?_; rintro e w4 ⟨rfl, hb4⟩; have hB4 := hB3.below hb4 hB3.lt; have hd4 := Below.lift hd3 hd3.size hb4; obtain ⟨q0, q1, q2, q3, q4, qf⟩ := hB4.cells5; unfold sv)
        | (go_at_call 33; refine (doubt_any _).mono ?_; rintro e w4 ⟨rfl, hb4⟩; have hB4 := hB2.below hb4 hB2.lt; have hd4 := Below.lift hd2 hd2.size hb4; obtain ⟨q0, q1, q2, q3, q4, qf⟩ := hB4.cells5; unfold sv)
        | (go_at_call 165; refine (lower_some s hs _).mono ?_; rintro e w3 ⟨t2, ht2, rfl, hb3⟩; have hB3 := hB2.below hb3 hB2.lt; have hd3 := Below.lift hd2 hd2.size hb3; have HT2 := hid ht2; clear ht2)
        | (go_at_call 225; refine (month_some t2 (by have := HT2.out; omega) _).mono ?_; rintro e w3' ⟨mb, rfl, rfl⟩)
        | (go_at_call 31; refine (err_any _ _).mono ?_; rintro e w4 ⟨rfl, hb4⟩; have hB4 := hB3.below hb4 hB3.lt; have hd4 := Below.lift hd3 hd3.size hb4; obtain ⟨q0, q1, q2, q3, q4, qf⟩ := hB4.cells5; unfold sv))
      all_goals first
        | exact end_cell Tryz.results207 rfl (Bk.set5 hB4 _ _ _ _ _) Tryz.underlying34 rfl info_sv rfl ⟨(6, 0, 0, es), .inl rfl, rfl, Below.set5 hd4 (Nat.le_refl _) _ _ _ _ _⟩
        | exact end_cell Tryz.results207 rfl (Bk.set5 hB4 _ _ _ _ _) Tryz.underlying34 rfl info_sv rfl ⟨(4, 0, 0, valS), .inr rfl, rfl, Below.set5 hd4 (Nat.le_refl _) _ _ _ _ _⟩

theorem same_odd (v : SV) (hv : Odd6 v) (w : World) : Calls Tryz.prog 151 #[svV v, sv 4 0 0 valS] w fun e w' => ∃ b : Bool, e = .returned (.bool b) ∧ Below w.heap.size w w' := by
  rcases hv with rfl | rfl
  · unfold svV sv
    go_enter Tryz.func151, Tryz.ntmps151
    go_wp2_with fail
    go_ret
    exact ⟨_, rfl, ((Below.refl _ _).alloc (Nat.le_refl _) _).alloc (by simp) _⟩
  · refine (self_yes (4, 0, 0, valS) w).mono ?_
    rintro e w' ⟨rfl, hb⟩
    exact ⟨_, rfl, hb⟩

theorem letters_some (s : ByteArray) (hs : s.size ≤ 2147483647) (w : World) : Calls Tryz.prog 145 #[.string s] w fun e w' => ∃ b : Bool, e = .returned (.bool b) ∧ Below w.heap.size w w' := by
  go_enter Tryz.func145, Tryz.ntmps145
  go_wp2_with fail
  refine (other_some s hs _).mono ?_
  rintro e w1 ⟨v, hv, rfl, hb1⟩
  have HV := hid hv
  clear hv
  go_wp2_with fail
  refine (err_any _ _).mono ?_
  rintro e w2 ⟨rfl, hb2⟩
  have hd2 := Below.lift hb1 hb1.size hb2
  clear hb1 hb2
  go_wp2_with fail
  refine (same_odd v HV.out _).mono ?_
  rintro e w3 ⟨b, rfl, hb3⟩
  go_wp2_with fail
  go_ret
  exact ⟨_, rfl, Below.lift hd2 hd2.size hb3⟩
end Go.Proofs.YtdanlcciefbboaaGreat
