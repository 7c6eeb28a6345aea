import Derived.Test.YtjnlghokhlmjlaaGreatDoorFrac
import Derived.Test.YtjnlghokhlmjlaaGreatDoorSelf
import Derived.Lib.ConvBytes
import Derived.Lib.AtoiErrMem
import Derived.Laws.IdiomStrings
import Derived.Deep.RegionHeld3
import Derived.IntWalk
namespace Go.Proofs.YtjnlghokhlmjlaaGreatDoor
open Go.RowKit
attribute [local go_sem] run_store_float

/-! what the reference reads in a text, as far as it matters here: every function comes back -/
theorem Lower_some (c : Nat) (hc : c < 256) (w : World) : Calls Tryz.prog 212 #[.int .u8 c] w fun e w' => ∃ d : Nat, d < 256 ∧ e = .returned (.int .u8 d) ∧ w = w' := by
  by_cases h1 : 65 ≤ c
  · by_cases h2 : c ≤ 90
    · go_enter Tryz.func212, Tryz.ntmps212
      go_wp2_with fail
      go_ret
      exact ⟨c + 32, by omega, by first | rfl | simp, rfl⟩
    · go_enter Tryz.func212, Tryz.ntmps212
      go_wp2_with fail
      go_ret
      exact ⟨c, by omega, rfl, rfl⟩
  · go_enter Tryz.func212, Tryz.ntmps212
    go_wp2_with fail
    go_ret
    exact ⟨c, by omega, rfl, rfl⟩

def BytesAt (w : World) (b : Nat) (l : List UInt8) : Prop := ∀ j (hj : j < l.length), w.cell? ⟨b, j, none⟩ = some (.int .u8 (l[j].toNat : Int)) ∧ w.frozen? ⟨b, j, none⟩ = false
theorem BytesAt.set_ {w : World} {b k : Nat} {l : List UInt8} (h : BytesAt w b l) (d : Nat) (hd : d < 256) : BytesAt (w.setCell ⟨b, k, none⟩ (.int .u8 (d : Int))) b (l.set k (UInt8.ofNat d)) := by
  intro j hj
  rw [List.length_set] at hj
  obtain ⟨h1, h2⟩ := h j hj
  refine ⟨?_, by rw [World.frozen?_setCell]; exact h2⟩
  rw [List.getElem_set]
  by_cases hjk : k = j
  · subst hjk
    rw [if_pos rfl, World.cell?_setCell_same (h := h1)]
    have : (UInt8.ofNat d).toNat = d := by simp; omega
    rw [this]
  · rw [if_neg hjk, World.cell?_setCell_other (h := by intro hh; injection hh with _ h3; exact hjk h3)]
    exact h1
theorem BytesAt.new (w : World) (s : ByteArray) : BytesAt (Lib.bytesWorld w 5 s) w.heap.size s.data.toList := by
  intro j hj
  have hj' : j < s.size := by rw [Array.length_toList] at hj; exact hj
  refine ⟨?_, ?_⟩
  · rw [Lib.bytesWorld_cell w _ s j hj']
    congr 2
    rw [List.getD_eq_getElem?_getD, List.getElem?_eq_getElem hj]; rfl
  · have hb := Lib.bytesWorld_at_new w 5 s
    have hsz : s.size ≤ (Lib.bytesCells w 5 s).size := by unfold Lib.bytesCells; rw [Array.size_append, Array.size_map]; exact Nat.le_add_right _ _
    simp [World.frozen?, hb]
    omega

set_option maxRecDepth 100000 in
theorem lower_some (s : ByteArray) (hs : s.size ≤ 1000) (w : World) : Calls Tryz.prog 189 #[.string s] w fun e w' => ∃ t : ByteArray, t.size = s.size ∧ e = .returned (.string t) ∧ Below w.heap.size w w' := by
  have hcv := Lib.run_convert_string_bytes (P := Tryz.prog) w 9 125 5 s Tryz.underlying9 Tryz.underlying125 Tryz.underlying5
  have hbn := hid (BytesAt.new w s)
  have hbl := Lib.bytesWorld_below w 5 s
  generalize grownCap w s.size 0 5 = cap at *
  go_enter Tryz.func189, Tryz.ntmps189
  go_wp2_with fail
  generalize Lib.bytesWorld w 5 s = W at *
  clear hcv
  have hlen : s.data.toList.length = s.size := by rw [Array.length_toList]; rfl
  go_loopw [4] (fun i wr => ∃ (k : Nat) (l : List UInt8), k ≤ s.size ∧ i = .int .i64 (k : Int) ∧ Hid (l.length = s.size) ∧ Hid (BytesAt wr w.heap.size l) ∧ Below w.heap.size w wr) (fun i _ => s.size - (intOf i).toNat)
  case atStart => exact ⟨0, s.data.toList, Nat.zero_le _, rfl, hlen, hbn.out, hbl⟩
  case round =>
    clear hlen hbl hbn
    obtain ⟨k, l, hk, rfl, hl, hB, hb⟩ := hrel
    by_cases hlt : k < s.size
    · obtain ⟨g0, gf⟩ := hB.out k (by rw [hl.out]; exact hlt)
      have hx := UInt8.toNat_lt (l[k]'(by rw [hl.out]; exact hlt))
      generalize (l[k]'(by rw [hl.out]; exact hlt)).toNat = x at *
      have HL := hid (fun d hd => (hB.out).set_ (k := k) d hd)
      have hk0 : (0 : Int) ≤ (k : Int) := by omega
      have hk1 : (k : Int) < (s.size : Int) := by omega
      go_wp2_with fail
      refine (Lower_some x (by omega) _).mono ?_
      rintro e w1 ⟨d, hd, rfl, rfl⟩
      have HL2 := hid (HL.out d hd)
      clear HL
      go_wp2_with fail
      go_roundw
      case rel => exact ⟨k + 1, l.set k (UInt8.ofNat d), by omega, by go_num, by show _ = _; rw [List.length_set]; exact hl.out, HL2.out, Below.setCell hb (by simp) _⟩
      case measure => simp [intOf]; omega
    · have hkl : k = s.size := by omega
      subst hkl
      have hcv := run_convert_bytes_back (P := Tryz.prog) wr 125 9 5 ⟨w.heap.size, 0, none⟩ cap l Tryz.underlying125 Tryz.underlying5 Tryz.underlying9 (fun j hj => by
        have := (hB.out j hj).1
        have e : (⟨w.heap.size, 0, none⟩ : Addr).add j = ⟨w.heap.size, j, none⟩ := by unfold Addr.add; split <;> simp_all
        rw [e]; exact this)
      rw [hl.out] at hcv
      go_wp2_with fail
      go_ret
      exact ⟨_, by rw [← hl.out]; exact List.size_toArray, rfl, hb⟩

theorem month_some (s : ByteArray) (hs : s.size ≤ 1000) (w : World) : Calls Tryz.prog 268 #[.string s] w fun e w' => ∃ b : Bool, e = .returned (.bool b) ∧ w = w' := by
  by_cases h : s.size < 3
  · go_enter Tryz.func268, Tryz.ntmps268
    go_wp2_with fail
    go_ret
    exact ⟨_, rfl, rfl⟩
  · go_enter Tryz.func268, Tryz.ntmps268
    go_wp2_with fail
    all_goals
      go_ret
      exact ⟨_, rfl, rfl⟩

set_option maxRecDepth 100000 in
theorem Digits_some : ∀ (k : Nat) (n : Int), 0 ≤ n → n.toNat = k → n ≤ 9999999999999 → ∀ w : World, Calls Tryz.prog 192 #[.int .i64 n, .int .i64 10] w fun e w' => ∃ t : ByteArray, t.size ≤ k + 1 ∧ e = .returned (.string t) ∧ Below w.heap.size w w' := by
  intro k
  induction k using Nat.strongRecOn with
  | _ k ih =>
    intro n h0 hk h1 w
    have hm := Int.tdiv_mul_add_tmod n 10
    have hr0 : 0 ≤ n.tmod 10 := Int.tmod_nonneg _ h0
    have hr1 : n.tmod 10 < 10 := Int.tmod_lt_of_pos _ (by omega)
    have hq0 : 0 ≤ n.tdiv 10 := Int.tdiv_nonneg h0 (by omega)
    obtain ⟨r, hr⟩ : ∃ r : Nat, n.tmod 10 = (r : Int) := ⟨(n.tmod 10).toNat, by omega⟩
    have IH := hid ih
    have Hk := hid hk
    have Hm := hid hm
    clear ih hk hm
    rw [hr] at hr0 hr1
    obtain ⟨q, hq⟩ : ∃ q : Int, n.tdiv 10 = q := ⟨_, rfl⟩
    have Hq := hid hq
    rw [hq] at hq0
    clear hq
    have hq1 : q ≤ 9999999999999 := by have := Hm.out; have := Hq.out; omega
    have hrs : (r : Int) < 36 := by omega
    have hr6 : (r : Int) + 1 ≤ 36 := by omega
    have hr7 : (r : Int) ≤ (r : Int) + 1 := by omega
    have hr5 : (0 : Int) ≤ (r : Int) + 1 := by omega
    have hw1 : IntKind.i64.wrap ((r : Int) + 1) = (r : Int) + 1 := IntWalk.i64_in _ (by omega)
    have hr2 : ((r : Int) + 1).toNat = r + 1 := by omega
    have hext : Hid (∀ b : ByteArray, (b.extract r (r + 1)).size ≤ 1) := fun b => by rw [ByteArray.size_extract]; omega
    by_cases hlt : n < 10
    · go_enter Tryz.func192, Tryz.ntmps192
      go_wp2_with fail
      go_region_held3 (fun _ => True) (exact trivial) (fail)
      clear hw1 hr2 hr5 hr6 hr7 hrs
      have hu := hid (hext.out ⟨#[48, 49, 50, 51, 52, 53, 54, 55, 56, 57, 65, 66, 67, 68, 69, 70, 71, 72, 73, 74, 75, 76, 77, 78, 79, 80, 81, 82, 83, 84, 85, 86, 87, 88, 89, 90]⟩)
      generalize ByteArray.extract ⟨#[48, 49, 50, 51, 52, 53, 54, 55, 56, 57, 65, 66, 67, 68, 69, 70, 71, 72, 73, 74, 75, 76, 77, 78, 79, 80, 81, 82, 83, 84, 85, 86, 87, 88, 89, 90]⟩ r (r + 1) = u at *
      go_wp2_with fail
      go_ret
      exact ⟨u, by have := hu.out; omega, rfl, Below.drew (Below.refl _ _)⟩
    · have hlk : q.toNat < k := by have := Hm.out; have := Hq.out; have := Hk.out; omega
      have hk1 : q.toNat + 1 ≤ k := hlk
      go_enter Tryz.func192, Tryz.ntmps192
      go_wp2_with fail
      go_region_held3 (fun _ => True) (exact trivial) (fail)
      clear hw1 hr2 hr5 hr6 hr7 hrs
      have hu := hid (hext.out ⟨#[48, 49, 50, 51, 52, 53, 54, 55, 56, 57, 65, 66, 67, 68, 69, 70, 71, 72, 73, 74, 75, 76, 77, 78, 79, 80, 81, 82, 83, 84, 85, 86, 87, 88, 89, 90]⟩)
      generalize ByteArray.extract ⟨#[48, 49, 50, 51, 52, 53, 54, 55, 56, 57, 65, 66, 67, 68, 69, 70, 71, 72, 73, 74, 75, 76, 77, 78, 79, 80, 81, 82, 83, 84, 85, 86, 87, 88, 89, 90]⟩ r (r + 1) = u at *
      have hq' := Hq.out
      go_wp2_with fail
      clear hq'
      refine (IH.out q.toNat hlk q hq0 rfl hq1 _).mono ?_
      rintro e w1 ⟨t, ht, rfl, hb⟩
      have hb2 : Below w.heap.size w w1 := Below.lift (Below.drew (Below.refl _ _)) (Nat.le_refl _) hb
      have hkb : k ≤ 9999999999999 := by have := Hk.out; omega
      have hts : t.size + u.size ≤ 9223372036854775807 := by have := hu.out; omega
      have hts2 : (t.size : Int) + (u.size : Int) ≤ 9223372036854775807 := by omega
      go_wp2_with fail
      go_ret
      refine ⟨t ++ u, ?_, by first | rfl | simp, hb2⟩
      rw [ByteArray.size_append]
      have := hu.out
      omega

def valS : ByteArray := ⟨#[35, 86, 65, 76, 85, 69, 33]⟩
def Odd6 (v : SV) : Prop := v = (6, 0, 0, es) ∨ v = (4, 0, 0, valS)

set_option maxRecDepth 100000 in
set_option maxHeartbeats 2000000 in
/-- what a text is that is no plain number -/
theorem other_some (s : ByteArray) (hs : s.size ≤ 1000) (w : World) : Calls Tryz.prog 243 #[.string s] w fun e w' => ∃ v : SV, Odd6 v ∧ e = .returned (svV v) ∧ Below w.heap.size w w' := by
  go_enter Tryz.func243, Tryz.ntmps243
  go_wp2_with fail
  have hB0 := Bk.new w 27 #[.int .i64 0, .int .i64 0, .int .i64 0, .string ⟨#[]⟩, .slice none 0 0]
  have hd0 : Below w.heap.size w (w.alloc (.cells #[.int .i64 0, .int .i64 0, .int .i64 0, .string ⟨#[]⟩, .slice none 0 0] 27)) := (Below.refl _ _).alloc (Nat.le_refl _) _
  generalize w.alloc (.cells #[.int .i64 0, .int .i64 0, .int .i64 0, .string ⟨#[]⟩, .slice none 0 0] 27) = W at *
  go_loop [3] (fun i => ∃ k : Nat, k ≤ s.size ∧ i = .int .i64 (k : Int)) (fun i => s.size - (intOf i).toNat)
  case atStart => exact ⟨0, Nat.zero_le _, rfl⟩
  case round =>
    obtain ⟨k, hk, rfl⟩ := hrel
    by_cases hlt : k < s.size
    · have hx := UInt8.toNat_lt (s[k]'hlt)
      have hk0 : (0 : Int) ≤ (k : Int) := by omega
      have hk1 : (k : Int) < (s.size : Int) := by omega
      go_wp2_with fail
      generalize (s[k]'hlt).toNat = x at *
      refine (Lower_some x (by omega) _).mono ?_
      rintro e w1 ⟨d, hd, rfl, rfl⟩
      by_cases h1 : d < 97
      · go_wp2_with fail
        refine (doubt_any _).mono ?_
        rintro e w2 ⟨rfl, hb2⟩
        have hB2 := hB0.below hb2 hB0.lt
        have hd2 := Below.lift hd0 hd0.size hb2
        obtain ⟨q0, q1, q2, q3, q4, qf⟩ := hB2.cells5
        unfold sv
        go_wp2_with fail
        exact end_cell Tryz.results243 rfl (Bk.set5 hB2 _ _ _ _ _) Tryz.underlying27 rfl info_sv rfl ⟨(6, 0, 0, es), .inl rfl, rfl, Below.set5 hd2 (Nat.le_refl _) _ _ _ _ _⟩
      by_cases h2 : 122 < d
      · go_wp2_with fail
        refine (doubt_any _).mono ?_
        rintro e w2 ⟨rfl, hb2⟩
        have hB2 := hB0.below hb2 hB0.lt
        have hd2 := Below.lift hd0 hd0.size hb2
        obtain ⟨q0, q1, q2, q3, q4, qf⟩ := hB2.cells5
        unfold sv
        go_wp2_with fail
        exact end_cell Tryz.results243 rfl (Bk.set5 hB2 _ _ _ _ _) Tryz.underlying27 rfl info_sv rfl ⟨(6, 0, 0, es), .inl rfl, rfl, Below.set5 hd2 (Nat.le_refl _) _ _ _ _ _⟩
      go_wp2_with fail
      go_round
      case rel => exact ⟨k + 1, by omega, by go_num⟩
      case measure => simp [intOf]; omega
    · have hkl : k = s.size := by omega
      subst hkl
      clear hk hlt
      go_wp2_with fail
      refine (lower_some s hs _).mono ?_
      rintro e w2 ⟨t, ht, rfl, hb2⟩
      have hB2 := hB0.below hb2 hB0.lt
      have hd2 := Below.lift hd0 hd0.size hb2
      clear hb2
      have HT := hid ht
      clear ht
      go_wp2_with (first
        | (go_at_call 32; have hd3' := hd3; refine (doubt_any _).mono ?_; rintro e w4 ⟨rfl, hb4⟩; have hB4 := hB3.below hb4 hB3.lt; have hd4 := Below.lift hd3 hd3.size hb4; obtain ⟨q0, q1, q2, q3, q4, qf⟩ := hB4.cells5; unfold sv)
        | (go_at_call 32; refine (doubt_any _).mono ?_; rintro e w4 ⟨rfl, hb4⟩; have hB4 := hB2.below hb4 hB2.lt; have hd4 := Below.lift hd2 hd2.size hb4; obtain ⟨q0, q1, q2, q3, q4, qf⟩ := hB4.cells5; unfold sv)
        | (go_at_call 189; refine (lower_some s hs _).mono ?_; rintro e w3 ⟨t2, ht2, rfl, hb3⟩; have hB3 := hB2.below hb3 hB2.lt; have hd3 := Below.lift hd2 hd2.size hb3; have HT2 := hid ht2; clear ht2)
        | (go_at_call 268; refine (month_some t2 (by have := HT2.out; omega) _).mono ?_; rintro e w3' ⟨mb, rfl, rfl⟩)
        | (go_at_call 29; refine (err_any _ _).mono ?_; rintro e w4 ⟨rfl, hb4⟩; have hB4 := hB3.below hb4 hB3.lt; have hd4 := Below.lift hd3 hd3.size hb4; obtain ⟨q0, q1, q2, q3, q4, qf⟩ := hB4.cells5; unfold sv))
      all_goals first
        | exact end_cell Tryz.results243 rfl (Bk.set5 hB4 _ _ _ _ _) Tryz.underlying27 rfl info_sv rfl ⟨(6, 0, 0, es), .inl rfl, rfl, Below.set5 hd4 (Nat.le_refl _) _ _ _ _ _⟩
        | exact end_cell Tryz.results243 rfl (Bk.set5 hB4 _ _ _ _ _) Tryz.underlying27 rfl info_sv rfl ⟨(4, 0, 0, valS), .inr rfl, rfl, Below.set5 hd4 (Nat.le_refl _) _ _ _ _ _⟩
end Go.Proofs.YtjnlghokhlmjlaaGreatDoor
