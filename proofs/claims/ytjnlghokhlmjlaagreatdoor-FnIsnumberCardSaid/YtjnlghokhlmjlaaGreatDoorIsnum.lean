import Derived.Test.YtjnlghokhlmjlaaGreatDoorAndOr
import Derived.Test.YtjnlghokhlmjlaaGreatDoorDoor
namespace Go.Proofs.YtjnlghokhlmjlaaGreatDoor
open Go.RowKit
attribute [local go_sem] run_store_float

theorem Bk.far10 {w : World} {g q : Nat} {t : TypeId} {cs : Array Value} (hne : g ≠ q) (h : Bk w g t cs) (b0 b1 b2 b3 b4 b5 b6 b7 b8 b9 : Value) :
    Bk ((((((((((w.setCell ⟨q, 0, none⟩ b0).setCell ⟨q, 1, none⟩ b1).setCell ⟨q, 2, none⟩ b2).setCell ⟨q, 3, none⟩ b3).setCell ⟨q, 4, none⟩ b4).setCell ⟨q, 5, none⟩ b5).setCell ⟨q, 6, none⟩ b6).setCell ⟨q, 7, none⟩ b7).setCell ⟨q, 8, none⟩ b8).setCell ⟨q, 9, none⟩ b9) g t cs :=
  (((((((((h.far hne b0).far hne b1).far hne b2).far hne b3).far hne b4).far hne b5).far hne b6).far hne b7).far hne b8).far hne b9

set_option maxRecDepth 100000 in
theorem intersect_any (g : Value) (x : Nat) (s : ByteArray) (b : Bool) (t : ByteArray) (k : Int) (hk : (k == 4) = false) (w : World) :
    Calls Tryz.prog 64 #[g, fa x s b t k] w fun e w' => e = .returned (fa x s b t k) ∧ Below w.heap.size w w' := by
  unfold fa
  go_enter Tryz.func64, Tryz.ntmps64
  go_wp2_with fail
  exact end_cell Tryz.results64 rfl (Bk.new_at (by simp)) Tryz.underlying70 rfl info_fa rfl
    ⟨rfl, ((Below.refl _ _).alloc (Nat.le_refl _) _).alloc (by simp) _⟩

set_option maxRecDepth 100000 in
set_option maxHeartbeats 1000000 in
theorem ISNUMBER_walk (x : Nat) (s : ByteArray) (b : Bool) (t : ByteArray) (k : Int) (hk : (k == 4) = false) (r : Bool) (hr : r = ((k == 1) && !b)) (w : World) (g L : Nat) (el : List Nat) (h : IsL w L el [.iface 70 (fa x s b t k)]) :
    Calls Tryz.prog 43 #[ptr g, ptr L] w fun e w' => e = .returned (fa (tv r) es true es 1) ∧ Below w.heap.size w w' := by
  obtain ⟨f, hf, hflt, hv⟩ := h.at_ (i := 0) rfl
  unfold fa at hv
  have hta := fun (u : Value) wx => run_typeAssert_struct (P := Tryz.prog) 70 20 u wx Tryz.underlying70
  have H := hid h
  have Hf := hid hf
  have HK := hid hk
  have HR := hid hr
  clear h hf hk hr
  obtain ⟨k1, hk1⟩ : ∃ k1, (k == 1) = k1 := ⟨_, rfl⟩
  have Hk1 := hid hk1
  clear hk1
  go_enter Tryz.func43, Tryz.ntmps43
  go_wp2_with fail
  refine (len_any (H.out.keep ((Below.refl _ _).alloc (Nat.le_refl _) _))).mono ?_
  rintro e w1 ⟨rfl, rfl⟩
  go_wp2_with fail
  refine (front_any (H.out.keep ((Below.refl _ _).alloc (Nat.le_refl _) _)) Hf.out).mono ?_
  rintro e w1 ⟨rfl, rfl⟩
  go_wp2_with fail
  refine (intersect_any (ptr g) x s b t k HK.out _).mono ?_
  rintro e w1 ⟨rfl, hb1⟩
  have hB1 := Bk.below ((Bk.new w 70 #[.string ⟨#[]⟩, .float .f64 0, .string ⟨#[]⟩, .slice none 0 0, .slice none 0 0, .bool false, .string ⟨#[]⟩, .int .u8 0, .pointer none, .pointer none]).alloc (.cells #[.string es, .float .f64 x, .string s, .slice none 0 0, .slice none 0 0, .bool b, .string t, .int .u8 k, .pointer none, .pointer none] 70)) hb1 (by simp; omega)
  have hN1 := Bk.below (Bk.new_at (w := w.alloc (.cells #[.string ⟨#[]⟩, .float .f64 0, .string ⟨#[]⟩, .slice none 0 0, .slice none 0 0, .bool false, .string ⟨#[]⟩, .int .u8 0, .pointer none, .pointer none] 70)) (t := 70) (cs := #[.string es, .float .f64 x, .string s, .slice none 0 0, .slice none 0 0, .bool b, .string t, .int .u8 k, .pointer none, .pointer none]) (g := w.heap.size + 1) (by simp)) hb1 (by simp)
  have hd1 := Below.lift (((Below.refl w.heap.size w).alloc (Nat.le_refl _) (.cells #[.string ⟨#[]⟩, .float .f64 0, .string ⟨#[]⟩, .slice none 0 0, .slice none 0 0, .bool false, .string ⟨#[]⟩, .int .u8 0, .pointer none, .pointer none] 70)).alloc (by simp) _) (by simp; omega) hb1
  have hz1 : w.heap.size + 1 < w1.heap.size := hN1.lt
  clear hb1
  obtain ⟨q0, q1, q2, q3, q4, q5, q6, q7, q8, q9, qf⟩ := hN1.cells10
  have hk1 := Hk1.out
  unfold fa
  have hr := HR.out
  rw [hk1] at hr
  have HR2 := hid hr
  clear hr HR
  cases k1 <;> cases b
  · go_wp2_with fail
    refine (newBool_any _ _).mono ?_
    rintro e w4 ⟨rfl, hb4⟩
    have hF := Bk.far10 (show w.heap.size ≠ w.heap.size + 1 by omega) hB1 (.string es) (.float .f64 x) (.string s) (.slice none 0 0) (.slice none 0 0) (.bool false) (.string t) (.int .u8 k) (.pointer none) (.pointer none)
    have hB4 := hF.below hb4 hF.lt
    have hG := Below.set10 hd1 (show w.heap.size ≤ w.heap.size + 1 by omega) (.string es) (.float .f64 x) (.string s) (.slice none 0 0) (.slice none 0 0) (.bool false) (.string t) (.int .u8 k) (.pointer none) (.pointer none)
    have hd4 := Below.lift hG hG.size hb4
    clear hb4 hF hG q0 q1 q2 q3 q4 q5 q6 q7 q8 q9 qf
    have hz4 := hB4.lt
    obtain ⟨q0, q1, q2, q3, q4, q5, q6, q7, q8, q9, qf⟩ := hB4.cells10
    unfold fa
    go_wp2_with fail
    exact end_cell Tryz.results43 rfl (Bk.set10 hB4 _ _ _ _ _ _ _ _ _ _) Tryz.underlying70 rfl info_fa rfl
      ⟨by rw [HR2.out]; rfl, Below.set10 hd4 (Nat.le_refl _) _ _ _ _ _ _ _ _ _ _⟩
  · go_wp2_with fail
    refine (newBool_any _ _).mono ?_
    rintro e w4 ⟨rfl, hb4⟩
    have hF := Bk.far10 (show w.heap.size ≠ w.heap.size + 1 by omega) hB1 (.string es) (.float .f64 x) (.string s) (.slice none 0 0) (.slice none 0 0) (.bool true) (.string t) (.int .u8 k) (.pointer none) (.pointer none)
    have hB4 := hF.below hb4 hF.lt
    have hG := Below.set10 hd1 (show w.heap.size ≤ w.heap.size + 1 by omega) (.string es) (.float .f64 x) (.string s) (.slice none 0 0) (.slice none 0 0) (.bool true) (.string t) (.int .u8 k) (.pointer none) (.pointer none)
    have hd4 := Below.lift hG hG.size hb4
    clear hb4 hF hG q0 q1 q2 q3 q4 q5 q6 q7 q8 q9 qf
    have hz4 := hB4.lt
    obtain ⟨q0, q1, q2, q3, q4, q5, q6, q7, q8, q9, qf⟩ := hB4.cells10
    unfold fa
    go_wp2_with fail
    exact end_cell Tryz.results43 rfl (Bk.set10 hB4 _ _ _ _ _ _ _ _ _ _) Tryz.underlying70 rfl info_fa rfl
      ⟨by rw [HR2.out]; rfl, Below.set10 hd4 (Nat.le_refl _) _ _ _ _ _ _ _ _ _ _⟩
  · go_wp2_with fail
    refine (newBool_any _ _).mono ?_
    rintro e w4 ⟨rfl, hb4⟩
    have hF := Bk.far10 (show w.heap.size ≠ w.heap.size + 1 by omega) hB1 (.string es) (.float .f64 x) (.string s) (.slice none 0 0) (.slice none 0 0) (.bool false) (.string t) (.int .u8 k) (.pointer none) (.pointer none)
    have hB4 := hF.below hb4 hF.lt
    have hG := Below.set10 hd1 (show w.heap.size ≤ w.heap.size + 1 by omega) (.string es) (.float .f64 x) (.string s) (.slice none 0 0) (.slice none 0 0) (.bool false) (.string t) (.int .u8 k) (.pointer none) (.pointer none)
    have hd4 := Below.lift hG hG.size hb4
    clear hb4 hF hG q0 q1 q2 q3 q4 q5 q6 q7 q8 q9 qf
    have hz4 := hB4.lt
    obtain ⟨q0, q1, q2, q3, q4, q5, q6, q7, q8, q9, qf⟩ := hB4.cells10
    unfold fa
    go_wp2_with fail
    exact end_cell Tryz.results43 rfl (Bk.set10 hB4 _ _ _ _ _ _ _ _ _ _) Tryz.underlying70 rfl info_fa rfl
      ⟨by rw [HR2.out]; rfl, Below.set10 hd4 (Nat.le_refl _) _ _ _ _ _ _ _ _ _ _⟩
  · go_wp2_with fail
    refine (newBool_any _ _).mono ?_
    rintro e w4 ⟨rfl, hb4⟩
    have hF := Bk.far10 (show w.heap.size ≠ w.heap.size + 1 by omega) hB1 (.string es) (.float .f64 x) (.string s) (.slice none 0 0) (.slice none 0 0) (.bool true) (.string t) (.int .u8 k) (.pointer none) (.pointer none)
    have hB4 := hF.below hb4 hF.lt
    have hG := Below.set10 hd1 (show w.heap.size ≤ w.heap.size + 1 by omega) (.string es) (.float .f64 x) (.string s) (.slice none 0 0) (.slice none 0 0) (.bool true) (.string t) (.int .u8 k) (.pointer none) (.pointer none)
    have hd4 := Below.lift hG hG.size hb4
    clear hb4 hF hG q0 q1 q2 q3 q4 q5 q6 q7 q8 q9 qf
    have hz4 := hB4.lt
    obtain ⟨q0, q1, q2, q3, q4, q5, q6, q7, q8, q9, qf⟩ := hB4.cells10
    unfold fa
    go_wp2_with fail
    exact end_cell Tryz.results43 rfl (Bk.set10 hB4 _ _ _ _ _ _ _ _ _ _) Tryz.underlying70 rfl info_fa rfl
      ⟨by rw [HR2.out]; rfl, Below.set10 hd4 (Nat.le_refl _) _ _ _ _ _ _ _ _ _ _⟩
end Go.Proofs.YtjnlghokhlmjlaaGreatDoor
