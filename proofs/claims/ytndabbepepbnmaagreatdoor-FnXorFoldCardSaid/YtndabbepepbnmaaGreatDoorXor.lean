import Derived.Test.YtndabbepepbnmaaGreatDoorAndOr
import Derived.Test.YtndabbepepbnmaaGreatDoorOf
namespace Go.Proofs.YtndabbepepbnmaaGreatDoor
open Go.RowKit
attribute [local go_sem] run_store_float

/-- how many are true -/
def cnt (l : List Bool) : Nat := (l.filter id).length
def xorL (l : List Bool) : Bool := cnt l % 2 != 0
theorem cnt_take (l : List Bool) (k : Nat) (b : Bool) (h : l[k]? = some b) : cnt (l.take (k + 1)) = cnt (l.take k) + (if b then 1 else 0) := by
  unfold cnt
  rw [List.take_add_one, h, List.filter_append, List.length_append]
  cases b <;> rfl
theorem cnt_le (l : List Bool) : cnt l ≤ l.length := List.length_filter_le _ _

set_option maxRecDepth 100000 in
set_option maxHeartbeats 2000000 in
theorem calcXor_list (l : List Bool) (hl0 : 1 ≤ l.length) (hl : l.length ≤ 1000) (w : World) (L : Nat) (el : List Nat) (h : IsL w L el (l.map fun b => .iface 78 (fa (tv b) es true es 1))) :
    Calls Tryz.prog 140 #[ptr L] w fun e w' => e = .returned (fa (tv (xorL l)) es true es 1) ∧ Below w.heap.size w w' := by
  have hta := fun (u : Value) wx => run_typeAssert_struct (P := Tryz.prog) 78 20 u wx Tryz.underlying78
  have hlen : el.length = l.length := by rw [h.len, List.length_map]
  obtain ⟨f0, hf0⟩ : ∃ f0, el[0]? = some f0 := ⟨el[0]'(by omega), List.getElem?_eq_getElem (by omega)⟩
  have H := hid h
  have Hf0 := hid hf0
  clear h hf0
  go_enter Tryz.func140, Tryz.ntmps140
  go_wp2_with fail
  refine (front_any (H.out.keep ((Below.refl _ _).alloc (Nat.le_refl _) _)) Hf0.out).mono ?_
  rintro e w1 ⟨rfl, rfl⟩
  go_wp2_with fail
  go_loopg [3, 4, 5] l.length (fun gg c u i wr => ∃ (k m : Nat), k ≤ l.length ∧ gg = l.length - k ∧ c = .int .i64 (m : Int) ∧ Hid (m = cnt (l.take k)) ∧ m ≤ k ∧ u = .bool (decide (0 < k)) ∧ Hid (i = elAt el k) ∧ Below (w.heap.size + 1) (w.alloc (.cells #[.string ⟨#[]⟩, .float .f64 0, .string ⟨#[]⟩, .slice none 0 0, .slice none 0 0, .bool false, .string ⟨#[]⟩, .int .u8 0, .pointer none, .pointer none] 78)) wr)
  case atStart => exact ⟨0, 0, by omega, rfl, rfl, by show _ = _; rfl, by omega, rfl, by show _ = _; unfold elAt; rw [Hf0.out], Below.refl _ _⟩
  case round =>
    obtain ⟨k, m, hk, hgk, rfl, hm, hmk, rfl, hi, hb⟩ := hrel
    have hz : w.heap.size + 1 ≤ wr.heap.size := by have := hb.size; simpa using this
    have hbw : Below w.heap.size w wr := Below.lift ((Below.refl _ _).alloc (Nat.le_refl _) _) (by simp) (hb.mono (by simp))
    by_cases hlt : k < l.length
    · obtain ⟨b, hbk⟩ : ∃ b, l[k]? = some b := ⟨l[k], List.getElem?_eq_getElem hlt⟩
      obtain ⟨f, hf, hflt, hv⟩ := H.out.at_ (i := k) (v := .iface 78 (fa (tv b) es true es 1)) (by rw [List.getElem?_map, hbk]; rfl)
      have hi' := hi.out
      unfold elAt at hi'
      rw [hf] at hi'
      change _ = ptr f at hi'
      subst hi'
      have gv : wr.cell? ⟨f, 3, none⟩ = _ := (hbw.cell (p := ⟨f, 3, none⟩) hflt).trans hv
      have gl : f < wr.heap.size := by omega
      have hA : Hid (cnt (l.take (k + 1)) = m + (if b then 1 else 0)) := by
        show _ = _
        rw [hm.out]; exact cnt_take l k b hbk
      have ht := test_tv b
      have Hf := hid hf
      have hn1 : Hid (∀ w', Below wr.heap.size wr w' → Calls Tryz.prog 147 #[ptr f] w' fun e w'' => e = .returned (elAt el (k + 1)) ∧ w' = w'') := by
        show ∀ _, _
        intro w' hb'
        have hk' := H.out.keep (hbw.trans (hb'.mono (by omega)))
        by_cases hlast : k + 1 < l.length
        · have h1 : el[k + 1]? = some (el[k + 1]'(by omega)) := List.getElem?_eq_getElem (by omega)
          have := next_some hk' Hf.out h1
          unfold elAt
          rw [h1]; exact this
        · have := next_none hk' Hf.out (by omega)
          unfold elAt
          rw [List.getElem?_eq_none (by omega)]; exact this
      clear hv hf hbk hm
      unfold fa at gv
      cases b
      all_goals
        go_wp2_with fail
        refine (hn1.out _ ((Below.refl _ _).alloc (Nat.le_refl _) _)).mono ?_
        rintro e w3 ⟨rfl, rfl⟩
        go_wp2_with fail
        go_roundg (l.length - (k + 1))
        case measure => omega
        case rel =>
          first
            | exact ⟨k + 1, m, by omega, rfl, rfl, hA.out.symm, by omega, by simp, rfl, hb.alloc hz _⟩
            | exact ⟨k + 1, m + 1, by omega, rfl, by simp, hA.out.symm, by omega, by simp, rfl, hb.alloc hz _⟩
    · have hkl : k = l.length := by omega
      have hi' := hi.out
      unfold elAt at hi'
      rw [List.getElem?_eq_none (by omega)] at hi'
      change _ = Value.pointer none at hi'
      subst hi'
      have hpos : (decide (0 < k)) = true := decide_eq_true (by omega)
      have hpos' : 0 < k := by omega
      have hX : Hid ((((m : Int) % 2) != 0) = xorL l) := by
        show _ = _
        rw [hm.out, hkl, List.take_length]
        unfold xorL
        rw [show (cnt l : Int) % 2 = ((cnt l % 2 : Nat) : Int) from rfl]
        generalize cnt l % 2 = r
        cases r with
        | zero => rfl
        | succ n => rfl
      have hB := (Bk.new w 78 #[.string ⟨#[]⟩, .float .f64 0, .string ⟨#[]⟩, .slice none 0 0, .slice none 0 0, .bool false, .string ⟨#[]⟩, .int .u8 0, .pointer none, .pointer none]).below hb (by simp)
      clear hm
      rw [hpos]
      go_wp2_with fail
      refine (newBool_any _ _).mono ?_
      rintro e w4 ⟨rfl, hb4⟩
      rw [hX.out, show (if (xorL l) = true then one64 else 0) = tv (xorL l) from rfl]
      have hB4 := hB.below hb4 (by omega)
      have hd4 := Below.lift hbw (by omega) hb4
      have hz4 : w.heap.size < w4.heap.size := by have := hb4.size; omega
      obtain ⟨q0, q1, q2, q3, q4, q5, q6, q7, q8, q9, qf⟩ := hB4.cells10
      clear hb4 hB hbw
      unfold fa
      go_wp2_with fail
      exact end_cell Tryz.results140 rfl (Bk.set10 hB4 _ _ _ _ _ _ _ _ _ _) Tryz.underlying78 rfl info_fa rfl
        ⟨rfl, Below.set10 hd4 (Nat.le_refl _) _ _ _ _ _ _ _ _ _ _⟩
end Go.Proofs.YtndabbepepbnmaaGreatDoor
