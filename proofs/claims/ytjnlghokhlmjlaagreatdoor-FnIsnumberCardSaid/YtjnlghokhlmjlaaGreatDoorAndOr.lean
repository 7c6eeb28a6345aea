import Derived.Test.YtjnlghokhlmjlaaGreatDoorToNum
import Derived.Deep.LoopGhost
namespace Go.Proofs.YtjnlghokhlmjlaaGreatDoor
open Go.RowKit
attribute [local go_sem] run_store_float

/-- a truth as a float -/
def tv (b : Bool) : Nat := if b then one64 else 0
theorem test_tv (b : Bool) : (FloatKind.f64.format.order (tv b) 0 != some .eq) = b := by
  cases b
  · show (FloatKind.f64.format.order 0 0 != some .eq) = false; rw [order_zero0]; rfl
  · show (FloatKind.f64.format.order one64 0 != some .eq) = true; rw [order_one]; rfl
def elAt (el : List Nat) (k : Nat) : Value :=
  match el[k]? with
  | some f => ptr f
  | none => .pointer none

set_option maxRecDepth 100000 in
theorem and_tv (b : Bool) (g : Value) (w : World) : Calls Tryz.prog 67 #[g, fa (tv b) es true es 1] w fun e w' => e = .returned (fa (tv b) es true es 1) ∧ Below w.heap.size w w' := by
  have ht := test_tv b
  unfold fa
  go_enter Tryz.func67, Tryz.ntmps67
  go_wp2_with fail
  refine (newBool_any b _).mono ?_
  rintro e w1 ⟨rfl, hb⟩
  change Below _ _ w1 at hb
  obtain ⟨hc, hfr⟩ := bcell hb
  rw [show (if b then one64 else 0) = tv b from rfl]
  unfold fa
  go_wp2_with fail
  exact end_cell Tryz.results67 rfl (Bk.set10 (Bk.below (Bk.new_at (by simp)) hb (by simp)) _ _ _ _ _ _ _ _ _ _) Tryz.underlying70 rfl info_fa rfl
    ⟨rfl, Below.set10 (Below.lift (((Below.refl _ _).alloc (Nat.le_refl _) _).alloc (by simp) _) (by simp; omega) hb) (by simp) _ _ _ _ _ _ _ _ _ _⟩

set_option maxRecDepth 100000 in
set_option maxHeartbeats 2000000 in
theorem AND_list (l : List Bool) (hl0 : 1 ≤ l.length) (hl : l.length ≤ 30) (w : World) (g L : Nat) (el : List Nat) (h : IsL w L el (l.map fun b => .iface 70 (fa (tv b) es true es 1))) :
    Calls Tryz.prog 45 #[ptr g, ptr L] w fun e w' => e = .returned (fa (tv (l.all id)) es true es 1) ∧ Below w.heap.size w w' := by
  have hta := fun (u : Value) wx => run_typeAssert_struct (P := Tryz.prog) 70 20 u wx Tryz.underlying70
  have hlen : el.length = l.length := by rw [h.len, List.length_map]
  have hlm : (l.map fun b => Value.iface 70 (fa (tv b) es true es 1)).length = l.length := List.length_map ..
  obtain ⟨f0, hf0⟩ : ∃ f0, el[0]? = some f0 := ⟨el[0]'(by omega), List.getElem?_eq_getElem (by omega)⟩
  have H := hid h
  have Hf0 := hid hf0
  have Hlm := hid hlm
  have hz0 : ((l.length : Int) == 0) = false := by
    rw [beq_eq_false_iff_ne]; omega
  have h30 : ¬ (30 : Int) < (l.length : Int) := by omega
  clear h hf0 hlm
  go_enter Tryz.func45, Tryz.ntmps45
  go_wp2_with fail
  refine (len_any (H.out.keep ((Below.refl _ _).alloc (Nat.le_refl _) _))).mono ?_
  rintro e w1 ⟨rfl, rfl⟩
  rw [Hlm.out]
  go_wp2_with fail
  refine (len_any (H.out.keep ((Below.refl _ _).alloc (Nat.le_refl _) _))).mono ?_
  rintro e w1 ⟨rfl, rfl⟩
  rw [Hlm.out]
  go_wp2_with fail
  refine (front_any (H.out.keep ((Below.refl _ _).alloc (Nat.le_refl _) _)) Hf0.out).mono ?_
  rintro e w1 ⟨rfl, rfl⟩
  go_wp2_with fail
  go_loopg [5, 6] l.length (fun gg u i wr => ∃ (k : Nat), k ≤ l.length ∧ gg = l.length - k ∧ u = .bool ((l.take k).all id) ∧ Hid (i = elAt el k) ∧ Below (w.heap.size + 1) (w.alloc (.cells #[.string ⟨#[]⟩, .float .f64 0, .string ⟨#[]⟩, .slice none 0 0, .slice none 0 0, .bool false, .string ⟨#[]⟩, .int .u8 0, .pointer none, .pointer none] 70)) wr)
  case atStart => exact ⟨0, by omega, rfl, rfl, by show _ = _; unfold elAt; rw [Hf0.out], Below.refl _ _⟩
  case round =>
    obtain ⟨k, hk, hgk, rfl, hi, hb⟩ := hrel
    have hz : w.heap.size + 1 ≤ wr.heap.size := by have := hb.size; simpa using this
    have hbw : Below w.heap.size w wr := Below.lift ((Below.refl _ _).alloc (Nat.le_refl _) _) (by simp) (hb.mono (by simp))
    by_cases hlt : k < l.length
    · obtain ⟨b, hbk⟩ : ∃ b, l[k]? = some b := ⟨l[k], List.getElem?_eq_getElem hlt⟩
      obtain ⟨f, hf, hflt, hv⟩ := H.out.at_ (i := k) (v := .iface 70 (fa (tv b) es true es 1)) (by rw [List.getElem?_map, hbk]; rfl)
      have hi' := hi.out
      unfold elAt at hi'
      rw [hf] at hi'
      change _ = ptr f at hi'
      subst hi'
      have gv : wr.cell? ⟨f, 3, none⟩ = _ := (hbw.cell (p := ⟨f, 3, none⟩) hflt).trans hv
      have gl : f < wr.heap.size := by omega
      have hA : Hid ((l.take (k + 1)).all id = ((l.take k).all id && b)) := by
        show _ = _
        rw [List.take_add_one, hbk]; simp
      have ht := test_tv b
      have Hf := hid hf
      have hn1 : Hid (∀ w', Below wr.heap.size wr w' → Calls Tryz.prog 59 #[ptr f] w' fun e w'' => e = .returned (elAt el (k + 1)) ∧ w' = w'') := by
        show ∀ _, _
        intro w' hb'
        have hk' := H.out.keep (hbw.trans (hb'.mono (by omega)))
        by_cases hlast : k + 1 < l.length
        · have h1 : el[k + 1]? = some (el[k + 1]'(by omega)) := List.getElem?_eq_getElem (by omega)
          have := next_some hk' Hf.out h1
          unfold elAt
          rw [h1]; exact this
        · have := next_none hk' Hf.out (by omega)
          unfold elAt
          rw [List.getElem?_eq_none (by omega)]; exact this
      clear hv hf hbk
      unfold fa at gv
      generalize (l.take k).all id = A at *
      cases A
      all_goals
        go_wp2_with fail
        refine (and_tv b _ _).mono ?_
        rintro e w2 ⟨rfl, hb2⟩
        have hz2 : wr.heap.size < w2.heap.size := by have := hb2.size; simp at this; omega
        have hr2 : Below wr.heap.size wr w2 := Below.lift ((Below.refl _ _).alloc (Nat.le_refl _) _) (by simp) hb2
        have hb2' : Below (w.heap.size + 1) (w.alloc (.cells #[.string ⟨#[]⟩, .float .f64 0, .string ⟨#[]⟩, .slice none 0 0, .slice none 0 0, .bool false, .string ⟨#[]⟩, .int .u8 0, .pointer none, .pointer none] 70)) w2 := Below.lift (hb.alloc hz _) (by simp; omega) hb2
        first
          | (have hN := Bk.below (Bk.new wr 70 #[.string es, .float .f64 (tv b), .string es, .slice none 0 0, .slice none 0 0, .bool true, .string es, .int .u8 1, .pointer none, .pointer none]) hb2 (by simp)
             obtain ⟨c0, c1, c2, c3, c4, c5, c6, c7, c8, c9, cf⟩ := hN.cells10)
          | skip
        clear hb2 gv
        unfold fa
        go_wp2_with fail
        refine (hn1.out _ (by first | exact hr2.alloc (by omega) _ | exact hr2)).mono ?_
        rintro e w3 ⟨rfl, rfl⟩
        go_wp2_with fail
        go_roundg (l.length - (k + 1))
        case measure => omega
        case rel => exact ⟨k + 1, by omega, rfl, by rw [hA.out]; simp, rfl, hb2'.alloc (by omega) _⟩
    · have hkl : k = l.length := by omega
      have hi' := hi.out
      unfold elAt at hi'
      rw [List.getElem?_eq_none (by omega)] at hi'
      change _ = Value.pointer none at hi'
      subst hi'
      have hA : Hid ((l.take k).all id = l.all id) := by show _ = _; rw [hkl, List.take_length]
      have hB := (Bk.new w 70 #[.string ⟨#[]⟩, .float .f64 0, .string ⟨#[]⟩, .slice none 0 0, .slice none 0 0, .bool false, .string ⟨#[]⟩, .int .u8 0, .pointer none, .pointer none]).below hb (by simp)
      go_wp2_with fail
      refine (newBool_any _ _).mono ?_
      rintro e w4 ⟨rfl, hb4⟩
      rw [hA.out, show (if (l.all id) = true then one64 else 0) = tv (l.all id) from rfl]
      have hB4 := hB.below hb4 (by omega)
      have hd4 := Below.lift hbw (by omega) hb4
      have hz4 : w.heap.size < w4.heap.size := by have := hb4.size; omega
      obtain ⟨q0, q1, q2, q3, q4, q5, q6, q7, q8, q9, qf⟩ := hB4.cells10
      clear hb4 hB hbw
      unfold fa
      go_wp2_with fail
      exact end_cell Tryz.results45 rfl (Bk.set10 hB4 _ _ _ _ _ _ _ _ _ _) Tryz.underlying70 rfl info_fa rfl
        ⟨rfl, Below.set10 hd4 (Nat.le_refl _) _ _ _ _ _ _ _ _ _ _⟩

set_option maxRecDepth 100000 in
theorem or_tv (b : Bool) (g : Value) (w : World) : Calls Tryz.prog 68 #[g, fa (tv b) es true es 1] w fun e w' => e = .returned (fa (tv b) es true es 1) ∧ Below w.heap.size w w' := by
  have ht := test_tv b
  unfold fa
  go_enter Tryz.func68, Tryz.ntmps68
  go_wp2_with fail
  refine (newBool_any b _).mono ?_
  rintro e w1 ⟨rfl, hb⟩
  change Below _ _ w1 at hb
  obtain ⟨hc, hfr⟩ := bcell hb
  rw [show (if b then one64 else 0) = tv b from rfl]
  unfold fa
  go_wp2_with fail
  exact end_cell Tryz.results68 rfl (Bk.set10 (Bk.below (Bk.new_at (by simp)) hb (by simp)) _ _ _ _ _ _ _ _ _ _) Tryz.underlying70 rfl info_fa rfl
    ⟨rfl, Below.set10 (Below.lift (((Below.refl _ _).alloc (Nat.le_refl _) _).alloc (by simp) _) (by simp; omega) hb) (by simp) _ _ _ _ _ _ _ _ _ _⟩

set_option maxRecDepth 100000 in
set_option maxHeartbeats 2000000 in
theorem OR_list (l : List Bool) (hl0 : 1 ≤ l.length) (hl : l.length ≤ 30) (w : World) (g L : Nat) (el : List Nat) (h : IsL w L el (l.map fun b => .iface 70 (fa (tv b) es true es 1))) :
    Calls Tryz.prog 46 #[ptr g, ptr L] w fun e w' => e = .returned (fa (tv (l.any id)) es true es 1) ∧ Below w.heap.size w w' := by
  have hta := fun (u : Value) wx => run_typeAssert_struct (P := Tryz.prog) 70 20 u wx Tryz.underlying70
  have hlen : el.length = l.length := by rw [h.len, List.length_map]
  have hlm : (l.map fun b => Value.iface 70 (fa (tv b) es true es 1)).length = l.length := List.length_map ..
  obtain ⟨f0, hf0⟩ : ∃ f0, el[0]? = some f0 := ⟨el[0]'(by omega), List.getElem?_eq_getElem (by omega)⟩
  have H := hid h
  have Hf0 := hid hf0
  have Hlm := hid hlm
  have hz0 : ((l.length : Int) == 0) = false := by
    rw [beq_eq_false_iff_ne]; omega
  have h30 : ¬ (30 : Int) < (l.length : Int) := by omega
  clear h hf0 hlm
  go_enter Tryz.func46, Tryz.ntmps46
  go_wp2_with fail
  refine (len_any (H.out.keep ((Below.refl _ _).alloc (Nat.le_refl _) _))).mono ?_
  rintro e w1 ⟨rfl, rfl⟩
  rw [Hlm.out]
  go_wp2_with fail
  refine (len_any (H.out.keep ((Below.refl _ _).alloc (Nat.le_refl _) _))).mono ?_
  rintro e w1 ⟨rfl, rfl⟩
  rw [Hlm.out]
  go_wp2_with fail
  refine (front_any (H.out.keep ((Below.refl _ _).alloc (Nat.le_refl _) _)) Hf0.out).mono ?_
  rintro e w1 ⟨rfl, rfl⟩
  go_wp2_with fail
  go_loopg [5, 6] l.length (fun gg u i wr => ∃ (k : Nat), k ≤ l.length ∧ gg = l.length - k ∧ u = .bool ((l.take k).any id) ∧ Hid (i = elAt el k) ∧ Below (w.heap.size + 1) (w.alloc (.cells #[.string ⟨#[]⟩, .float .f64 0, .string ⟨#[]⟩, .slice none 0 0, .slice none 0 0, .bool false, .string ⟨#[]⟩, .int .u8 0, .pointer none, .pointer none] 70)) wr)
  case atStart => exact ⟨0, by omega, rfl, rfl, by show _ = _; unfold elAt; rw [Hf0.out], Below.refl _ _⟩
  case round =>
    obtain ⟨k, hk, hgk, rfl, hi, hb⟩ := hrel
    have hz : w.heap.size + 1 ≤ wr.heap.size := by have := hb.size; simpa using this
    have hbw : Below w.heap.size w wr := Below.lift ((Below.refl _ _).alloc (Nat.le_refl _) _) (by simp) (hb.mono (by simp))
    by_cases hlt : k < l.length
    · obtain ⟨b, hbk⟩ : ∃ b, l[k]? = some b := ⟨l[k], List.getElem?_eq_getElem hlt⟩
      obtain ⟨f, hf, hflt, hv⟩ := H.out.at_ (i := k) (v := .iface 70 (fa (tv b) es true es 1)) (by rw [List.getElem?_map, hbk]; rfl)
      have hi' := hi.out
      unfold elAt at hi'
      rw [hf] at hi'
      change _ = ptr f at hi'
      subst hi'
      have gv : wr.cell? ⟨f, 3, none⟩ = _ := (hbw.cell (p := ⟨f, 3, none⟩) hflt).trans hv
      have gl : f < wr.heap.size := by omega
      have hA : Hid ((l.take (k + 1)).any id = ((l.take k).any id || b)) := by
        show _ = _
        rw [List.take_add_one, hbk]; simp
      have ht := test_tv b
      have Hf := hid hf
      have hn1 : Hid (∀ w', Below wr.heap.size wr w' → Calls Tryz.prog 59 #[ptr f] w' fun e w'' => e = .returned (elAt el (k + 1)) ∧ w' = w'') := by
        show ∀ _, _
        intro w' hb'
        have hk' := H.out.keep (hbw.trans (hb'.mono (by omega)))
        by_cases hlast : k + 1 < l.length
        · have h1 : el[k + 1]? = some (el[k + 1]'(by omega)) := List.getElem?_eq_getElem (by omega)
          have := next_some hk' Hf.out h1
          unfold elAt
          rw [h1]; exact this
        · have := next_none hk' Hf.out (by omega)
          unfold elAt
          rw [List.getElem?_eq_none (by omega)]; exact this
      clear hv hf hbk
      unfold fa at gv
      generalize (l.take k).any id = A at *
      cases A
      all_goals
        go_wp2_with fail
        refine (or_tv b _ _).mono ?_
        rintro e w2 ⟨rfl, hb2⟩
        have hz2 : wr.heap.size ≤ w2.heap.size := hb2.size
        have hr2 : Below wr.heap.size wr w2 := hb2
        have hb2' : Below (w.heap.size + 1) (w.alloc (.cells #[.string ⟨#[]⟩, .float .f64 0, .string ⟨#[]⟩, .slice none 0 0, .slice none 0 0, .bool false, .string ⟨#[]⟩, .int .u8 0, .pointer none, .pointer none] 70)) w2 := Below.lift hb hz hb2
        first
          | (have hN := Bk.below (Bk.new wr 70 #[.string es, .float .f64 (tv b), .string es, .slice none 0 0, .slice none 0 0, .bool true, .string es, .int .u8 1, .pointer none, .pointer none]) hb2 (by simp)
             obtain ⟨c0, c1, c2, c3, c4, c5, c6, c7, c8, c9, cf⟩ := hN.cells10)
          | skip
        clear hb2 gv
        unfold fa
        go_wp2_with fail
        refine (hn1.out _ (by first | exact hr2.alloc (by omega) _ | exact hr2)).mono ?_
        rintro e w3 ⟨rfl, rfl⟩
        go_wp2_with fail
        go_roundg (l.length - (k + 1))
        case measure => omega
        case rel => exact ⟨k + 1, by omega, rfl, by rw [hA.out]; simp, rfl, hb2'.alloc (by omega) _⟩
    · have hkl : k = l.length := by omega
      have hi' := hi.out
      unfold elAt at hi'
      rw [List.getElem?_eq_none (by omega)] at hi'
      change _ = Value.pointer none at hi'
      subst hi'
      have hA : Hid ((l.take k).any id = l.any id) := by show _ = _; rw [hkl, List.take_length]
      have hB := (Bk.new w 70 #[.string ⟨#[]⟩, .float .f64 0, .string ⟨#[]⟩, .slice none 0 0, .slice none 0 0, .bool false, .string ⟨#[]⟩, .int .u8 0, .pointer none, .pointer none]).below hb (by simp)
      go_wp2_with fail
      refine (newBool_any _ _).mono ?_
      rintro e w4 ⟨rfl, hb4⟩
      rw [hA.out, show (if (l.any id) = true then one64 else 0) = tv (l.any id) from rfl]
      have hB4 := hB.below hb4 (by omega)
      have hd4 := Below.lift hbw (by omega) hb4
      have hz4 : w.heap.size < w4.heap.size := by have := hb4.size; omega
      obtain ⟨q0, q1, q2, q3, q4, q5, q6, q7, q8, q9, qf⟩ := hB4.cells10
      clear hb4 hB hbw
      unfold fa
      go_wp2_with fail
      exact end_cell Tryz.results46 rfl (Bk.set10 hB4 _ _ _ _ _ _ _ _ _ _) Tryz.underlying70 rfl info_fa rfl
        ⟨rfl, Below.set10 hd4 (Nat.le_refl _) _ _ _ _ _ _ _ _ _ _⟩

def svb (b : Bool) : SV := (3, b2i b, 0, es)
theorem avI_svb (b : Bool) : avI (avOf (svb b)) = .iface 70 (fa (tv b) es true es 1) := avI_log b
theorem map_svb (l : List Bool) : ((l.map svb).map avOf).map avI = l.map fun b => .iface 70 (fa (tv b) es true es 1) := by
  rw [List.map_map, List.map_map]
  exact List.map_congr_left fun b _ => avI_svb b
end Go.Proofs.YtjnlghokhlmjlaaGreatDoor
