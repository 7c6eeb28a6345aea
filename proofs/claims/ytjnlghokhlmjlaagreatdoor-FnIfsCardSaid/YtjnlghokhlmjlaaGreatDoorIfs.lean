import Derived.Test.YtjnlghokhlmjlaaGreatDoorAndOr
import Derived.Test.YtjnlghokhlmjlaaGreatDoorDoor
namespace Go.Proofs.YtjnlghokhlmjlaaGreatDoor
open Go.RowKit
attribute [local go_sem] run_store_float

/-- a pair of arguments of IFS, as values of the list -/
def pv (p : Bool × Int) : List Value := [.iface 70 (fa (tv p.1) es true es 1), .iface 70 (fa (enc p.2 0) es false es 1)]
def na : ByteArray := ⟨#[35, 78, 47, 65]⟩
def ifsR (l : List (Bool × Int)) : Res :=
  match l.find? (·.1) with
  | some p => .num (enc p.2 0)
  | none => .err na na

theorem pv_at (l : List (Bool × Int)) : ∀ (k : Nat) (p : Bool × Int), l[k]? = some p →
    (l.flatMap pv)[2 * k]? = some (.iface 70 (fa (tv p.1) es true es 1)) ∧ (l.flatMap pv)[2 * k + 1]? = some (.iface 70 (fa (enc p.2 0) es false es 1)) := by
  induction l with
  | nil => intro k p h; simp at h
  | cons a l ih =>
    intro k p h
    rw [List.flatMap_cons]
    have hl : (pv a).length = 2 := rfl
    cases k with
    | zero => simp at h; subst h; exact ⟨rfl, rfl⟩
    | succ k =>
      have h' : l[k]? = some p := by simpa using h
      rw [List.getElem?_append_right (by rw [hl]; omega), List.getElem?_append_right (by rw [hl]; omega), hl, show 2 * (k + 1) - 2 = 2 * k by omega, show 2 * (k + 1) + 1 - 2 = 2 * k + 1 by omega]
      exact ih k p h'
theorem pv_len (l : List (Bool × Int)) : (l.flatMap pv).length = 2 * l.length := by
  induction l with
  | nil => rfl
  | cons a l ih =>
    have hl : (pv a).length = 2 := rfl
    rw [List.flatMap_cons, List.length_append, ih, hl, List.length_cons]; omega

theorem order_tv_one (b : Bool) : (FloatKind.f64.format.order (tv b) 4607182418800017408 == some .eq) = b := by
  cases b <;> decide

set_option maxRecDepth 100000 in
theorem toBool_tv (b : Bool) (w : World) : Calls Tryz.prog 60 #[fa (tv b) es true es 1] w fun e w' => e = .returned (fa (tv b) es true es 1) ∧ Below w.heap.size w w' := by
  have ht := order_tv_one b
  unfold fa
  cases b
  all_goals
    go_enter Tryz.func60, Tryz.ntmps60
    go_wp2_with fail
    refine (newBool_any _ _).mono ?_
    rintro e w1 ⟨rfl, hb⟩
    change Below _ _ w1 at hb
    obtain ⟨hc, hfr⟩ := bcell hb
    first | rw [show (if true = true then one64 else 0) = tv true from rfl] | rw [show (if false = true then one64 else 0) = tv false from rfl]
    unfold fa
    go_wp2_with fail
    exact end_cell Tryz.results60 rfl (Bk.set10 (Bk.below (Bk.new_at (by simp)) hb (by simp)) _ _ _ _ _ _ _ _ _ _) Tryz.underlying70 rfl info_fa rfl
      ⟨rfl, Below.set10 (Below.lift (((Below.refl _ _).alloc (Nat.le_refl _) _).alloc (by simp) _) (by simp; omega) hb) (by simp) _ _ _ _ _ _ _ _ _ _⟩

theorem find_take {l : List (Bool × Int)} {k : Nat} {p : Bool × Int} (h : (l.take k).find? (·.1) = none) (hk : l[k]? = some p) (hp : p.1 = true) : l.find? (·.1) = some p := by
  have e : l = l.take k ++ l.drop k := (List.take_append_drop k l).symm
  have e2 : l.drop k = p :: l.drop (k + 1) := by
    have hlt := (List.getElem?_eq_some_iff.1 hk).1
    rw [List.drop_eq_getElem_cons hlt]
    congr 1
    rw [List.getElem?_eq_getElem hlt] at hk
    exact Option.some.inj hk
  rw [e, List.find?_append, h, e2]
  simp [hp]
theorem find_next {l : List (Bool × Int)} {k : Nat} {p : Bool × Int} (h : (l.take k).find? (·.1) = none) (hk : l[k]? = some p) (hp : p.1 = false) : (l.take (k + 1)).find? (·.1) = none := by
  rw [List.take_add_one, hk, List.find?_append, h]
  simp [hp]

set_option maxRecDepth 100000 in
set_option maxHeartbeats 2000000 in
theorem IFS_list (l : List (Bool × Int)) (hl0 : 1 ≤ l.length) (hl : l.length ≤ 15) (hI : ∀ p ∈ l, p.2.natAbs < 9007199254740992) (w : World) (g L : Nat) (el : List Nat) (h : IsL w L el (l.flatMap pv)) :
    Calls Tryz.prog 41 #[ptr g, ptr L] w fun e w' => e = .returned (ifsR l).fa ∧ Below w.heap.size w w' := by
  have hta := fun (u : Value) wx => run_typeAssert_struct (P := Tryz.prog) 70 20 u wx Tryz.underlying70
  have hlm : (l.flatMap pv).length = 2 * l.length := pv_len l
  have hlen : el.length = 2 * l.length := by rw [h.len, hlm]
  obtain ⟨f0, hf0⟩ : ∃ f0, el[0]? = some f0 := ⟨el[0]'(by omega), List.getElem?_eq_getElem (by omega)⟩
  have H := hid h
  have Hf0 := hid hf0
  have Hlm : Hid (((l.flatMap pv).length : Int) = ((2 * l.length : Nat) : Int)) := by show _ = _; rw [hlm]
  have HI := hid hI
  have hz0 : ¬ (((2 * l.length : Nat) : Int) < 2) := by omega
  clear h hf0 hlm hI
  go_enter Tryz.func41, Tryz.ntmps41
  go_wp2_with fail
  refine (len_any (H.out.keep ((Below.refl _ _).alloc (Nat.le_refl _) _))).mono ?_
  rintro e w1 ⟨rfl, rfl⟩
  rw [Hlm.out]
  go_wp2_with fail
  refine (front_any (H.out.keep ((Below.refl _ _).alloc (Nat.le_refl _) _)) Hf0.out).mono ?_
  rintro e w1 ⟨rfl, rfl⟩
  clear hz0
  go_wp2_with fail
  go_loopg [5] l.length (fun gg i wr => ∃ (k : Nat), k ≤ l.length ∧ gg = l.length - k ∧ Hid (i = elAt el (2 * k)) ∧ Hid ((l.take k).find? (·.1) = none) ∧ Below (w.heap.size + 1) (w.alloc (.cells #[.string ⟨#[]⟩, .float .f64 0, .string ⟨#[]⟩, .slice none 0 0, .slice none 0 0, .bool false, .string ⟨#[]⟩, .int .u8 0, .pointer none, .pointer none] 70)) wr)
  case atStart => exact ⟨0, by omega, rfl, by show _ = _; unfold elAt; rw [Nat.mul_zero, Hf0.out], by show _ = _; rfl, Below.refl _ _⟩
  case round =>
    obtain ⟨k, hk, hgk, hi, hno, hb⟩ := hrel
    have hz : w.heap.size + 1 ≤ wr.heap.size := by have := hb.size; simpa using this
    have hbw : Below w.heap.size w wr := Below.lift ((Below.refl _ _).alloc (Nat.le_refl _) _) (by simp) (hb.mono (by simp))
    by_cases hlt : k < l.length
    · obtain ⟨⟨b, n⟩, hbk⟩ : ∃ p, l[k]? = some p := ⟨l[k], List.getElem?_eq_getElem hlt⟩
      have hpv := pv_at l k (b, n) hbk
      obtain ⟨f, hf, hflt, hv⟩ := H.out.at_ (i := 2 * k) hpv.1
      obtain ⟨f', hf', hflt', hv'⟩ := H.out.at_ (i := 2 * k + 1) hpv.2
      have hi' := hi.out
      unfold elAt at hi'
      rw [hf] at hi'
      change _ = ptr f at hi'
      subst hi'
      have gv : wr.cell? ⟨f, 3, none⟩ = _ := (hbw.cell (p := ⟨f, 3, none⟩) hflt).trans hv
      have Gv' : Hid (w.cell? ⟨f', 3, none⟩ = _) := hid hv'
      have gl : f < wr.heap.size := by omega
      have Hf := hid hf
      have Hf' := hid hf'
      have HS := hid (fun hp => find_next hno.out hbk hp)
      have HE := hid (fun hp => find_take hno.out hbk hp)
      have Hn := hid (HI.out (b, n) (List.mem_of_getElem? hbk))
      have ht := order_tv_one b
      have hn1 : Hid (∀ w', Below wr.heap.size wr w' → Calls Tryz.prog 59 #[ptr f] w' fun e w'' => e = .returned (ptr f') ∧ w' = w'') := by
        show ∀ _, _
        intro w' hb'
        exact next_some (H.out.keep (hbw.trans (hb'.mono (by omega)))) Hf.out Hf'.out
      have hn2 : Hid (∀ w', Below wr.heap.size wr w' → Calls Tryz.prog 59 #[ptr f'] w' fun e w'' => e = .returned (elAt el (2 * (k + 1))) ∧ w' = w'') := by
        show ∀ _, _
        intro w' hb'
        have hk' := H.out.keep (hbw.trans (hb'.mono (by omega)))
        by_cases hlast : k + 1 < l.length
        · have h1 : el[2 * k + 1 + 1]? = some (el[2 * (k + 1)]'(by omega)) := List.getElem?_eq_getElem (by omega)
          have := next_some hk' Hf'.out h1
          unfold elAt
          rw [show 2 * (k + 1) = 2 * k + 1 + 1 by omega, h1]; exact this
        · have := next_none hk' Hf'.out (by omega)
          unfold elAt
          rw [List.getElem?_eq_none (by omega)]; exact this
      clear hv hv' hf hf' hbk hpv hi hno
      unfold fa at gv Gv'
      go_wp2_with fail
      refine (toBool_tv b _).mono ?_
      rintro e w2 ⟨rfl, hb2⟩
      have hz2 : wr.heap.size ≤ w2.heap.size := hb2.size
      have hb2' : Below (w.heap.size + 1) (w.alloc (.cells #[.string ⟨#[]⟩, .float .f64 0, .string ⟨#[]⟩, .slice none 0 0, .slice none 0 0, .bool false, .string ⟨#[]⟩, .int .u8 0, .pointer none, .pointer none] 70)) w2 := Below.lift hb hz hb2
      have hbw2 : Below w.heap.size w w2 := Below.lift hbw (by omega) hb2
      have hfd : ∀ wx : World, (Instr.field 70 (fa (tv b) es true es 1) 1).run Tryz.prog wx = .ok (.float .f64 (tv b)) wx := fun _ => by kernel_rfl
      unfold fa at hfd
      clear gv hb hbw
      unfold fa
      cases b
      · have hs := hid (HS.out rfl)
        clear HS HE
        go_wp2_with fail
        refine (hn1.out _ hb2).mono ?_
        rintro e w3 ⟨rfl, rfl⟩
        go_wp2_with fail
        refine (hn2.out _ hb2).mono ?_
        rintro e w3 ⟨rfl, rfl⟩
        go_wp2_with fail
        go_roundg (l.length - (k + 1))
        case measure => omega
        case rel => exact ⟨k + 1, by omega, rfl, rfl, hs.out, hb2'⟩
      · have hs := hid (HE.out rfl)
        clear HS HE
        go_wp2_with fail
        refine (hn1.out _ hb2).mono ?_
        rintro e w3 ⟨rfl, rfl⟩
        have gv : w2.cell? ⟨f', 3, none⟩ = _ := (hbw2.cell (p := ⟨f', 3, none⟩) hflt').trans Gv'.out
        have gl' : f' < w2.heap.size := by omega
        have hB := (Bk.new w 70 #[.string ⟨#[]⟩, .float .f64 0, .string ⟨#[]⟩, .slice none 0 0, .slice none 0 0, .bool false, .string ⟨#[]⟩, .int .u8 0, .pointer none, .pointer none]).below hb2' (by simp)
        obtain ⟨q0, q1, q2, q3, q4, q5, q6, q7, q8, q9, qf⟩ := hB.cells10
        have hlt2 : w.heap.size < w2.heap.size := by omega
        have hA : Hid (ifsR l = .num (enc n 0)) := by show _ = _; unfold ifsR; rw [hs.out]
        go_wp2_with fail
        exact end_cell Tryz.results41 rfl (Bk.set10 hB _ _ _ _ _ _ _ _ _ _) Tryz.underlying70 rfl info_fa rfl
          ⟨by rw [hA.out]; rfl, Below.set10 hbw2 (Nat.le_refl _) _ _ _ _ _ _ _ _ _ _⟩
    · have hkl : k = l.length := by omega
      have hi' := hi.out
      unfold elAt at hi'
      rw [List.getElem?_eq_none (by omega)] at hi'
      change _ = Value.pointer none at hi'
      subst hi'
      have hA : Hid (ifsR l = .err na na) := by
        show _ = _
        unfold ifsR
        have := hno.out
        rw [hkl, List.take_length] at this
        rw [this]
      have hB := (Bk.new w 70 #[.string ⟨#[]⟩, .float .f64 0, .string ⟨#[]⟩, .slice none 0 0, .slice none 0 0, .bool false, .string ⟨#[]⟩, .int .u8 0, .pointer none, .pointer none]).below hb (by simp)
      clear hno hi
      go_wp2_with fail
      refine (newError_any _ _ _).mono ?_
      rintro e w4 ⟨rfl, hb4⟩
      have hB4 := hB.below hb4 (by omega)
      have hd4 := Below.lift hbw (by omega) hb4
      have hz4 : w.heap.size < w4.heap.size := by have := hb4.size; omega
      obtain ⟨q0, q1, q2, q3, q4, q5, q6, q7, q8, q9, qf⟩ := hB4.cells10
      clear hb4 hB hbw
      unfold fa
      go_wp2_with fail
      exact end_cell Tryz.results41 rfl (Bk.set10 hB4 _ _ _ _ _ _ _ _ _ _) Tryz.underlying70 rfl info_fa rfl
        ⟨by rw [hA.out]; rfl, Below.set10 hd4 (Nat.le_refl _) _ _ _ _ _ _ _ _ _ _⟩
end Go.Proofs.YtjnlghokhlmjlaaGreatDoor
