import Derived.Test.YtjnlghokhlmjlaaGreatDoorAgreeN
import Derived.Test.YtjnlghokhlmjlaaGreatDoorIfsS
import Derived.Test.YtjnlghokhlmjlaaGreatDoorIfs
namespace Go.Proofs.YtjnlghokhlmjlaaGreatDoor
open Go.RowKit
attribute [local go_sem] run_store_float

set_option maxRecDepth 100000 in
theorem CallLogic_IFS (v : Value) (k n d : Int) (t : ByteArray) (w : World)
    (H1 : ∀ W, Below w.heap.size w W → Calls Tryz.prog 129 #[v] W fun e w' => e = .returned (sv k n d t) ∧ Below W.heap.size W w') :
    Calls Tryz.prog 53 #[.string ⟨#[73, 70, 83]⟩, v] w fun e w' => e = .returned (.tuple #[sv k n d t, .bool true]) ∧ Below w.heap.size w w' := by
  have K1 := hid H1
  clear H1
  go_enter Tryz.func53, Tryz.ntmps53
  go_wp2_with fail
  refine (K1.out _ ((Below.refl _ _).alloc (Nat.le_refl _) _)).mono ?_
  rintro e w1 ⟨rfl, hb1⟩
  have hB := Bk.below (Bk.new w 27 #[.int .i64 0, .int .i64 0, .int .i64 0, .string ⟨#[]⟩, .slice none 0 0]) hb1 (by simp)
  obtain ⟨q0, q1, q2, q3, q4, qf⟩ := hB.cells5
  unfold sv
  go_wp2_with fail
  exact end_cell_tmp Tryz.results53 rfl (Bk.set5 hB _ _ _ _ _) Tryz.underlying27 rfl info_sv rfl
    ⟨rfl, Below.set5 (Below.lift ((Below.refl _ _).alloc (Nat.le_refl _) _) (by simp) hb1) (by simp) _ _ _ _ _⟩

theorem numeric_row (l : List (Bool × Int)) (a : SV) (ha : a ∈ row l) (W : World) : Calls Tryz.prog 152 #[svV a] W fun e w' => e = .returned (.bool (a.1 != 6)) ∧ Below W.heap.size W w' := by
  obtain ⟨p, _, h | h⟩ := row_mem ha
  · subst h; exact numeric_yes 3 (b2i p.1) 0 es W (.inr rfl)
  · subst h
    cases hk : okI p.2
    · rw [wv_no hk]; exact numeric_no 6 0 0 es W rfl rfl rfl
    · rw [wv_yes hk]; exact numeric_yes 1 p.2 1 es W (.inl rfl)

section
variable (l : List (Bool × Int)) (hl : l.length ≤ 15) (A : Option Addr) (c : Nat) (w : World) (h : Sl w w.heap.size 5 (.slice A (row l).length c) (row l).length ((row l).flatMap svCells))
include hl h
theorem fits_IFS (W : World) (hW : Below w.heap.size w W) : Calls Tryz.prog 47 #[.string ⟨#[73, 70, 83]⟩, .slice A (row l).length c] W fun e w' => e = .returned (.bool (fitsR l)) ∧ Below W.heap.size W w' := by
  have hS2 := (h.keep hW).more hW.size
  refine Fits_IFS _ (fitsR l) W (fun V hV => ?_) (fun V _ => fitsTexts_miss_IFS A _ c V) (fun V hV => ?_)
  · exact fitsNumbers_miss_IFS (row l) (fun a => a.1 != 6) _ V ((hS2.keep hV).more hV.size) (by rw [row_len]; omega) (fun a ha X => numeric_row l a ha X)
  · exact fitsChoices_IFS l hl A c _ (row_len l) V ((hS2.keep hV).more hV.size)
theorem call_IFS_no (hf : fitsR l = false) : Calls Tryz.prog 19 #[.string ⟨#[73, 70, 83]⟩, .slice A (row l).length c] w fun e w' => e = .returned (sv 6 0 0 es) ∧ Below w.heap.size w w' := by
  refine Call_IFS _ _ _ _ _ w fun W1 hW1 => CallOver_no_IFS _ W1 (fun W2 hW2 => ?_)
  have := fits_IFS l hl A c w h W2 (Below.lift hW1 hW1.size hW2)
  rwa [hf] at this
theorem call_IFS_yes (hl0 : 1 ≤ l.length) (hI : ∀ p ∈ l, okI p.2 = true) (hf : fitsR l = true) : Calls Tryz.prog 19 #[.string ⟨#[73, 70, 83]⟩, .slice A (row l).length c] w fun e w' => e = .returned (svV (ifsS l)) ∧ Below w.heap.size w w' := by
  refine Call_IFS _ _ _ _ _ w fun W1 hW1 => CallOver_IFS _ _ _ _ _ W1 (fun W2 hW2 => ?_) (fun W2 hW2 => ?_)
  · have := fits_IFS l hl A c w h W2 (Below.lift hW1 hW1.size hW2)
    rwa [hf] at this
  · have h2 : Below w.heap.size w W2 := Below.lift hW1 hW1.size hW2
    have hS2 := (h.keep h2).more h2.size
    refine CallLogic_IFS _ _ _ _ _ W2 fun W hW => ?_
    exact ifs_any l hl0 hl hI A c _ (row_len l) W ((hS2.keep hW).more hW.size)
end

theorem ok_bounds {n : Int} (h : okI n = true) : n.natAbs < 9007199254740992 := by
  have := of_decide_eq_true h
  omega
theorem row_pv (l : List (Bool × Int)) (hI : ∀ p ∈ l, okI p.2 = true) : ((row l).map avOf).map avI = l.flatMap pv := by
  unfold row
  induction l with
  | nil => rfl
  | cons a l ih =>
    rw [List.flatMap_cons, List.flatMap_cons, List.map_append, List.map_append, ih (fun p hp => hI p (List.mem_cons_of_mem _ hp))]
    congr 1
    have ha := hI a (List.mem_cons_self ..)
    simp only [List.map_cons, List.map_nil]
    rw [wv_yes ha, avI_whole _ (ok_bounds ha), avI_log]
    rfl
theorem Fn_IFS (l : List (Bool × Int)) (hl0 : 1 ≤ l.length) (hl : l.length ≤ 15) (hI : ∀ p ∈ l, okI p.2 = true) : Fn 41 ((row l).map avOf) (ifsR l) := by
  intro w g L el h
  rw [row_pv l hI] at h
  exact IFS_list l hl0 hl (fun p hp => ok_bounds (hI p hp)) w g L el h
theorem svOk_row (l : List (Bool × Int)) (hI : ∀ p ∈ l, okI p.2 = true) (a : SV) (ha : a ∈ row l) : svOk a := by
  obtain ⟨p, hp, h | h⟩ := row_mem ha
  · subst h; exact svOk_log p.1
  · rw [wv_yes (hI p hp)] at h; subst h; exact svOk_whole _ (ok_bounds (hI p hp))
theorem ifs_ok (l : List (Bool × Int)) (hI : ∀ p ∈ l, okI p.2 = true) : svOk (ifsS l) ∧ (ifsS l).1 ≠ 3 ∧ unsure (ifsS l) = false ∧ avV (ifsR l).av = iv (ifsS l).1 (fnum (ifsS l)) (ifsS l).2.2.2 := by
  unfold ifsS ifsR
  cases hf : l.find? (·.1) with
  | some p =>
    have hp := hI p (List.mem_of_find?_eq_some hf)
    exact ⟨svOk_whole _ (ok_bounds hp), by simp, rfl, by show iv 1 (enc p.2 0) es = iv 1 (fnum (1, p.2, 1, es)) es; rw [fnum_whole]⟩
  | none =>
    refine ⟨⟨fun h => absurd h (by simp), by simp⟩, by simp, rfl, ?_⟩
    show iv 4 0 na = iv 4 (fnum (4, 0, 0, naS)) naS
    unfold fnum; rw [if_neg (by simp), if_neg (by simp)]; rfl

theorem agree_IFS (l : List (Bool × Int)) (hl : l.length ≤ 15) (A : Option Addr) (c : Nat) (w : World) (h : Sl w w.heap.size 5 (.slice A (row l).length c) (row l).length ((row l).flatMap svCells)) :
    Calls Tryz.prog 8 #[.func (.func 9) #[] #[], .string ⟨#[73, 70, 83]⟩, .slice A (row l).length c] w fun e w' => e = .returned (.bool true) ∧ Below w.heap.size w w' := by
  have hlen : (row l).length ≤ 1000 := by rw [row_len]; omega
  by_cases hf : fitsR l = true
  · have h2 := hf
    unfold fitsR at h2
    rw [Bool.and_eq_true] at h2
    have hl0 : 1 ≤ l.length := of_decide_eq_true h2.1
    have hI : ∀ p ∈ l, okI p.2 = true := fun p hp => List.all_eq_true.1 h2.2 p hp
    obtain ⟨o1, o2, o3, o4⟩ := ifs_ok l hI
    refine agrees_yes_IFS (row l) (ifsS l) A c w h (svOk_row l hI) hlen o1 (fin_fnum _ o1 (fun h => absurd h o2)) ?_ ?_ ?_ o3
    · intro W hW
      exact call_IFS_yes l hl A c W ((h.keep hW).more hW.size) hl0 hI hf
    · intro W v' hv
      have := impl_IFS _ _ (Fn_IFS l hl0 hl hI) v' W hv (fun a ha => by
        obtain ⟨x, hx, rfl⟩ := List.mem_map.1 ha
        exact avOk_of _ (svOk_row l hI x hx)) (by rw [List.length_map]; exact hlen)
      rw [o4] at this
      exact this
    · rw [List.any_eq_false]
      intro a ha
      obtain ⟨p, hp, h | h⟩ := row_mem ha
      · subst h; simp [unsure]
      · rw [wv_yes (hI p hp)] at h; subst h; simp [unsure]
  · have hf' : fitsR l = false := by simpa using hf
    refine agrees_no_IFS (row l) (6, 0, 0, es) A c w h (fun a ha => ?_) hlen (by simp) ?_ (.inr rfl)
    · obtain ⟨p, _, h | h⟩ := row_mem ha
      · subst h; simp
      · subst h; rcases wv_flat p.2 with h | h <;> rw [h] <;> simp
    · intro W hW
      exact call_IFS_no l hl A c W ((h.keep hW).more hW.size) hf'

theorem argWhole_wv (n : Int) (w : World) : Calls Tryz.prog 7 #[.int .i64 n] w fun e w' => e = .returned (svV (wv n)) ∧ Below w.heap.size w w' := by
  cases hk : okI n
  · have h : n < -99999999999 ∨ 99999999999 < n := by have := of_decide_eq_false hk; omega
    rw [wv_no hk]
    have Hh := hid h
    clear h
    go_enter Tryz.func7, Tryz.ntmps7
    go_wp2_with fail
    refine (int_no n _ Hh.out).mono ?_
    rintro e w1 ⟨rfl, hb⟩
    obtain ⟨hc, hf⟩ := bcell hb
    unfold sv
    go_wp2_with fail
    exact end_cell Tryz.results7 rfl (Bk.set5 ((Bk.new w _ _).below hb (by simp)) _ _ _ _ _) Tryz.underlying27 rfl info_sv rfl
      ⟨rfl, Below.set5 (Below.lift ((Below.refl _ _).alloc (Nat.le_refl _) _) (by simp) hb) (Nat.le_refl _) _ _ _ _ _⟩
  · rw [wv_yes hk]
    have := of_decide_eq_true hk
    exact argWhole_ok n w this.1 this.2
end Go.Proofs.YtjnlghokhlmjlaaGreatDoor
