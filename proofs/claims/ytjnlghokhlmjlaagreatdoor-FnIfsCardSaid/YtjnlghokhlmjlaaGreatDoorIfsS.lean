import Derived.Test.YtjnlghokhlmjlaaGreatDoorNotS
import Derived.Test.YtjnlghokhlmjlaaGreatDoorFlat
import Derived.Test.YtjnlghokhlmjlaaGreatDoorCall
import Derived.Test.YtjnlghokhlmjlaaGreatDoorFrac
namespace Go.Proofs.YtjnlghokhlmjlaaGreatDoor
open Go.RowKit
attribute [local go_sem] run_store_float

/-- a whole number as an argument: unsure where it is too great -/
def wv (n : Int) : SV := if -99999999999 ≤ n ∧ n ≤ 99999999999 then (1, n, 1, es) else (6, 0, 0, es)
def row (l : List (Bool × Int)) : List SV := l.flatMap fun p => [(3, b2i p.1, 0, es), wv p.2]
def okI (n : Int) : Bool := decide (-99999999999 ≤ n ∧ n ≤ 99999999999)
theorem wv_yes {n : Int} (h : okI n = true) : wv n = (1, n, 1, es) := if_pos (of_decide_eq_true h)
theorem wv_no {n : Int} (h : okI n = false) : wv n = (6, 0, 0, es) := if_neg (of_decide_eq_false h)
theorem wv_flat (n : Int) : (wv n).1 = 1 ∨ (wv n).1 = 6 := by
  cases h : okI n
  · rw [wv_no h]; exact .inr rfl
  · rw [wv_yes h]; exact .inl rfl

theorem row_at (l : List (Bool × Int)) : ∀ (k : Nat) (p : Bool × Int), l[k]? = some p → (row l)[2 * k]? = some (3, b2i p.1, 0, es) ∧ (row l)[2 * k + 1]? = some (wv p.2) := by
  unfold row
  induction l with
  | nil => intro k p h; simp at h
  | cons a l ih =>
    intro k p h
    rw [List.flatMap_cons]
    have hl : ([(3, b2i a.1, 0, es), wv a.2] : List SV).length = 2 := rfl
    cases k with
    | zero => simp at h; subst h; exact ⟨rfl, rfl⟩
    | succ k =>
      have h' : l[k]? = some p := by simpa using h
      rw [List.getElem?_append_right (by rw [hl]; omega), List.getElem?_append_right (by rw [hl]; omega), hl, show 2 * (k + 1) - 2 = 2 * k by omega, show 2 * (k + 1) + 1 - 2 = 2 * k + 1 by omega]
      exact ih k p h'
theorem row_len (l : List (Bool × Int)) : (row l).length = 2 * l.length := by
  unfold row
  induction l with
  | nil => rfl
  | cons a l ih =>
    have hl : ([(3, b2i a.1, 0, es), wv a.2] : List SV).length = 2 := rfl
    rw [List.flatMap_cons, List.length_append, ih, hl, List.length_cons]; omega
theorem row_mem {l : List (Bool × Int)} {a : SV} (h : a ∈ row l) : ∃ p ∈ l, a = (3, b2i p.1, 0, es) ∨ a = wv p.2 := by
  unfold row at h
  obtain ⟨p, hp, ha⟩ := List.mem_flatMap.1 h
  simp at ha
  exact ⟨p, hp, ha⟩

/-- the cells of the value k of a row of flat values -/
theorem row_cells {b o : Nat} {l : List SV} {W : World} (hc : ∀ j u, (l.flatMap svCells)[j]? = some u → W.cell? ⟨b, o + j, none⟩ = some u) {m : Nat} {a : SV} (ha : l[m]? = some a) :
    W.cell? ⟨b, o + m * 5, none⟩ = some (.int .i64 a.1) ∧ W.cell? ⟨b, o + m * 5 + 1, none⟩ = some (.int .i64 a.2.1) ∧ W.cell? ⟨b, o + m * 5 + 2, none⟩ = some (.int .i64 a.2.2.1) ∧
      W.cell? ⟨b, o + m * 5 + 3, none⟩ = some (.string a.2.2.2) ∧ W.cell? ⟨b, o + m * 5 + 4, none⟩ = some (.slice none 0 0) := by
  have f := fun j (hj : j < 5) => flat_at svCells 5 svCells_len l m a j ha hj
  exact ⟨by have := hc (m * 5 + 0) _ ((f 0 (by omega)).trans rfl); simpa using this, hc (m * 5 + 1) _ ((f 1 (by omega)).trans rfl), hc (m * 5 + 2) _ ((f 2 (by omega)).trans rfl),
    hc (m * 5 + 3) _ ((f 3 (by omega)).trans rfl), hc (m * 5 + 4) _ ((f 4 (by omega)).trans rfl)⟩

theorem choice_log (n d : Int) (t : ByteArray) (w : World) : Calls Tryz.prog 165 #[sv 3 n d t] w fun e w' => e = .returned (.bool true) ∧ Below w.heap.size w w' := by
  unfold sv
  go_enter Tryz.func165, Tryz.ntmps165
  go_wp2_with fail
  go_ret
  exact ⟨rfl, (Below.refl _ _).alloc (Nat.le_refl _) _⟩
theorem given_wv (n : Int) (w : World) : Calls Tryz.prog 167 #[svV (wv n)] w fun e w' => e = .returned (.bool (okI n)) ∧ Below w.heap.size w w' := by
  cases h : okI n
  · rw [wv_no h]
    unfold svV sv
    go_enter Tryz.func167, Tryz.ntmps167
    go_wp2_with fail
    go_ret
    exact ⟨rfl, (Below.refl _ _).alloc (Nat.le_refl _) _⟩
  · rw [wv_yes h]
    unfold svV sv
    go_enter Tryz.func167, Tryz.ntmps167
    go_wp2_with fail
    go_ret
    exact ⟨rfl, (Below.refl _ _).alloc (Nat.le_refl _) _⟩

def fitsR (l : List (Bool × Int)) : Bool := decide (0 < l.length) && l.all fun p => okI p.2

set_option maxRecDepth 100000 in
set_option maxHeartbeats 1000000 in
/-- what the reference asks of IFS's arguments -/
theorem fitsChoices_IFS (l : List (Bool × Int)) (hl : l.length ≤ 15) (A : Option Addr) (c N : Nat) (hN : N = 2 * l.length) (w : World) (h : Sl w w.heap.size 5 (.slice A N c) N ((row l).flatMap svCells)) :
    Calls Tryz.prog 71 #[.string ⟨#[73, 70, 83]⟩, .slice A N c] w fun e w' => e = .returned (.tuple #[.bool (fitsR l), .bool true]) ∧ Below w.heap.size w w' := by
  obtain ⟨A', c', hv, _, hc⟩ := h
  simp only [Value.slice.injEq] at hv
  obtain ⟨rfl, _, rfl⟩ := hv
  have HN := hid hN
  have HC := hid hc
  have hN30 : N ≤ 30 := by omega
  clear hN hc
  go_enter Tryz.func71, Tryz.ntmps71
  go_wp2_with fail
  go_loopw [7] (fun i wr => ∃ (k m : Nat), k ≤ l.length ∧ m = 2 * k ∧ i = .int .i64 (m : Int) ∧ Hid ((l.take k).all (fun p => okI p.2) = true) ∧ Below w.heap.size w wr) (fun i _ => N - (intOf i).toNat)
  case atStart => exact ⟨0, 0, by omega, rfl, rfl, by show _ = _; rfl, (Below.refl _ _).alloc (Nat.le_refl _) _⟩
  case round =>
    obtain ⟨k, m, hk, hm, rfl, hall, hb⟩ := hrel
    have HM := hid hm
    by_cases hlt : k < l.length
    · have hmN : m < N := by have := HN.out; omega
      have hm1 : m + 1 < N := by have := HN.out; omega
      have hne : ((m : Int) + 1 == (N : Int)) = false := by rw [beq_eq_false_iff_ne]; omega
      obtain ⟨b, o, rfl, hbB, hcell⟩ := HC.out (by omega)
      obtain ⟨p, hp⟩ : ∃ p, l[k]? = some p := ⟨l[k], List.getElem?_eq_getElem hlt⟩
      have hr := row_at l k p hp
      rw [← hm] at hr
      have HR2 := hid hr.2
      have HCl := hid hcell
      obtain ⟨g0, g1, g2, g3, g4⟩ := row_cells (fun j u hu => (hb.cell (p := ⟨b, o + j, none⟩) hbB).trans (hcell j u hu)) hr.1
      have HG := hid (given_wv p.2)
      have HY : Hid (okI p.2 = true → (l.take (k + 1)).all (fun p => okI p.2) = true) := fun h => by
        rw [List.take_add_one, hp, List.all_append, hall.out]; simp [h]
      have HX : Hid (okI p.2 = false → fitsR l = false) := fun h => by
        unfold fitsR
        rw [List.all_eq_false.2 ⟨p, List.mem_of_getElem? hp, by simp [h]⟩, Bool.and_false]
      clear hp hr hcell hm HC hall
      generalize wv p.2 = a at *
      go_wp2_with fail
      refine (choice_log (b2i p.1) 0 es _).mono ?_
      rintro e w2 ⟨rfl, hb2⟩
      have hb3 := Below.lift hb hb.size hb2
      obtain ⟨k0, k1, k2, k3, k4⟩ := row_cells (fun j u hu => (hb3.cell (p := ⟨b, o + j, none⟩) hbB).trans (HCl.out j u hu)) HR2.out
      have hbB2 : b < w2.heap.size := by have := hb3.size; omega
      clear g0 g1 g2 g3 g4 hb hb2
      go_wp2_with fail
      refine (HG.out _).mono ?_
      rintro e w3 ⟨rfl, hb4⟩
      have hb5 := Below.lift hb3 hb3.size hb4
      clear hb3 hb4 k0 k1 k2 k3 k4
      cases hok : okI p.2
      · have hf := hid (HX.out hok)
        clear hok HX HY
        go_wp2_with fail
        go_ret2
        exact ⟨by rw [hf.out]; rfl, hb5⟩
      · have hy := hid (HY.out hok)
        clear hok HX HY
        go_wp2_with fail
        go_roundw
        case rel => exact ⟨k + 1, m + 2, by omega, by have := HM.out; omega, by go_num, hy.out, hb5⟩
        case measure => simp [intOf]; omega
    · have hkl : k = l.length := by omega
      have hall' : Hid (l.all (fun p => okI p.2) = true) := by show _ = _; rw [← hall.out, hkl, List.take_length]
      have hmN : m = N := by have := HN.out; omega
      subst hmN
      by_cases h0 : 0 < m
      · have hf : Hid (fitsR l = true) := by show _ = _; unfold fitsR; rw [hall'.out, decide_eq_true (by have := HN.out; omega)]; rfl
        have h0' : (0 : Int) < (m : Int) := by omega
        clear hall hall' HC hm HM
        go_wp2_with fail
        go_ret2
        exact ⟨by rw [hf.out]; rfl, hb⟩
      · have hf : Hid (fitsR l = false) := by show _ = _; unfold fitsR; rw [decide_eq_false (by have := HN.out; omega)]; rfl
        have hm0 : m = 0 := by omega
        subst hm0
        clear hall hall' HC hm HM
        go_wp2_with fail
        go_ret2
        exact ⟨by rw [hf.out]; rfl, hb⟩

set_option maxRecDepth 100000 in
set_option maxHeartbeats 1000000 in
/-- no value that is unsure or an error -/
theorem First_none (l : List SV) (hok : ∀ a ∈ l, a.1 ≠ 5 ∧ a.1 ≠ 6 ∧ a.1 ≠ 4) (v : Value) (w : World) (h : Sl w w.heap.size 5 v l.length (l.flatMap svCells)) (hlen : l.length ≤ 1000) :
    Calls Tryz.prog 210 #[v] w fun e w' => e = .returned (.tuple #[sv 0 0 0 es, .bool false]) ∧ Below w.heap.size w w' := by
  have HS := hid h
  have HO := hid hok
  obtain ⟨A, c, rfl, _, _⟩ := h
  clear hok
  go_enter Tryz.func210, Tryz.ntmps210
  go_wp2_with fail
  refine (Flat_flat l _ _ ((HS.out.keep ((Below.refl _ _).alloc (Nat.le_refl _) _)).more (by simp)) (fun a ha => (HO.out a ha).1) hlen).mono ?_
  rintro e w1 ⟨v1, rfl, hS1, hb1, _⟩
  have hB1 := Bk.below (Bk.new w 27 #[.int .i64 0, .int .i64 0, .int .i64 0, .string ⟨#[]⟩, .slice none 0 0]) hb1 (by simp)
  have hd1 : Below w.heap.size w w1 := Below.lift ((Below.refl _ _).alloc (Nat.le_refl _) _) (by simp) hb1
  have hz1 : w.heap.size < w1.heap.size := by have := hb1.size; simp at this; omega
  clear hb1 HS
  obtain ⟨A1, c1, rfl, _, hc1⟩ := hS1
  have HC := hid hc1
  clear hc1
  go_wp2_with fail
  go_loop [4] (fun i => ∃ (k : Nat), k ≤ l.length ∧ i = .int .i64 k) (fun i => l.length - (intOf i).toNat)
  case atStart => exact ⟨0, by omega, rfl⟩
  case round =>
    obtain ⟨k, hk, rfl⟩ := hrel
    by_cases hlt : k < l.length
    · obtain ⟨b, o, rfl, hbB, hcell⟩ := HC.out (by omega)
      obtain ⟨a, ha⟩ : ∃ a, l[k]? = some a := ⟨l[k], List.getElem?_eq_getElem hlt⟩
      obtain ⟨g0, _⟩ := row_cells hcell ha
      have h6 : (a.1 == 6) = false := by have := (HO.out a (List.mem_of_getElem? ha)).2.1; simpa using this
      clear hcell ha
      go_wp2_with fail
      go_round
      case rel => exact ⟨k + 1, by omega, by go_num⟩
      case measure => simp [intOf]; omega
    · have hkl : k = l.length := by omega
      subst hkl
      go_wp2_with fail
      go_loop [5] (fun i => ∃ (k : Nat), k ≤ l.length ∧ i = .int .i64 k) (fun i => l.length - (intOf i).toNat)
      case atStart => exact ⟨0, by omega, rfl⟩
      case round =>
        obtain ⟨k, hk2, rfl⟩ := hrel
        by_cases hlt2 : k < l.length
        · obtain ⟨b, o, rfl, hbB, hcell⟩ := HC.out (by omega)
          obtain ⟨a, ha⟩ : ∃ a, l[k]? = some a := ⟨l[k], List.getElem?_eq_getElem hlt2⟩
          obtain ⟨g0, _⟩ := row_cells hcell ha
          have h4 : (a.1 == 4) = false := by have := (HO.out a (List.mem_of_getElem? ha)).2.2; simpa using this
          clear hcell ha
          go_wp2_with fail
          go_round
          case rel => exact ⟨k + 1, by omega, by go_num⟩
          case measure => simp [intOf]; omega
        · have hkl : k = l.length := by omega
          subst hkl
          clear HC
          obtain ⟨q0, q1, q2, q3, q4, qf⟩ := hB1.cells5
          go_wp2_with fail
          exact end_cell_tmp Tryz.results210 rfl (Bk.set5 hB1 _ _ _ _ _) Tryz.underlying27 rfl info_sv rfl ⟨rfl, Below.set5 hd1 (Nat.le_refl _) _ _ _ _ _⟩

set_option maxRecDepth 100000 in
set_option maxHeartbeats 1000000 in
theorem plainly_num (n : Int) (w : World) : Calls Tryz.prog 222 #[sv 1 n 1 es, .slice none 0 0] w fun e w' => e = .returned (sv 1 n 1 es) ∧ Below w.heap.size w w' := by
  unfold sv
  go_enter Tryz.func222, Tryz.ntmps222
  go_wp2_with fail
  refine (First_none [] (fun a h => by simp at h) _ _ (Sl.nil _ _ _) (by simp)).mono ?_
  rintro e w1 ⟨rfl, hb1⟩
  have hP1 := Bk.below ((Bk.new w 27 #[.int .i64 1, .int .i64 n, .int .i64 1, .string es, .slice none 0 0]).alloc (.cells #[.int .i64 0, .int .i64 0, .int .i64 0, .string ⟨#[]⟩, .slice none 0 0] 27)) hb1 (by simp; omega)
  have hR1 := Bk.below (Bk.new_at (w := w.alloc (.cells #[.int .i64 1, .int .i64 n, .int .i64 1, .string es, .slice none 0 0] 27)) (t := 27) (cs := #[.int .i64 0, .int .i64 0, .int .i64 0, .string ⟨#[]⟩, .slice none 0 0]) (g := w.heap.size + 1) (by simp)) hb1 (by simp)
  have hd1 : Below w.heap.size w w1 := Below.lift (((Below.refl _ _).alloc (Nat.le_refl _) _).alloc (by simp) _) (by simp; omega) hb1
  have hz1 : w.heap.size + 1 < w1.heap.size := by have := hb1.size; simp at this; omega
  have hz0 : w.heap.size < w1.heap.size := by omega
  obtain ⟨q0, q1, q2, q3, q4, qf⟩ := hP1.cells5
  obtain ⟨r0, r1, r2, r3, r4, rf⟩ := hR1.cells5
  clear hb1 hP1
  unfold sv
  go_wp2_with fail
  exact end_cell Tryz.results222 rfl ((Bk.set5 hR1 _ _ _ _ _).alloc _) Tryz.underlying27 rfl info_sv rfl
    ⟨rfl, (Below.set5 hd1 (by omega) _ _ _ _ _).alloc (by simp [World.setCell]; omega) _⟩

def naS : ByteArray := ⟨#[35, 78, 47, 65]⟩
def ifsS (l : List (Bool × Int)) : SV :=
  match l.find? (·.1) with
  | some p => (1, p.2, 1, es)
  | none => (4, 0, 0, naS)

theorem findS_take {l : List (Bool × Int)} {k : Nat} {p : Bool × Int} (h : (l.take k).find? (·.1) = none) (hk : l[k]? = some p) (hp : p.1 = true) : l.find? (·.1) = some p := by
  have e : l = l.take k ++ l.drop k := (List.take_append_drop k l).symm
  have e2 : l.drop k = p :: l.drop (k + 1) := by
    have hlt := (List.getElem?_eq_some_iff.1 hk).1
    rw [List.drop_eq_getElem_cons hlt]
    congr 1
    rw [List.getElem?_eq_getElem hlt] at hk
    exact Option.some.inj hk
  rw [e, List.find?_append, h, e2]
  simp [hp]
theorem findS_next {l : List (Bool × Int)} {k : Nat} {p : Bool × Int} (h : (l.take k).find? (·.1) = none) (hk : l[k]? = some p) (hp : p.1 = false) : (l.take (k + 1)).find? (·.1) = none := by
  rw [List.take_add_one, hk, List.find?_append, h]
  simp [hp]

set_option maxRecDepth 100000 in
set_option maxHeartbeats 2000000 in
theorem ifs_any (l : List (Bool × Int)) (hl0 : 1 ≤ l.length) (hl : l.length ≤ 15) (hI : ∀ p ∈ l, okI p.2 = true) (A : Option Addr) (c N : Nat) (hN : N = 2 * l.length) (w : World) (h : Sl w w.heap.size 5 (.slice A N c) N ((row l).flatMap svCells)) :
    Calls Tryz.prog 129 #[.slice A N c] w fun e w' => e = .returned (svV (ifsS l)) ∧ Below w.heap.size w w' := by
  have HS := hid h
  obtain ⟨A', c', hv, _, hc⟩ := h
  simp only [Value.slice.injEq] at hv
  obtain ⟨rfl, _, rfl⟩ := hv
  have HN := hid hN
  have HC := hid hc
  have HI := hid hI
  have hN2 : ¬ ((N : Int) < 2) := by omega
  have hmod : (N : Int).tmod 2 = 0 := Int.tmod_eq_zero_of_dvd (by omega)
  have hN30 : N ≤ 30 := by omega
  clear hN hc hI
  go_enter Tryz.func129, Tryz.ntmps129
  go_wp2_with fail
  have hrl : (row l).length = N := by rw [row_len]; exact HN.out.symm
  refine (First_none (row l) (fun a ha => by
    obtain ⟨p, hp, h | h⟩ := row_mem ha
    · subst h; exact ⟨by simp, by simp, by simp⟩
    · rw [wv_yes (HI.out p hp)] at h; subst h; exact ⟨by simp, by simp, by simp⟩) _ _ (((HS.out.keep ((Below.refl _ _).alloc (Nat.le_refl _) _)).more (by simp)).cast hrl.symm rfl) (by rw [hrl]; omega)).mono ?_
  rintro e w1 ⟨rfl, hb1⟩
  have hB1 := Bk.below (Bk.new w 27 #[.int .i64 0, .int .i64 0, .int .i64 0, .string ⟨#[]⟩, .slice none 0 0]) hb1 (by simp)
  have hd1 : Below w.heap.size w w1 := Below.lift ((Below.refl _ _).alloc (Nat.le_refl _) _) (by simp) hb1
  have hz1 : w.heap.size < w1.heap.size := by have := hb1.size; simp at this; omega
  have HC1 : Hid (0 < N → ∃ b o, A = some ⟨b, o, none⟩ ∧ b < w1.heap.size ∧ ∀ j u, ((row l).flatMap svCells)[j]? = some u → w1.cell? ⟨b, o + j, none⟩ = some u) := fun h0 => by
    obtain ⟨b, o, rfl, hbB, hcell⟩ := HC.out h0
    exact ⟨b, o, rfl, by omega, fun j u hu => (hd1.cell (p := ⟨b, o + j, none⟩) hbB).trans (hcell j u hu)⟩
  clear hb1 HS HC hrl hN2 hmod
  unfold sv
  go_wp2_with fail
  go_loop [5] (fun i => ∃ (k m : Nat), k ≤ l.length ∧ m = 2 * k ∧ i = .int .i64 (m : Int)) (fun i => N - (intOf i).toNat)
  case atStart => exact ⟨0, 0, by omega, rfl, rfl⟩
  case round =>
    obtain ⟨k, m, hk, hm, rfl⟩ := hrel
    have HM := hid hm
    by_cases hlt : k < l.length
    · have hmN : m < N := by have := HN.out; omega
      obtain ⟨b, o, rfl, hbB, hcell⟩ := HC1.out (by omega)
      obtain ⟨p, hp⟩ : ∃ p, l[k]? = some p := ⟨l[k], List.getElem?_eq_getElem hlt⟩
      have hr := row_at l k p hp
      rw [← hm] at hr
      obtain ⟨g0, _⟩ := row_cells hcell hr.1
      clear hp hr hcell hm
      go_wp2_with fail
      go_round
      case rel => exact ⟨k + 1, m + 2, by omega, by have := HM.out; omega, by go_num⟩
      case measure => simp [intOf]; omega
    · have hmN : m = N := by have := HN.out; omega
      subst hmN
      clear hm HM hk hlt
      go_wp2_with fail
      go_loop [6] (fun i => ∃ (k j : Nat), k ≤ l.length ∧ j = 2 * k ∧ i = .int .i64 (j : Int) ∧ Hid ((l.take k).find? (·.1) = none)) (fun i => m - (intOf i).toNat)
      case atStart => exact ⟨0, 0, by omega, rfl, rfl, by show _ = _; rfl⟩
      case round =>
        obtain ⟨k, j, hk, hj, rfl, hno⟩ := hrel
        have HJ := hid hj
        by_cases hlt : k < l.length
        · have hjN : j < m := by have := HN.out; omega
          have hj1 : j + 1 < m := by have := HN.out; omega
          obtain ⟨b, o, rfl, hbB, hcell⟩ := HC1.out (by omega)
          obtain ⟨⟨c, n⟩, hp⟩ : ∃ p, l[k]? = some p := ⟨l[k], List.getElem?_eq_getElem hlt⟩
          have hr := row_at l k (c, n) hp
          rw [← hj, wv_yes (HI.out (c, n) (List.mem_of_getElem? hp))] at hr
          obtain ⟨g0, g1, _⟩ := row_cells hcell hr.1
          obtain ⟨k0, k1, k2, k3, k4⟩ := row_cells hcell hr.2
          have HS := hid (fun hq => findS_next hno.out hp hq)
          have HE := hid (fun hq => findS_take hno.out hp hq)
          clear hp hr hcell hj hno
          cases c
          · have hs := hid (HS.out rfl)
            clear HS HE k0 k1 k2 k3 k4
            go_wp2_with fail
            go_round
            case rel => exact ⟨k + 1, j + 2, by omega, by have := HJ.out; omega, by go_num, hs.out⟩
            case measure => simp [intOf]; omega
          · have hs := hid (HE.out rfl)
            clear HS HE
            go_wp2_with fail
            refine (plainly_num n _).mono ?_
            rintro e w4 ⟨rfl, hb4⟩
            have he : Hid (svV (ifsS l) = sv 1 n 1 es) := by show _ = _; unfold ifsS; rw [hs.out]; rfl
            have hB4 := (hB1.alloc _).below hb4 (by simp; omega)
            have hd4 := Below.lift (hd1.alloc (by omega) _) (by simp; omega) hb4
            have hz4 : w.heap.size < w4.heap.size := by have := hb4.size; simp at this; omega
            obtain ⟨q0, q1, q2, q3, q4, qf⟩ := hB4.cells5
            clear hb4 hB1 hd1 g0 g1 k0 k1 k2 k3 k4
            unfold sv
            go_wp2_with fail
            exact end_cell Tryz.results129 rfl (Bk.set5 hB4 _ _ _ _ _) Tryz.underlying27 rfl info_sv rfl
              ⟨by rw [he.out]; rfl, Below.set5 hd4 (Nat.le_refl _) _ _ _ _ _⟩
        · have hkl : k = l.length := by omega
          have hno' : Hid (l.find? (·.1) = none) := by show _ = _; rw [← hno.out, hkl, List.take_length]
          have he : Hid (svV (ifsS l) = sv 4 0 0 naS) := by show _ = _; unfold ifsS; rw [hno'.out]; rfl
          have hjN : j = m := by have := HN.out; omega
          subst hjN
          clear hno hno'
          go_wp2_with fail
          refine (err_any _ _).mono ?_
          rintro e w4 ⟨rfl, hb4⟩
          have hB4 := (hB1.alloc _).below hb4 (by simp; omega)
          have hd4 := Below.lift (hd1.alloc (by omega) _) (by simp; omega) hb4
          have hz4 : w.heap.size < w4.heap.size := by have := hb4.size; simp at this; omega
          obtain ⟨q0, q1, q2, q3, q4, qf⟩ := hB4.cells5
          clear hb4 hB1 hd1
          unfold sv
          go_wp2_with fail
          exact end_cell Tryz.results129 rfl (Bk.set5 hB4 _ _ _ _ _) Tryz.underlying27 rfl info_sv rfl
            ⟨by rw [he.out]; rfl, Below.set5 hd4 (Nat.le_refl _) _ _ _ _ _⟩
end Go.Proofs.YtjnlghokhlmjlaaGreatDoor
