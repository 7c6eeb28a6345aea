import Derived.Test.YtndabbepepbnmaaGreatDoorToList
import Derived.Test.YtndabbepepbnmaaGreatDoorNum
import Derived.Test.YtndabbepepbnmaaGreatDoorToNum
import Derived.Test.YtndabbepepbnmaaGreatDoorDoorM
namespace Go.Proofs.YtndabbepepbnmaaGreatDoor
open Go.RowKit
attribute [local go_sem] run_store_float

/-- element k of a list, or nil behind the last one -/
def elN (el : List Nat) (k : Nat) : Value := match el[k]? with | some g => ptr g | none => .pointer none
theorem front_elN {L : Nat} {el : List Nat} {vs : List Value} {w : World} (h : IsL w L el vs) :
    Calls Tryz.prog 133 #[ptr L] w fun e w' => e = .returned (elN el 0) ∧ w = w' := by
  unfold elN
  cases el with
  | nil =>
    obtain rfl : vs = [] := List.eq_nil_of_length_eq_zero (by rw [← h.len]; rfl)
    exact front_nil h
  | cons f el => exact front_any h rfl
theorem next_elN {L k f : Nat} {el : List Nat} {vs : List Value} {w : World} (h : IsL w L el vs) (hf : el[k]? = some f) :
    Calls Tryz.prog 147 #[ptr f] w fun e w' => e = .returned (elN el (k + 1)) ∧ w = w' := by
  unfold elN
  rcases Nat.lt_or_ge (k + 1) el.length with hlt | hge
  · have h1 : el[k + 1]? = some (el[k + 1]'hlt) := List.getElem?_eq_getElem hlt
    rw [h1]
    exact next_some h hf h1
  · have := (List.getElem?_eq_some_iff.1 hf).1
    rw [List.getElem?_eq_none hge]
    exact next_none h hf (by omega)

/-- block g alone of the old ones may have turned; it holds cs -/
structure Sets (g : Nat) (t : TypeId) (cs : Array Value) (w w' : World) : Prop where
  os : w'.os = w.os
  tape : w'.tape = w.tape
  output : w'.output = w.output
  size : w.heap.size ≤ w'.heap.size
  block : ∀ k, k < w.heap.size → k ≠ g → w'.heap[k]? = w.heap[k]?
  holds : Bk w' g t cs
section
variable {g B : Nat} {t : TypeId} {cs ds : Array Value} {a w w' : World}
theorem Sets.refl (h : Bk w g t cs) : Sets g t cs w w := ⟨rfl, rfl, rfl, Nat.le_refl _, fun _ _ _ => rfl, h⟩
theorem Sets.trans (h : Sets g t cs a w) (k : Sets g t ds w w') : Sets g t ds a w' :=
  ⟨k.os.trans h.os, k.tape.trans h.tape, k.output.trans h.output, Nat.le_trans h.size k.size, fun i hi hne => (k.block i (Nat.lt_of_lt_of_le hi h.size) hne).trans (h.block i hi hne), k.holds⟩
theorem Sets.grow (h : Sets g t cs a w) (hb : Below w.heap.size w w') : Sets g t cs a w' :=
  ⟨hb.os.trans h.os, hb.tape.trans h.tape, hb.output.trans h.output, Nat.le_trans h.size hb.size, fun i hi hne => (hb.block i (Nat.lt_of_lt_of_le hi h.size)).trans (h.block i hi hne), h.holds.below hb h.holds.lt⟩
theorem Sets.put {u v : Value} (h : Bk w g t #[u]) : Sets g t #[v] w (w.setCell ⟨g, 0, none⟩ v) :=
  ⟨rfl, rfl, rfl, by simp [World.setCell], fun k _ hne => Below.heap_setCell w ⟨g, 0, none⟩ v k hne, h.set_ 0 v⟩
theorem Sets.below (h : Sets g t cs w w') (hB : B ≤ g) (hw : B ≤ w.heap.size) : Below B w w' :=
  ⟨h.os, h.tape, h.output, h.size, fun k hk => h.block k (by omega) (by omega)⟩
end

/-- what numbers add up to, one behind the other -/
def FS : Nat → List Nat → Nat → Prop
  | S, [], T => S = T
  | S, x :: l, T => ∃ U, floatBits .add .f64 S x = some U ∧ FS U l T
theorem FS.append {S T U : Nat} {l m : List Nat} (h1 : FS S l U) (h2 : FS U m T) : FS S (l ++ m) T := by
  induction l generalizing S with
  | nil => cases h1; exact h2
  | cons x l ih => obtain ⟨V, hv, h⟩ := h1; exact ⟨V, hv, ih h⟩
theorem FS.split {S T : Nat} {l m : List Nat} (h : FS S (l ++ m) T) : ∃ U, FS S l U ∧ FS U m T := by
  induction l generalizing S with
  | nil => exact ⟨S, rfl, h⟩
  | cons x l ih =>
    obtain ⟨V, hv, h⟩ := h
    obtain ⟨U, h1, h2⟩ := ih h
    exact ⟨U, ⟨V, hv, h1⟩, h2⟩
theorem FS.uniq {S T T' : Nat} {l : List Nat} (h : FS S l T) (h' : FS S l T') : T = T' := by
  induction l generalizing S with
  | nil => cases h; exact h'
  | cons x l ih =>
    obtain ⟨V, hv, h⟩ := h
    obtain ⟨V', hv', h'⟩ := h'
    rw [hv] at hv'
    injection hv' with e
    subst e
    exact ih h h'

theorem sumArg_num (x S T : Nat) (isRef : Bool) (gs gf : Nat) (w : World) (hS : Bk w gs 39 #[.float .f64 S]) (hadd : floatBits .add .f64 S x = some T) :
    Calls Tryz.prog 145 #[fa x es false es 1, .bool isRef, ptr gs, ptr gf] w fun e w' => e = .returned (.tuple #[]) ∧ Sets gs 39 #[.float .f64 T] w w' := by
  have hq := fun wx => run_float_arith (P := Tryz.prog) wx .add 39 .f64 S x T hadd
  have c0 : w.cell? ⟨gs, 0, none⟩ = some (.float .f64 S) := hS.cell 0
  have fz := hS.free 0
  have hlt := hS.lt
  clear hadd
  unfold fa
  cases isRef
  all_goals
    go_enter Tryz.func145, Tryz.ntmps145
    go_wp2_with fail
    go_end0
    exact ⟨rfl, (Sets.put hS).grow ((Below.refl _ _).alloc (Nat.le_refl _) _)⟩

/-- a cell that is a number (no truth), not the zero below zero -/
def numAv (a : AV) : Prop := a.1 = 1 ∧ nz a.2.1 = a.2.1
theorem fav_numAv {a : AV} (h : numAv a) : favC a = faL a.2.1 es false es 1 := by
  unfold favC; rw [if_pos h.1, h.2]

set_option maxRecDepth 100000 in
set_option maxHeartbeats 1000000 in
theorem sumArg_mat (rows : List (List AV)) (al : List AV) (has : al = rows.flatten) (v : Value) (S T : Nat) (gs gf : Nat) (w : World) (hM : MxA w (fun b => b < w.heap.size) v rows) (hS : Bk w gs 39 #[.float .f64 S])
    (hF : Bk w gf 107 #[.func (.func 145) #[] #[ptr gs, ptr gf]]) (hsf : gf ≠ gs)
    (hnum : ∀ a ∈ al, numAv a) (hsum : FS S (al.map (·.2.1)) T) (hne : ∀ r ∈ rows, r ≠ []) (hlen : rows.length ≤ 1000) (hn : al.length ≤ 1000) :
    Calls Tryz.prog 145 #[v, .bool false, ptr gs, ptr gf] w fun e w' => e = .returned (.tuple #[]) ∧ Sets gs 39 #[.float .f64 T] w w' := by
  obtain ⟨m, L1, L2, g, x, rfl, hr, h1, h2, s1, s2, s3⟩ := hM
  obtain ⟨A, c, hmv⟩ := hr.form
  have HR := hid hr
  have H1 := hid h1
  have H2 := hid h2
  have HS := hid hS
  have HF := hid hF
  have HN := hid hnum
  have HU := hid hsum
  have HE := hid hne
  have HA := hid has
  clear has
  clear hr h1 h2 hS hF hnum hsum hne s1 s2 s3
  subst hmv
  have gslt := HS.out.lt
  have gflt := HF.out.lt
  unfold faM
  go_enter Tryz.func145, Tryz.ntmps145
  go_wp2_with fail
  refine (len_any (H1.out.keep ((Below.refl _ _).alloc (Nat.le_refl _) _))).mono ?_
  rintro e w1 ⟨rfl, rfl⟩
  go_wp2_with fail
  refine (len_any (H2.out.keep ((Below.refl _ _).alloc (Nat.le_refl _) _))).mono ?_
  rintro e w1 ⟨rfl, rfl⟩
  go_wp2_with fail
  refine (toList_as rows al HA.out (.slice A rows.length c) L1 L2 _ (Rws.below HR.out ((Below.refl _ _).alloc (Nat.le_refl _) _) (by simp)) HE.out hlen hn).mono ?_
  rintro e w1 ⟨A', c', rfl, hown, hb1⟩
  have hw1 : Below w.heap.size w w1 := Below.lift ((Below.refl w.heap.size w).alloc (Nat.le_refl _) _) (by simp) hb1
  have hz1 := hw1.size
  have S1 := HS.out.below hw1 gslt
  have F1 := HF.out.below hw1 gflt
  have HO := hid hown
  clear hown hb1
  go_wp2_with fail
  go_loopw [63] (fun i wr => ∃ (j U : Nat), j ≤ al.length ∧ i = .int .i64 j ∧ Hid (FS U ((al.drop j).map (·.2.1)) T) ∧ Sets gs 39 #[.float .f64 U] w1 wr) (fun i _ => al.length - (intOf i).toNat)
  case atStart => exact ⟨0, S, Nat.zero_le _, rfl, HU, Sets.refl S1⟩
  case round =>
    obtain ⟨j, U, hj, rfl, hU, hs⟩ := hrel
    have hsz := hs.size
    by_cases hlt : j < al.length
    · obtain ⟨a, ha⟩ : ∃ a, al[j]? = some a := ⟨_, List.getElem?_eq_getElem hlt⟩
      have hna := HN.out a (List.mem_of_getElem? ha)
      have hdrop : al.drop j = a :: al.drop (j + 1) := by
        rw [List.drop_eq_getElem_cons hlt]
        rw [List.getElem?_eq_getElem hlt] at ha
        injection ha with ha
        rw [ha]
      obtain ⟨V, hV, hV2⟩ : ∃ V, floatBits .add .f64 U a.2.1 = some V ∧ FS V ((al.drop (j + 1)).map (·.2.1)) T := by
        have := hU.out
        rw [hdrop, List.map_cons] at this
        exact this
      obtain ⟨g', n', hsl, hgb, hglt⟩ := HO.out.form (by omega)
      injection hsl with hA' _ hc'
      subst hA'; subst hc'
      have hgne : g' ≠ gs := by simp at hgb; omega
      have hc : ∀ (i : Nat) (u : Value), (al.flatMap favC)[i]? = some u → wr.cell? ⟨g', i, none⟩ = some u := fun i u hu => by
        have := HO.out.cells (g := g') rfl i u hu
        rw [add_mid] at this
        exact (World.cell?_of_block (w := w1) (hs.block g' hglt hgne)).trans (by simpa using this)
      have f := fun i (hi : i < 10) => flat_at favC 10 favC_len al j a i ha hi
      rw [fav_numAv hna] at f
      have e0 : wr.cell? ⟨g', j * 10, none⟩ = some (.string es) := by have := hc (j * 10 + 0) _ ((f 0 (by omega)).trans rfl); simpa using this
      have e1 : wr.cell? ⟨g', j * 10 + 1, none⟩ = some (.float .f64 a.2.1) := hc (j * 10 + 1) _ ((f 1 (by omega)).trans rfl)
      have e2 : wr.cell? ⟨g', j * 10 + 2, none⟩ = some (.string es) := hc (j * 10 + 2) _ ((f 2 (by omega)).trans rfl)
      have e3 : wr.cell? ⟨g', j * 10 + 3, none⟩ = some (.slice none 0 0) := hc (j * 10 + 3) _ ((f 3 (by omega)).trans rfl)
      have e4 : wr.cell? ⟨g', j * 10 + 4, none⟩ = some (.slice none 0 0) := hc (j * 10 + 4) _ ((f 4 (by omega)).trans rfl)
      have e5 : wr.cell? ⟨g', j * 10 + 5, none⟩ = some (.bool false) := hc (j * 10 + 5) _ ((f 5 (by omega)).trans rfl)
      have e6 : wr.cell? ⟨g', j * 10 + 6, none⟩ = some (.string es) := hc (j * 10 + 6) _ ((f 6 (by omega)).trans rfl)
      have e7 : wr.cell? ⟨g', j * 10 + 7, none⟩ = some (.int .u8 1) := hc (j * 10 + 7) _ ((f 7 (by omega)).trans rfl)
      have e8 : wr.cell? ⟨g', j * 10 + 8, none⟩ = some (.pointer none) := hc (j * 10 + 8) _ ((f 8 (by omega)).trans rfl)
      have e9 : wr.cell? ⟨g', j * 10 + 9, none⟩ = some (.pointer none) := hc (j * 10 + 9) _ ((f 9 (by omega)).trans rfl)
      have eF : wr.cell? ⟨gf, 0, none⟩ = some (.func (.func 145) #[] #[ptr gs, ptr gf]) := (World.cell?_of_block (w := w1) (hs.block gf (by omega) hsf)).trans (F1.cell 0)
      have HSr := hid hs.holds
      have HV := hid hV
      have HV2 := hid hV2
      have HC := hid (fun wx (hb : Bk wx gs 39 #[.float .f64 U]) => sumArg_num a.2.1 U V true gs gf wx hb hV)
      unfold fa at HC
      have hsl' := gslt
      have hslr := hs.holds.lt
      have hgfr : gf < wr.heap.size := by omega
      have HS2 := hid hs
      clear hna hdrop hV hV2 hgb hc f ha hU hs
      go_wp2_with fail
      refine (HC.out _ (HSr.out.alloc _)).mono ?_
      rintro e w2 ⟨rfl, hs2⟩
      have hs3 := (HS2.out.grow ((Below.refl _ _).alloc (Nat.le_refl _) _)).trans hs2
      clear hs2 e0 e1 e2 e3 e4 e5 e6 e7 e8 e9 eF
      go_wp2_with fail
      go_roundw
      case rel => first | exact ⟨j + 1, V, by omega, by go_num, HV2, hs3⟩ | ((repeat apply Exists.intro); exact ⟨⟨j + 1, V, by omega, by go_num, HV2, hs3⟩, rfl⟩)
      case measure => simp [intOf]; omega
    · have hjn : j = al.length := by omega
      have hUT : U = T := by
        have := hU.out
        rw [hjn, List.drop_length] at this
        exact this
      subst hUT
      clear hU
      go_wp2_with fail
      go_end0
      refine ⟨rfl, ⟨hs.os.trans hw1.os, hs.tape.trans hw1.tape, hs.output.trans hw1.output, Nat.le_trans hw1.size hs.size, fun k hk hne => (hs.block k (by omega) hne).trans (hw1.block k hk), hs.holds⟩⟩
end Go.Proofs.YtndabbepepbnmaaGreatDoor
