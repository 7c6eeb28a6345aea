import Derived.Test.YtndabbepepbnmaaGreatDoorSumL
namespace Go.Proofs.YtndabbepepbnmaaGreatDoor
open Go.RowKit
attribute [local go_sem] run_store_float run_store_func

theorem countArg_num (x n : Nat) (hn : n ≤ 100000) (isRef : Bool) (gs gf : Nat) (w : World) (hS : Bk w gs 3 #[.int .i64 (n : Int)]) :
    Calls Tryz.prog 148 #[fa x es false es 1, .bool isRef, ptr gs, ptr gf] w fun e w' => e = .returned (.tuple #[]) ∧ Sets gs 3 #[.int .i64 ((n + 1 : Nat) : Int)] w w' := by
  have c0 : w.cell? ⟨gs, 0, none⟩ = some (.int .i64 (n : Int)) := hS.cell 0
  have fz := hS.free 0
  have hlt := hS.lt
  have hput : Hid (Sets gs 3 #[.int .i64 ((n + 1 : Nat) : Int)] w (w.setCell ⟨gs, 0, none⟩ (.int .i64 ((n : Int) + 1)))) := hid (Sets.put hS)
  unfold fa
  cases isRef
  all_goals
    go_enter Tryz.func148, Tryz.ntmps148
    go_wp2_with fail
    go_end0
    exact ⟨rfl, hput.out.grow ((Below.refl _ _).alloc (by simp [World.setCell]) _)⟩

set_option maxRecDepth 100000 in
set_option maxHeartbeats 1000000 in
theorem countArg_mat (rows : List (List AV)) (al : List AV) (has : al = rows.flatten) (v : Value) (S : Nat) (hS1 : S ≤ 90000) (gs gf : Nat) (w : World) (hM : MxA w (fun b => b < w.heap.size) v rows) (hS : Bk w gs 3 #[.int .i64 (S : Int)])
    (hF : Bk w gf 107 #[.func (.func 148) #[] #[ptr gs, ptr gf]]) (hsf : gf ≠ gs)
    (hnum : ∀ a ∈ al, numAv a) (hne : ∀ r ∈ rows, r ≠ []) (hlen : rows.length ≤ 1000) (hn : al.length ≤ 1000) :
    Calls Tryz.prog 148 #[v, .bool false, ptr gs, ptr gf] w fun e w' => e = .returned (.tuple #[]) ∧ Sets gs 3 #[.int .i64 ((S + al.length : Nat) : Int)] w w' := by
  obtain ⟨m, L1, L2, g, x, rfl, hr, h1, h2, s1, s2, s3⟩ := hM
  obtain ⟨A, c, hmv⟩ := hr.form
  have HR := hid hr
  have H1 := hid h1
  have H2 := hid h2
  have HS := hid hS
  have HF := hid hF
  have HN := hid hnum
  have HE := hid hne
  have HA := hid has
  clear has
  clear hr h1 h2 hS hF hnum hne s1 s2 s3
  subst hmv
  have gslt := HS.out.lt
  have gflt := HF.out.lt
  unfold faM
  go_enter Tryz.func148, Tryz.ntmps148
  go_wp2_with fail
  refine (len_any (H1.out.keep ((Below.refl _ _).alloc (Nat.le_refl _) _))).mono ?_
  rintro e w1 ⟨rfl, rfl⟩
  go_wp2_with fail
  refine (len_any (H2.out.keep ((Below.refl _ _).alloc (Nat.le_refl _) _))).mono ?_
  rintro e w1 ⟨rfl, rfl⟩
  go_wp2_with fail
  refine (toList_as rows al HA.out (.slice A rows.length c) L1 L2 _ (Rws.below HR.out ((Below.refl _ _).alloc (Nat.le_refl _) _) (by simp)) HE.out hlen hn).mono ?_
  rintro e w1 ⟨A', c', rfl, hown, hb1⟩
  have hw1 : Below w.heap.size w w1 := Below.lift ((Below.refl w.heap.size w).alloc (Nat.le_refl _) _) (by simp) hb1
  have hz1 := hw1.size
  have S1 := HS.out.below hw1 gslt
  have F1 := HF.out.below hw1 gflt
  have HO := hid hown
  clear hown hb1
  go_wp2_with fail
  go_loopw [59] (fun i wr => ∃ (j U : Nat), j ≤ al.length ∧ i = .int .i64 j ∧ Hid (U = S + j) ∧ Sets gs 3 #[.int .i64 (U : Int)] w1 wr) (fun i _ => al.length - (intOf i).toNat)
  case atStart => exact ⟨0, S, Nat.zero_le _, rfl, hid rfl, Sets.refl S1⟩
  case round =>
    obtain ⟨j, U, hj, rfl, hU, hs⟩ := hrel
    have hsz := hs.size
    by_cases hlt : j < al.length
    · obtain ⟨a, ha⟩ : ∃ a, al[j]? = some a := ⟨_, List.getElem?_eq_getElem hlt⟩
      have hna := HN.out a (List.mem_of_getElem? ha)
      obtain ⟨g', n', hsl, hgb, hglt⟩ := HO.out.form (by omega)
      injection hsl with hA' _ hc'
      subst hA'; subst hc'
      have hgne : g' ≠ gs := by simp at hgb; omega
      have hc : ∀ (i : Nat) (u : Value), (al.flatMap favC)[i]? = some u → wr.cell? ⟨g', i, none⟩ = some u := fun i u hu => by
        have := HO.out.cells (g := g') rfl i u hu
        rw [add_mid] at this
        exact (World.cell?_of_block (w := w1) (hs.block g' hglt hgne)).trans (by simpa using this)
      have f := fun i (hi : i < 10) => flat_at favC 10 favC_len al j a i ha hi
      rw [fav_numAv hna] at f
      have e0 : wr.cell? ⟨g', j * 10, none⟩ = some (.string es) := by have := hc (j * 10 + 0) _ ((f 0 (by omega)).trans rfl); simpa using this
      have e1 : wr.cell? ⟨g', j * 10 + 1, none⟩ = some (.float .f64 a.2.1) := hc (j * 10 + 1) _ ((f 1 (by omega)).trans rfl)
      have e2 : wr.cell? ⟨g', j * 10 + 2, none⟩ = some (.string es) := hc (j * 10 + 2) _ ((f 2 (by omega)).trans rfl)
      have e3 : wr.cell? ⟨g', j * 10 + 3, none⟩ = some (.slice none 0 0) := hc (j * 10 + 3) _ ((f 3 (by omega)).trans rfl)
      have e4 : wr.cell? ⟨g', j * 10 + 4, none⟩ = some (.slice none 0 0) := hc (j * 10 + 4) _ ((f 4 (by omega)).trans rfl)
      have e5 : wr.cell? ⟨g', j * 10 + 5, none⟩ = some (.bool false) := hc (j * 10 + 5) _ ((f 5 (by omega)).trans rfl)
      have e6 : wr.cell? ⟨g', j * 10 + 6, none⟩ = some (.string es) := hc (j * 10 + 6) _ ((f 6 (by omega)).trans rfl)
      have e7 : wr.cell? ⟨g', j * 10 + 7, none⟩ = some (.int .u8 1) := hc (j * 10 + 7) _ ((f 7 (by omega)).trans rfl)
      have e8 : wr.cell? ⟨g', j * 10 + 8, none⟩ = some (.pointer none) := hc (j * 10 + 8) _ ((f 8 (by omega)).trans rfl)
      have e9 : wr.cell? ⟨g', j * 10 + 9, none⟩ = some (.pointer none) := hc (j * 10 + 9) _ ((f 9 (by omega)).trans rfl)
      have eF : wr.cell? ⟨gf, 0, none⟩ = some (.func (.func 148) #[] #[ptr gs, ptr gf]) := (World.cell?_of_block (w := w1) (hs.block gf (by omega) hsf)).trans (F1.cell 0)
      have HSr := hid hs.holds
      have HV2 : Hid (U + 1 = S + (j + 1)) := hid (by have := hU.out; omega)
      have hU9 : U ≤ 91000 := by have := hU.out; omega
      have HC := hid (fun wx (hb : Bk wx gs 3 #[.int .i64 (U : Int)]) => countArg_num a.2.1 U (by omega) true gs gf wx hb)
      unfold fa at HC
      have hsl' := gslt
      have hslr := hs.holds.lt
      have hgfr : gf < wr.heap.size := by omega
      have HS2 := hid hs
      clear hna hgb hc f ha hU hs
      go_wp2_with fail
      refine (HC.out _ (HSr.out.alloc _)).mono ?_
      rintro e w2 ⟨rfl, hs2⟩
      have hs3 := (HS2.out.grow ((Below.refl _ _).alloc (Nat.le_refl _) _)).trans hs2
      clear hs2 e0 e1 e2 e3 e4 e5 e6 e7 e8 e9 eF
      go_wp2_with fail
      go_roundw
      case rel => first | exact ⟨j + 1, U + 1, by omega, by go_num, HV2, hs3⟩ | ((repeat apply Exists.intro); exact ⟨⟨j + 1, U + 1, by omega, by go_num, HV2, hs3⟩, rfl⟩)
      case measure => simp [intOf]; omega
    · have hjn : j = al.length := by omega
      have hUT : U = S + al.length := by have := hU.out; omega
      subst hUT
      clear hU
      go_wp2_with fail
      go_end0
      refine ⟨rfl, ⟨hs.os.trans hw1.os, hs.tape.trans hw1.tape, hs.output.trans hw1.output, Nat.le_trans hw1.size hs.size, fun k hk hne => (hs.block k (by omega) hne).trans (hw1.block k hk), hs.holds⟩⟩
end Go.Proofs.YtndabbepepbnmaaGreatDoor
