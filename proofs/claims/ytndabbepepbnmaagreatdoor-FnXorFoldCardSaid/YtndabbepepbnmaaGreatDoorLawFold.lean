import Derived.Test.YtndabbepepbnmaaGreatDoorXorL
import Derived.Test.YtndabbepepbnmaaGreatDoorSelf
import Derived.Test.YtndabbepepbnmaaGreatDoorSaidXOR
import Derived.Deep.RegionHeld3
namespace Go.Proofs.YtndabbepepbnmaaGreatDoor
open Go.RowKit
attribute [local go_sem] run_store_float

theorem xor_fold (x : Bool) (r : List Bool) : xorL [x, xorL r] = xorL (x :: r) := by
  have h1 : cnt (x :: r) = (if x then 1 else 0) + cnt r := by unfold cnt; cases x <;> simp <;> omega
  have h2 : cnt [x, xorL r] = (if x then 1 else 0) + (if xorL r then 1 else 0) := by cases x <;> cases xorL r <;> rfl
  have h3 : (if xorL r then 1 else 0) = cnt r % 2 := by
    unfold xorL
    rcases Nat.mod_two_eq_zero_or_one (cnt r) with h | h <;> rw [h] <;> rfl
  unfold xorL at *
  rw [h1, h2, h3]
  congr 1
  omega

theorem Args.of (W : World) (g o cap n : Nat) (l : List Bool) (hn : n = l.length) (hl : l.length ≤ 1000) (hg : g < W.heap.size) (hc : ∀ j u, ((l.map svb).flatMap svCells)[j]? = some u → W.cell? ⟨g, o + j, none⟩ = some u) :
    Args W (.slice (some ⟨g, o, none⟩) n cap) (l.map svb) := by
  subst hn
  refine ⟨⟨some ⟨g, o, none⟩, cap, by rw [List.length_map], flat_len svCells 5 svCells_len _, fun _ => ⟨g, o, rfl, hg, hc⟩⟩, fun y hy => ?_, by simpa using hl⟩
  obtain ⟨z, _, rfl⟩ := List.mem_map.1 hy
  exact svOk_log z

set_option maxRecDepth 100000 in
set_option maxHeartbeats 1000000 in
theorem fold_in (x : Bool) (r : List Bool) (p : Addr) (c : Nat) (w : World) (hr0 : 1 ≤ r.length) (hr : r.length ≤ 29) (hp : p.block < w.heap.size) (hc : ∀ k b, (x :: r)[k]? = some b → w.cell? (p.add k) = some (.bool b)) :
    Calls Tryz.prog 4 #[.slice (some p) (x :: r).length c] w fun e w' => e = .returned (.bool true) ∧ Below w.heap.size w w' := by
  obtain ⟨n, hn⟩ : ∃ n, (x :: r).length = n := ⟨_, rfl⟩
  have hn2 : r.length + 1 = n := by simpa using hn
  have F1 := hid (Fn_XOR (x :: r) (by simp) (by simp; omega))
  have F2 := hid (Fn_XOR r hr0 (by omega))
  have F3 : Hid (Fn 103 (([x, xorL r].map svb).map avOf) (.log (tv (xorL (x :: r))))) := by
    have := Fn_XOR [x, xorL r] (by simp) (by simp)
    rwa [xor_fold] at this
  have HT := hid (argTruths_any (x :: r) p c w (by simp) hp hc (by simp; omega))
  rw [hn] at HT ⊢
  have HL : Hid ((x :: r).length = n) := hn
  clear hc hn
  generalize hX : xorL (x :: r) = X at *
  generalize hY : xorL r = Y at *
  clear hX hY
  go_enter Tryz.func4, Tryz.ntmps4
  go_wp2_with fail
  refine HT.out.mono ?_
  rintro e w1 ⟨g, cap, rfl, hcap, hcm, hg, hcell, hb1⟩
  have HC := hid hcell
  clear hcell HT
  go_wp2_with fail
  refine (said_XOR _ (tv X) X (test_tv X) F1.out _ w1 (Args.of w1 g 0 cap n (x :: r) HL.out.symm (by have := HL.out; omega) hg (fun j u hu => by rw [Nat.zero_add]; exact HC.out j u hu))).mono ?_
  rintro e w2 ⟨rfl, hb2⟩
  have hd2 := Below.lift hb1 hb1.size hb2
  have hg2 : g < w2.heap.size := by have := hb2.size; omega
  have HC2 : Hid (∀ j u, (((x :: r).map svb).flatMap svCells)[j]? = some u → w2.cell? ⟨g, j, none⟩ = some u) := hid (fun j u hu => (hb2.cell (p := ⟨g, j, none⟩) hg).trans (HC.out j u hu))
  clear hb1 hb2 HC
  unfold sv
  go_wp2_with fail
  have hB := Bk.new w2 24 #[.int .i64 3, .int .i64 (b2i X), .int .i64 0, .string es, .slice none 0 0]
  have hd3 := hd2.alloc hd2.size (.cells #[.int .i64 3, .int .i64 (b2i X), .int .i64 0, .string es, .slice none 0 0] 24)
  have hlt : w2.heap.size < (w2.alloc (.cells #[.int .i64 3, .int .i64 (b2i X), .int .i64 0, .string es, .slice none 0 0] 24)).heap.size := by simp
  have hbA : Below w2.heap.size w2 (w2.alloc (.cells #[.int .i64 3, .int .i64 (b2i X), .int .i64 0, .string es, .slice none 0 0] 24)) := (Below.refl _ _).alloc (Nat.le_refl _) _
  generalize w2.alloc (.cells #[.int .i64 3, .int .i64 (b2i X), .int .i64 0, .string es, .slice none 0 0] 24) = W at *
  have hgW : g < W.heap.size := by omega
  have HC3 : Hid (∀ j u, (((x :: r).map svb).flatMap svCells)[j]? = some u → W.cell? ⟨g, j, none⟩ = some u) := hid (fun j u hu => (hbA.cell (p := ⟨g, j, none⟩) hg2).trans (HC2.out j u hu))
  obtain ⟨q0, q1, q2, q3, q4, qf⟩ := hB.cells5
  have c0 : W.cell? ⟨g, 0, none⟩ = some (.int .i64 3) := HC3.out 0 _ rfl
  have c1 : W.cell? ⟨g, 1, none⟩ = some (.int .i64 (b2i x)) := HC3.out 1 _ rfl
  have c2 : W.cell? ⟨g, 2, none⟩ = some (.int .i64 0) := HC3.out 2 _ rfl
  have c3 : W.cell? ⟨g, 3, none⟩ = some (.string es) := HC3.out 3 _ rfl
  have c4 : W.cell? ⟨g, 4, none⟩ = some (.slice none 0 0) := HC3.out 4 _ rfl
  have HR : Hid (∀ j u, ((r.map svb).flatMap svCells)[j]? = some u → W.drew.cell? ⟨g, 5 + j, none⟩ = some u) := hid (fun j u hu => by
    refine HC3.out (5 + j) u ?_
    rw [List.map_cons, List.flatMap_cons, List.getElem?_append_right (by rw [svCells_len]; omega), svCells_len, show 5 + j - 5 = j by omega, hu])
  have hpos : 0 < n := by omega
  have hi1 : (1 : Int) ≤ (n : Int) := by omega
  have hc1 : cap ≠ 1 := by omega
  clear hB hbA hd2 HC2 HC3
  go_region_held3 (fun w' => w'.cell? ⟨w2.heap.size, 0, none⟩ = some (.int .i64 3) ∧ w'.cell? ⟨w2.heap.size, 1, none⟩ = some (.int .i64 (b2i X)) ∧ w'.cell? ⟨w2.heap.size, 2, none⟩ = some (.int .i64 0) ∧ w'.cell? ⟨w2.heap.size, 3, none⟩ = some (.string es) ∧ w'.cell? ⟨w2.heap.size, 4, none⟩ = some (.slice none 0 0) ∧ w'.cell? ⟨g, 0, none⟩ = some (.int .i64 3) ∧ w'.cell? ⟨g, 1, none⟩ = some (.int .i64 (b2i x)) ∧ w'.cell? ⟨g, 2, none⟩ = some (.int .i64 0) ∧ w'.cell? ⟨g, 3, none⟩ = some (.string es) ∧ w'.cell? ⟨g, 4, none⟩ = some (.slice none 0 0))
    (first | exact ⟨(hk7.cell (p := ⟨w2.heap.size, 0, none⟩) hlt).trans q0, (hk7.cell (p := ⟨w2.heap.size, 1, none⟩) hlt).trans q1, (hk7.cell (p := ⟨w2.heap.size, 2, none⟩) hlt).trans q2, (hk7.cell (p := ⟨w2.heap.size, 3, none⟩) hlt).trans q3, (hk7.cell (p := ⟨w2.heap.size, 4, none⟩) hlt).trans q4, (hk7.cell (p := ⟨g, 0, none⟩) hgW).trans c0, (hk7.cell (p := ⟨g, 1, none⟩) hgW).trans c1, (hk7.cell (p := ⟨g, 2, none⟩) hgW).trans c2, (hk7.cell (p := ⟨g, 3, none⟩) hgW).trans c3, (hk7.cell (p := ⟨g, 4, none⟩) hgW).trans c4⟩ | exact ⟨(hk6.cell (p := ⟨w2.heap.size, 0, none⟩) hlt).trans q0, (hk6.cell (p := ⟨w2.heap.size, 1, none⟩) hlt).trans q1, (hk6.cell (p := ⟨w2.heap.size, 2, none⟩) hlt).trans q2, (hk6.cell (p := ⟨w2.heap.size, 3, none⟩) hlt).trans q3, (hk6.cell (p := ⟨w2.heap.size, 4, none⟩) hlt).trans q4, (hk6.cell (p := ⟨g, 0, none⟩) hgW).trans c0, (hk6.cell (p := ⟨g, 1, none⟩) hgW).trans c1, (hk6.cell (p := ⟨g, 2, none⟩) hgW).trans c2, (hk6.cell (p := ⟨g, 3, none⟩) hgW).trans c3, (hk6.cell (p := ⟨g, 4, none⟩) hgW).trans c4⟩ | exact ⟨(hk5.cell (p := ⟨w2.heap.size, 0, none⟩) hlt).trans q0, (hk5.cell (p := ⟨w2.heap.size, 1, none⟩) hlt).trans q1, (hk5.cell (p := ⟨w2.heap.size, 2, none⟩) hlt).trans q2, (hk5.cell (p := ⟨w2.heap.size, 3, none⟩) hlt).trans q3, (hk5.cell (p := ⟨w2.heap.size, 4, none⟩) hlt).trans q4, (hk5.cell (p := ⟨g, 0, none⟩) hgW).trans c0, (hk5.cell (p := ⟨g, 1, none⟩) hgW).trans c1, (hk5.cell (p := ⟨g, 2, none⟩) hgW).trans c2, (hk5.cell (p := ⟨g, 3, none⟩) hgW).trans c3, (hk5.cell (p := ⟨g, 4, none⟩) hgW).trans c4⟩ | go_keep | exact ⟨q0, q1, q2, q3, q4, c0, c1, c2, c3, c4⟩)
    (first
      | (go_at_call 18; have hk5' := hk5; refine (said_XOR _ (tv X) X (test_tv X) F3.out _ (w5.alloc (.cells (svCells (svb x) ++ svCells (svb Y)).toArray 24)) (Args.two (svb x) (svb Y) w5 24 (svOk_log x) (svOk_log Y))).mono ?_; rintro e w6 ⟨rfl, hb6⟩; have hk6 : Below W.heap.size W w6 := Below.lift (hk5.alloc hk5.size _) (by have := hk5.size; simp; omega) hb6; unfold sv)
      | (go_at_call 18; refine (said_XOR _ (tv Y) Y (test_tv Y) F2.out _ W.drew (Args.of W.drew g 5 _ _ r (by omega) (by omega) hgW HR.out)).mono ?_; rintro e w5 ⟨rfl, hb5⟩; have hk5 : Below W.heap.size W w5 := (Below.drew (Below.refl _ _)).trans hb5; unfold sv)
      | (go_at_call 23; refine (self_yes (svb X) _).mono ?_; rintro e w7 ⟨rfl, hb7⟩; have hk7 : Below W.heap.size W w7 := Below.lift hk6 hk6.size hb7))
  all_goals
    go_wp2_with fail
    go_ret
    exact ⟨rfl, hd3.trans (hk7.mono hd3.size)⟩

theorem cell_lt {w : World} {p : Addr} {v : Value} (h : w.cell? p = some v) : p.block < w.heap.size := by
  rcases Nat.lt_or_ge p.block w.heap.size with hh | hh
  · exact hh
  · have e : w.heap[p.block]? = none := Array.getElem?_eq_none hh
    simp [World.cell?, e] at h

theorem fold_nil (w : World) : Calls Tryz.prog 4 #[.slice none 0 0] w fun e w' => e = .returned (.bool true) ∧ Below w.heap.size w w' := by
  go_enter Tryz.func4, Tryz.ntmps4
  go_wp2_with fail
  go_ret
  exact ⟨rfl, Below.refl _ _⟩

theorem law_FnXorFold (n : Nat) (B : Nat → Bool) (p : Addr) (c : Nat) (w : World) (hn : n ≤ maxLen) (hc : ∀ i, i < n → w.cell? (p.add i) = some (.bool (B i))) :
    Calls Tryz.prog 4 #[.slice (some p) n c] w fun e w' => e = .returned (.bool true) ∧ Below w.heap.size w w' := by
  unfold maxLen at hn
  by_cases h1 : 2147483647 < n
  · clear hc
    go_enter Tryz.func4, Tryz.ntmps4
    go_wp2_with fail
    go_ret
    exact ⟨rfl, Below.refl _ _⟩
  by_cases h2 : n < 2
  · clear hc
    go_enter Tryz.func4, Tryz.ntmps4
    go_wp2_with fail
    go_ret
    exact ⟨rfl, Below.refl _ _⟩
  by_cases h3 : 30 < n
  · clear hc
    go_enter Tryz.func4, Tryz.ntmps4
    go_wp2_with fail
    go_ret
    exact ⟨rfl, Below.refl _ _⟩
  have hl : ((List.range n).map B).length = n := by simp
  have hcl : ∀ k b, ((List.range n).map B)[k]? = some b → w.cell? (p.add k) = some (.bool b) := fun k b hb => by
    have hk : k < n := by
      have := (List.getElem?_eq_some_iff.1 hb).1
      rwa [hl] at this
    have e : b = B k := by
      rw [List.getElem?_map, List.getElem?_range hk] at hb
      simpa using hb.symm
    rw [e]; exact hc k hk
  have hp : p.block < w.heap.size := by
    have := cell_lt (hc 0 (by omega))
    rwa [add_block'] at this
  generalize (List.range n).map B = l at *
  match l, hl, hcl with
  | x :: r, hl, hcl =>
    have hr : r.length + 1 = n := by simpa using hl
    have := fold_in x r p c w (by omega) (by omega) hp hcl
    rwa [hl] at this
  | [], hl, _ => exact absurd hl (by simp; omega)
end Go.Proofs.YtndabbepepbnmaaGreatDoor
