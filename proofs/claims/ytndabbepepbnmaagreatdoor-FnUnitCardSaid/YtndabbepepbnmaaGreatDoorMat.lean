import Derived.Test.YtndabbepepbnmaaGreatDoorTab
import Derived.Test.YtndabbepepbnmaaGreatDoorNum
namespace Go.Proofs.YtndabbepepbnmaaGreatDoor
open Go.RowKit
attribute [local go_sem] run_store_float

/-- a whole number as the reference has it -/
def svW (z : Int) : SV := (1, z, 1, es)
/-- row i of a matrix that is cut out of a list -/
def matRow (n : Nat) (Z : Nat → Int) (C i : Nat) : List Int := (List.range C).map fun k => if i * C + k < n then Int.tmod (Z (i * C + k)) 100 else 0
def matL (n : Nat) (Z : Nat → Int) (R C : Nat) : List (List Int) := (List.range R).map (matRow n Z C)
theorem matRow_len (n : Nat) (Z : Nat → Int) (C i : Nat) : (matRow n Z C i).length = C := by simp [matRow]
theorem matL_len (n : Nat) (Z : Nat → Int) (R C : Nat) : (matL n Z R C).length = R := by simp [matL]
theorem matRow_at (n : Nat) (Z : Nat → Int) (C i k : Nat) (hk : k < C) : (matRow n Z C i)[k]? = some (if i * C + k < n then Int.tmod (Z (i * C + k)) 100 else 0) := by
  rw [matRow, List.getElem?_map, List.getElem?_range hk]; rfl
theorem matL_at (n : Nat) (Z : Nat → Int) (R C i : Nat) (hi : i < R) : (matL n Z R C)[i]? = some (matRow n Z C i) := by
  rw [matL, List.getElem?_map, List.getElem?_range hi]; rfl
theorem tmod_small (z : Int) : -99 ≤ Int.tmod z 100 ∧ Int.tmod z 100 ≤ 99 := by
  have h1 : (Int.tmod z 100).natAbs = z.natAbs % 100 := Int.natAbs_tmod z 100
  omega
theorem matL_small (n : Nat) (Z : Nat → Int) (R C : Nat) : ∀ r ∈ matL n Z R C, ∀ z ∈ r, -99 ≤ z ∧ z ≤ 99 := by
  intro r hr z hz
  obtain ⟨i, _, rfl⟩ := List.mem_map.1 hr
  obtain ⟨k, _, rfl⟩ := List.mem_map.1 hz
  split
  · exact tmod_small _
  · omega
/-- the matrix as the reference has it -/
def svM (m : List (List Int)) : List (List SV) := m.map fun r => r.map svW

set_option maxRecDepth 100000 in
set_option maxHeartbeats 2000000 in
theorem matrix_any (n c : Nat) (A : Option Addr) (Z : Nat → Int) (R C : Nat) (w : World) (_hn : n ≤ 2147483647) (hZ : ∀ i, i < n → ∃ a, A = some a ∧ w.cell? (a.add i) = some (.int .i64 (Z i))) (hR : R ≤ 6) (hC : C ≤ 6) :
    Calls Tryz.prog 35 #[.slice A n c, .int .i64 R, .int .i64 C] w fun e w' => ∃ s, e = .returned (.agg #[.int .i64 5, .int .i64 0, .int .i64 0, .string es, s]) ∧ Rwn w w' 5 svCells s (svM (matL n Z R C)) ∧ Below w.heap.size w w' := by
  obtain ⟨i0, hi, hz0, hz1, hz2⟩ := info_parts infos_sw
  obtain ⟨i1, hj, hy0, hy1, hy2⟩ := info_parts infos_sws
  have HZ := hid hZ
  clear hZ
  have hml : (svM (matL n Z R C)).length = R := by simp [svM, matL]
  have HML := hid hml
  have hmt := hid (fun i (h : i < R) => show (svM (matL n Z R C)).take (i + 1) = (svM (matL n Z R C)).take i ++ [(matRow n Z C i).map svW] by rw [List.take_add_one, svM, List.getElem?_map, matL_at n Z R C i h]; rfl)
  generalize svM (matL n Z R C) = M at *
  have HMT := hmt
  clear hml hmt
  go_enter Tryz.func35, Tryz.ntmps35
  go_wp2_with fail
  have b0 : Bk (w.alloc (.cells #[.int .i64 0, .int .i64 0, .int .i64 0, .string ⟨#[]⟩, .slice none 0 0] 24)) w.heap.size 24 #[.int .i64 0, .int .i64 0, .int .i64 0, .string ⟨#[]⟩, .slice none 0 0] := Bk.new _ _ _
  have hz : (w.alloc (.cells #[.int .i64 0, .int .i64 0, .int .i64 0, .string ⟨#[]⟩, .slice none 0 0] 24)).heap.size = w.heap.size + 1 := by simp
  have hw : Below w.heap.size w (w.alloc (.cells #[.int .i64 0, .int .i64 0, .int .i64 0, .string ⟨#[]⟩, .slice none 0 0] 24)) := (Below.refl _ _).alloc (Nat.le_refl _) _
  generalize (w.alloc (.cells #[.int .i64 0, .int .i64 0, .int .i64 0, .string ⟨#[]⟩, .slice none 0 0] 24)) = W at *
  go_loopw [7, 8] (fun u i wr => ∃ (k : Nat) (us : List Value), k ≤ R ∧ i = .int .i64 k ∧ Hid (k = 0 → u = .slice none 0 0) ∧ wr.ownsRow (w.heap.size + 1) 28 1 u k us ∧ Hid (OR wr (w.heap.size + 1) 24 5 svCells us (M.take k)) ∧ Below (w.heap.size + 1) W wr) (fun _ i _ => R - (intOf i).toNat)
  case atStart => exact ⟨0, [], Nat.zero_le _, rfl, hid (fun _ => rfl), World.ownsRow_nil _ _ _ _, hid (OR.nil _ _ _ _ _), Below.refl _ _⟩
  case round =>
    obtain ⟨j, us, hj', rfl, hu0, hown, hOR, hb⟩ := hrel
    have hbz := hb.size
    obtain ⟨V, hV⟩ : ∃ V, V = wr := ⟨_, rfl⟩
    subst hV
    by_cases hlt : j < R
    · obtain ⟨p, hp⟩ : ∃ p, j * C = p := ⟨_, rfl⟩
      have hpm : (j : Int) * (C : Int) = (p : Int) := by rw [← hp]; simp
      have hp36 : p ≤ 36 := by rw [← hp]; exact Nat.le_trans (Nat.mul_le_mul (show j ≤ 6 by omega) hC) (by omega)
      have HTr := hid (HMT.out j hlt)
      have HRow := hid (fun k (hk : k < C) => show ((matRow n Z C j).map svW)[k]? = some (svW (if p + k < n then Int.tmod (Z (p + k)) 100 else 0)) by rw [List.getElem?_map, matRow_at n Z C j k hk, hp]; rfl)
      have HRl : Hid (((matRow n Z C j).map svW).length = C) := hid (by simp [matRow])
      generalize (matRow n Z C j).map svW = row at *
      have h0r : Below w.heap.size w V := hw.trans (hb.mono (by omega))
      have hdec : decide ((j : Int) < R) = true := decide_eq_true (by omega)
      clear hp
      go_wp2_with fail
      go_loopw [9, 10] (fun u i wr => ∃ (k : Nat), k ≤ C ∧ i = .int .i64 k ∧ wr.ownsRow V.heap.size 24 5 u k ((row.take k).flatMap svCells) ∧ Below V.heap.size V wr) (fun _ i _ => C - (intOf i).toNat)
      case atStart => exact ⟨0, Nat.zero_le _, rfl, World.ownsRow_nil _ _ _ _, Below.refl _ _⟩
      case round =>
        obtain ⟨k, hk', rfl, hown1, hb1⟩ := hrel
        have hb1z := hb1.size
        by_cases hlt1 : k < C
        · obtain ⟨x, hx⟩ : ∃ x, p + k = x := ⟨_, rfl⟩
          have hxm : (p : Int) + (k : Int) = (x : Int) := by omega
          have hx126 : x ≤ 42 := by omega
          have hat := HRow.out k hlt1
          rw [hx] at hat
          have hdec1 : decide ((k : Int) < C) = true := decide_eq_true (by omega)
          clear hx
          by_cases hxn : x < n
          · rw [if_pos hxn] at hat
            obtain ⟨a, rfl, hc⟩ := HZ.out x hxn
            have hal : (a.add x).block < w.heap.size := by
              rcases Nat.lt_or_ge (a.add x).block w.heap.size with hh | hh
              · exact hh
              · have e : w.heap[(a.add x).block]? = none := Array.getElem?_eq_none hh
                simp [World.cell?, e] at hc
            have h1r : Below w.heap.size w wr := h0r.trans (hb1.mono (by omega))
            have g0 : wr.cell? (a.add x) = some (.int .i64 (Z x)) := (h1r.cell (p := a.add x) hal).trans hc
            obtain ⟨z, hz⟩ : ∃ z, Z x = z := ⟨_, rfl⟩
            obtain ⟨r, hr⟩ : ∃ r, Int.tmod z 100 = r := ⟨_, rfl⟩
            have hrs := tmod_small z
            rw [hr] at hrs
            rw [hz, hr] at hat
            rw [hz] at g0
            have HT : Hid ((row.take (k + 1)).flatMap svCells = (row.take k).flatMap svCells ++ svCells (svW r)) := hid (flat_take svCells _ k (svW r) hat)
            have h100 : ((100 : Int) == 0) = false := rfl
            clear hat hz hal hc h1r
            go_wp2_with fail
            refine (int_ok r _ (by omega) (by omega)).mono ?_
            rintro e w2 ⟨rfl, hb2⟩
            have hown2 := own_keep hown1 hb2
            have hb3 : Below V.heap.size V w2 := Below.lift hb1 hb1z hb2
            have hz3 := hb3.size
            unfold sv
            go_wp2_with (at_builtin; refine wpList_append_own _ rfl _ _ 28 rfl V.heap.size 24 i0 _ 5 64 Tryz.underlying28 hi hz0 hz1 hz2 rfl (by decide) _ _ _ rfl (hown2.alloc _) ⟨w2.heap.size, 0, none⟩ 1 1 (svCells (svW r)) rfl rfl ?c1 ?c2 ?c3 ?c4 ?c5 ?_)
            case c1 =>
              intro i u hi
              rw [add_mid, Nat.zero_add, (Bk.new_at (by simp)).cell]
              simpa [svCells, svW] using hi
            case c2 => intro u hu; simp [svCells, svW] at hu; rcases hu with rfl | rfl | rfl | rfl | rfl <;> rfl
            case c3 => unfold maxLen; omega
            case c4 => omega
            case c5 => simp; omega
            · intro v' w' hown' hgrow _
              have hb' : Below V.heap.size V w' := (hb3.alloc hb3.size _).grown hgrow (by simp; omega) (fun g hg => ((hown2.lt) g hg).1)
              rw [← HT.out] at hown'
              clear hown1 hown2 hgrow hb1 hb2 hb3
              go_wp2
              go_roundw
              case rel => first | exact ⟨k + 1, by omega, by go_num, hown', hb'⟩ | ((repeat apply Exists.intro); exact ⟨⟨k + 1, by omega, by go_num, hown', hb'⟩, rfl⟩)
              case measure => simp [intOf]; omega
          · rw [if_neg hxn] at hat
            have HT : Hid ((row.take (k + 1)).flatMap svCells = (row.take k).flatMap svCells ++ svCells (svW 0)) := hid (flat_take svCells _ k (svW 0) hat)
            clear hat
            go_wp2_with fail
            refine (int_ok 0 _ (by omega) (by omega)).mono ?_
            rintro e w2 ⟨rfl, hb2⟩
            have hown2 := own_keep hown1 hb2
            have hb3 : Below V.heap.size V w2 := Below.lift hb1 hb1z hb2
            have hz3 := hb3.size
            unfold sv
            go_wp2_with (at_builtin; refine wpList_append_own _ rfl _ _ 28 rfl V.heap.size 24 i0 _ 5 64 Tryz.underlying28 hi hz0 hz1 hz2 rfl (by decide) _ _ _ rfl (hown2.alloc _) ⟨w2.heap.size, 0, none⟩ 1 1 (svCells (svW 0)) rfl rfl ?c1 ?c2 ?c3 ?c4 ?c5 ?_)
            case c1 =>
              intro i u hi
              rw [add_mid, Nat.zero_add, (Bk.new_at (by simp)).cell]
              simpa [svCells, svW] using hi
            case c2 => intro u hu; simp [svCells, svW] at hu; rcases hu with rfl | rfl | rfl | rfl | rfl <;> rfl
            case c3 => unfold maxLen; omega
            case c4 => omega
            case c5 => simp; omega
            · intro v' w' hown' hgrow _
              have hb' : Below V.heap.size V w' := (hb3.alloc hb3.size _).grown hgrow (by simp; omega) (fun g hg => ((hown2.lt) g hg).1)
              rw [← HT.out] at hown'
              clear hown1 hown2 hgrow hb1 hb2 hb3
              go_wp2
              go_roundw
              case rel => first | exact ⟨k + 1, by omega, by go_num, hown', hb'⟩ | ((repeat apply Exists.intro); exact ⟨⟨k + 1, by omega, by go_num, hown', hb'⟩, rfl⟩)
              case measure => simp [intOf]; omega
        · have hkl : k = C := by omega
          subst hkl
          have hown3 : wr.ownsRow V.heap.size 24 5 u9 row.length (row.flatMap svCells) := by
            have := hown1
            rw [List.take_of_length_le (by rw [HRl.out]; exact Nat.le_refl _)] at this
            rw [HRl.out]; exact this
          obtain ⟨A2, c2, hv', _, _⟩ := Sl.of_own hown1
          subst hv'
          have hownV := own_keep hown hb1
          have hORV := hOR.out.keep hb1
          clear hown1 hOR
          go_wp2_with (at_builtin; refine wpList_append_lies _ rfl _ _ 22 rfl (w.heap.size + 1) 28 i1 _ 1 24 Tryz.underlying22 hj hy0 hy1 hy2 rfl (by decide) _ _ _ rfl (hownV.alloc _) ⟨wr.heap.size, 0, none⟩ 1 1 [.slice A2 k c2] rfl rfl ?c1 ?c2 (by decide) ?c3 ?c4 ?c5 (wr.heap.size + 1) ?c6 ?_)
          case c1 =>
            intro i u hi
            rw [add_mid, Nat.zero_add, (Bk.new _ _ _).cell]
            simpa using hi
          case c2 => intro u hu; simp at hu; subst hu; rfl
          case c3 => unfold maxLen; omega
          case c4 => omega
          case c5 => simp; omega
          case c6 => simp
          · intro gg cap w4 hown4 hgrow hat hlt4
            have hbn : Below (w.heap.size + 1) W w4 := ((hb.trans (hb1.mono (by omega))).alloc (by omega) _).grown hgrow (by simp; omega) (fun g hg => ((hownV.lt) g hg).1)
            have hnew : w4.ownsRow (w.heap.size + 1) 24 5 (.slice A2 k c2) row.length (row.flatMap svCells) :=
              ((own_base hown3 (by omega)).alloc _).kept hgrow (own_ne ((own_base hown3 (show w.heap.size + 1 ≤ V.heap.size by omega)).alloc (.cells #[.slice A2 k c2] 28)) (hownV.alloc _) (by decide))
            have hORn := ((hORV.alloc (.cells #[.slice A2 k c2] 28)).grown (hownV.alloc _) (by decide) hgrow).push hnew
            rw [← HTr.out] at hORn
            have HORn := hid hORn
            clear hORn hnew hgrow hat hownV hORV hown3 hown hb hb1 h0r
            go_wp2
            go_roundw
            case rel => first | exact ⟨j + 1, _, by omega, by go_num, hid (fun h => absurd h (by omega)), hown4, HORn, hbn⟩ | ((repeat apply Exists.intro); exact ⟨⟨j + 1, _, by omega, by go_num, hid (fun h => absurd h (by omega)), hown4, HORn, hbn⟩, rfl⟩)
            case measure => simp [intOf]; omega
    · have hkl : j = R := by omega
      subst hkl
      have HOR := hid (show OR V (w.heap.size + 1) 24 5 svCells us M by have := hOR.out; rwa [List.take_of_length_le (by rw [HML.out]; exact Nat.le_refl _)] at this)
      have hOwn : V.ownsRow (w.heap.size + 1) 28 1 u7 M.length us := by rw [HML.out]; exact hown
      obtain ⟨A2, c2, hv', _, _⟩ := Sl.of_own hown
      subst hv'
      have hNil : M = [] → Value.slice A2 j c2 = .slice none 0 0 := fun h => hu0.out (by rw [← HML.out, h]; rfl)
      have hRW := hid (RwP.of_own hOwn HOR.out hNil)
      have hR1 := b0.below hb (by omega)
      have hbw : Below w.heap.size w V := hw.trans (hb.mono (by omega))
      clear hOR hown hu0 HOR hOwn hNil
      go_wp2_with fail
      refine (Table_any _ _ _ _).mono ?_
      rintro e w2 ⟨rfl, hb2⟩
      have hR2 := hR1.below hb2 hR1.lt
      have hb3 := hbw.trans (hb2.mono hbw.size)
      obtain ⟨q0, q1, q2, q3, q4, qf⟩ := hR2.cells5
      have hz2 := hR2.lt
      have hRW2 := hid (RwP.keep (w' := w2) (S' := fun b => w.heap.size + 1 ≤ b ∧ b < w2.heap.size) hRW.out fun b hb => ⟨hb2.block b hb.2, by have := hb2.size; omega⟩)
      clear hb2 hR1 hbw hRW
      go_wp2_with fail
      refine end_cell Tryz.results35 rfl (Bk.set5 hR2 _ _ _ _ _) Tryz.underlying24 rfl info_sv rfl ?_
      exact ⟨_, rfl, RwP.keep hRW2.out fun b hb => ⟨heap_set5 w2 (by omega) _ _ _ _ _, by simp [World.setCell]; omega⟩, Below.set5 hb3 (Nat.le_refl _) _ _ _ _ _⟩
end Go.Proofs.YtndabbepepbnmaaGreatDoor
