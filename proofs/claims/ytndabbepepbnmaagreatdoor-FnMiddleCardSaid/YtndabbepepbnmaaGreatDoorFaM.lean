import Derived.Test.YtndabbepepbnmaaGreatDoorNumM
import Derived.Test.YtndabbepepbnmaaGreatDoorCalmF
namespace Go.Proofs.YtndabbepepbnmaaGreatDoor
open Go.RowKit
attribute [local go_sem] run_store_float

set_option maxRecDepth 100000 in
set_option maxHeartbeats 2000000 in
theorem newFormulaArgMatrix_any (F : List (List Nat)) (m : Value) (w : World) (h : Rws w w.heap.size 1 flF m F) (hC : ∀ r ∈ F, r.length ≤ 1000) (hlen : F.length ≤ 1000) (hnum : ∀ r ∈ F, ∀ x ∈ r, fin x ∧ nz x = x) :
    Calls Tryz.prog 151 #[m] w fun e w' => ∃ v, e = .returned v ∧ Rwn w w' 10 flA v F ∧ Below w.heap.size w w' := by
  obtain ⟨h0, hs, hl, ⟨A, c, rfl, hlc, hc⟩, h2⟩ := h
  obtain ⟨i0, hi, hz0, hz1, hz2⟩ := info_parts infos_fa
  obtain ⟨i1, hj, hy0, hy1, hy2⟩ := info_parts infos_fas
  have H2 := hid h2
  have HC := hid hc
  have HL := hid hl
  have HL2 := hid hC
  have HN := hid hnum
  clear h2 hc hl hlc h0 hC hnum
  go_enter Tryz.func151, Tryz.ntmps151
  go_wp2_with fail
  go_loopw [2, 9] (fun u i wr => ∃ (k : Nat) (us : List Value), k ≤ F.length ∧ i = .int .i64 k ∧ Hid (k = 0 → u = .slice none 0 0) ∧ wr.ownsRow w.heap.size 73 1 u k us ∧ Hid (OR wr w.heap.size 78 10 flA us (F.take k)) ∧ Below w.heap.size w wr) (fun _ i _ => F.length - (intOf i).toNat)
  case atStart => exact ⟨0, [], Nat.zero_le _, rfl, hid (fun _ => rfl), World.ownsRow_nil _ _ _ _, hid (OR.nil _ _ _ _ _), Below.refl _ _⟩
  case round =>
    obtain ⟨k, us, hk, rfl, hu0, hown, hOR, hb⟩ := hrel
    have hbz := hb.size
    obtain ⟨V, hV⟩ : ∃ V, V = wr := ⟨_, rfl⟩
    subst hV
    by_cases hlt : k < F.length
    · obtain ⟨b, o, rfl, hbB, hcell⟩ := HC.out (by omega)
      obtain ⟨r, hr⟩ : ∃ r, F[k]? = some r := ⟨F[k], List.getElem?_eq_getElem hlt⟩
      obtain ⟨hh, hhk⟩ : ∃ hh, hs[k]? = some hh := ⟨_, List.getElem?_eq_getElem (by rw [HL.out]; exact hlt)⟩
      obtain ⟨A1, c1, rfl, hrl, hrc⟩ := H2.out k hh r hhk hr
      have HRl : r.length ≤ 1000 := HL2.out r (List.mem_of_getElem? hr)
      have HNr := hid (HN.out r (List.mem_of_getElem? hr))
      have HRc := hid hrc
      have c42 : V.cell? ⟨b, o + k, none⟩ = some (.slice A1 r.length c1) := (hb.cell (p := ⟨b, o + k, none⟩) hbB).trans (hcell k _ hhk)
      have HT := hid (show F.take (k + 1) = F.take k ++ [r] by rw [List.take_add_one, hr]; rfl)
      have hmk := fun W => mk_eq (P := Tryz.prog) 73 78 i0 10 136 Tryz.underlying73 hi hz0 hz1 hz2 (by omega) r.length (by omega) W
      clear hcell hr hhk hbB hrc hrl
      go_wp2_with (at_builtin; refine wpList_append_lies _ rfl _ _ 74 rfl w.heap.size 73 i1 _ 1 24 Tryz.underlying74 hj hy0 hy1 hy2 rfl (by decide) _ _ _ rfl ((hown.alloc _).alloc _) ⟨V.heap.size + 1, 0, none⟩ 1 1 [.slice (some ⟨V.heap.size, 0, none⟩) r.length r.length] rfl rfl ?c1 ?c2 (by decide) ?c3 ?c4 ?c5 (V.heap.size + 1 + 1) ?c6 ?_)
      case c2 => rfl
      case c3 => unfold maxLen; omega
      case c4 => omega
      case c5 => omega
      · intro gg cap w4 hown4 hgrow hat hlt4
        have hF4 : Fil w4 V.heap.size 78 (r.length * 10) [] := by
          refine Fil.keep ?_ (hgrow.block V.heap.size (by simp; omega) (fun e => ?_))
          · exact Fil.start ((Bk.new V _ _).alloc _) (by simp [size_madeCells])
          · have := (hown.lt _ e.symm).2; omega
        have hOR4 := ((hOR.out.alloc _).alloc _).grown ((hown.alloc _).alloc _) (by decide) hgrow
        have hb4 : Below w.heap.size w w4 := ((hb.alloc (by omega) _).alloc (by simp; omega) _).grown hgrow (by simp; omega) (fun g hg => (hown.lt g hg).1)
        have hne : gg ≠ V.heap.size := own_neq hown4 hF4 (by decide)
        have hzV : V.heap.size < w4.heap.size := hF4.lt
        have cH : w4.cell? ⟨gg, k, none⟩ = some (.slice (some ⟨V.heap.size, 0, none⟩) r.length r.length) := (hown4.cellAt k (by omega)).trans (by
          rw [List.getElem?_append_right (by rw [hown.1]; omega), hown.1]; simp)
        clear hgrow hat hown c42 hmk
        go_wp2_with fail
        go_loopw [22] (fun i wr => ∃ (j : Nat), j ≤ r.length ∧ i = .int .i64 j ∧ w4.grownBy wr (some V.heap.size) ∧ Fil wr V.heap.size 78 (r.length * 10) ((r.take j).flatMap flA)) (fun i _ => r.length - (intOf i).toNat)
        case atStart => exact ⟨0, Nat.zero_le _, rfl, grownBy_refl _ _, hF4⟩
        case round =>
          obtain ⟨j, hj', rfl, hg, hFil⟩ := hrel
          by_cases hlt1 : j < r.length
          · obtain ⟨b', o', rfl, hbB', hcell'⟩ := HRc.out (by omega)
            obtain ⟨x, hx⟩ : ∃ x, r[j]? = some x := ⟨r[j], List.getElem?_eq_getElem hlt1⟩
            have hb'V : b' < V.heap.size := by omega
            have g0 : wr.cell? ⟨b', o' + j, none⟩ = some (.float .f64 x) :=
              hg.cell ((hb4.cell (p := ⟨b', o' + j, none⟩) hbB').trans (hcell' j _ (by have := flat_at flF 1 flF_len r j x 0 hx (by omega); simp at this; rw [this]; rfl))) (by simp; omega)
            have cHw : wr.cell? ⟨gg, k, none⟩ = some (.slice (some ⟨V.heap.size, 0, none⟩) r.length r.length) := hg.cell cH (by simp; omega)
            have hgw : gg < wr.heap.size := by have := hg.size; omega
            have hVw : V.heap.size < wr.heap.size := hFil.lt
            have hkI : (k : Int) < (k : Int) + 1 := by omega
            have hjI : (j : Int) < (r.length : Int) := by omega
            have hNx := HNr.out x (List.mem_of_getElem? hx)
            have HT1 := hid (flat_take flA r j x hx)
            have hlj : ((r.take j).flatMap flA).length = j * 10 := by rw [flat_len flA 10 flA_len, List.length_take]; congr 1; omega
            clear hcell' hx
            go_wp2_with fail
            refine wp_region_duties 8 [(0, 27), (1, 28), (2, 29), (3, 30), (4, 31), (5, 32), (6, 33), (7, 34)]
              [.is (.slice (some ⟨gg, 0, none⟩) (k + 1) cap), .is (.int .i64 k), .is (.pointer (some ⟨gg, k, none⟩)), .is (.slice (some ⟨V.heap.size, 0, none⟩) r.length r.length), .is (.int .i64 j), .is (.float .f64 x), .is (fa x es false es 1), .is (.pointer (some ⟨V.heap.size, j * 10, none⟩))]
              (by kernel_rfl) (by kernel_rfl) (by decide) (by kernel_rfl) (by kernel_rfl) (by kernel_rfl) (by kernel_rfl) rfl (by kernel_rfl) ?_ ?_
            · intro v' wy lo hi hb' hf hlow hap
              have hx6 : v' 6 = fa x es false es 1 := hf 6 _ rfl
              have hx7 : v' 7 = .pointer (some ⟨V.heap.size, j * 10, none⟩) := hf 7 _ rfl
              have hFy := hFil.keep (hb'.block _ hVw)
              have hgy := grownBy_below hg hb'
              obtain ⟨o0, p0⟩ := hFy.at_ (j * 10) (by omega)
              obtain ⟨o1, p1⟩ := hFy.at_ (j * 10 + 1) (by omega)
              obtain ⟨o2, p2⟩ := hFy.at_ (j * 10 + 2) (by omega)
              obtain ⟨o3, p3⟩ := hFy.at_ (j * 10 + 3) (by omega)
              obtain ⟨o4, p4⟩ := hFy.at_ (j * 10 + 4) (by omega)
              obtain ⟨o5, p5⟩ := hFy.at_ (j * 10 + 5) (by omega)
              obtain ⟨o6, p6⟩ := hFy.at_ (j * 10 + 6) (by omega)
              obtain ⟨o7, p7⟩ := hFy.at_ (j * 10 + 7) (by omega)
              obtain ⟨o8, p8⟩ := hFy.at_ (j * 10 + 8) (by omega)
              obtain ⟨o9, p9⟩ := hFy.at_ (j * 10 + 9) (by omega)
              have pf := hFy.free
              have HFn := hid (hFy.put10 (i := j * 10) hlj (by omega) (.string es) (.float .f64 x) (.string es) (.slice none 0 0) (.slice none 0 0) (.bool false) (.string es) (.int .u8 1) (.pointer none) (.pointer none))
              have HGn := hid (grownBy_setCell (grownBy_setCell (grownBy_setCell (grownBy_setCell (grownBy_setCell (grownBy_setCell (grownBy_setCell (grownBy_setCell (grownBy_setCell (grownBy_setCell hgy (j * 10) (.string es)) (j * 10 + 1) (.float .f64 x)) (j * 10 + 2) (.string es)) (j * 10 + 3) (.slice none 0 0)) (j * 10 + 4) (.slice none 0 0)) (j * 10 + 5) (.bool false)) (j * 10 + 6) (.string es)) (j * 10 + 7) (.int .u8 1)) (j * 10 + 8) (.pointer none)) (j * 10 + 9) (.pointer none))
              clear hf hap hlow hFy hgy hFil hg
              rw [fill_eq_sets]
              simp only [sets, List.setIfInBounds_toArray, List.set_cons_succ, List.set_cons_zero, List.drop_succ_cons, List.drop_zero, hx6, hx7]
              unfold fa
              go_wp2_with fail
              go_roundw
              case rel => exact ⟨j + 1, by omega, by go_num, HGn.out, by rw [HT1.out]; exact HFn.out⟩
              case measure => simp [intOf]; omega
            · simp only [Duties]
              refine ⟨?_, ?_, ?_, ?_, ?_, ?_, ?_, ?_, trivial⟩
              · intro v wy hb' hpre
                refine ⟨by rfl, fun B hB => ?_⟩
                have e0 : B.tmps[2]?.getD undef = .slice (some ⟨gg, 0, none⟩) (k + 1) cap := got_out hB (by rfl)
                clear hB hpre
                unfold Oper.wp
                go_simp
                exact ⟨_, rfl, Below.refl _ _, rfl⟩
              · intro v wy hb' hpre
                refine ⟨by rfl, fun B hB => ?_⟩
                have e0 : B.tmps[3]?.getD undef = .int .i64 k := got_out hB (by rfl)
                clear hB hpre
                unfold Oper.wp
                go_simp
                exact ⟨_, rfl, Below.refl _ _, rfl⟩
              · intro v wy hb' hpre
                refine ⟨by rfl, fun B hB => ?_⟩
                obtain ⟨_, _, _, _, _, h0⟩ := hpre 0 _ rfl (by kernel_rfl)
                obtain ⟨_, _, _, _, _, h1⟩ := hpre 1 _ rfl (by kernel_rfl)
                have e0 : B.tmps[27]?.getD undef = .slice (some ⟨gg, 0, none⟩) (k + 1) cap := (got_in hB (by rfl) (by simp)).trans h0
                have e1 : B.tmps[28]?.getD undef = .int .i64 k := (got_in hB (by rfl) (by simp)).trans h1
                clear hB hpre h0 h1
                unfold Oper.wp
                go_simp
                exact ⟨_, rfl, Below.refl _ _, rfl⟩
              · intro v wy hb' hpre
                refine ⟨by rfl, fun B hB => ?_⟩
                obtain ⟨_, _, _, _, _, h0⟩ := hpre 2 _ rfl (by kernel_rfl)
                have e0 : B.tmps[29]?.getD undef = .pointer (some ⟨gg, k, none⟩) := (got_in hB (by rfl) (by simp)).trans h0
                have q0 : wy.cell? ⟨gg, k, none⟩ = some (.slice (some ⟨V.heap.size, 0, none⟩) r.length r.length) := ((Below.undrew hb').cell (p := ⟨gg, k, none⟩) hgw).trans cHw
                clear hB hpre h0
                unfold Oper.wp
                go_simp
                exact ⟨_, rfl, Below.refl _ _, rfl⟩
              · intro v wy hb' hpre
                refine ⟨by rfl, fun B hB => ?_⟩
                have e0 : B.tmps[5]?.getD undef = .int .i64 j := got_out hB (by rfl)
                clear hB hpre
                unfold Oper.wp
                go_simp
                exact ⟨_, rfl, Below.refl _ _, rfl⟩
              · intro v wy hb' hpre
                refine ⟨by rfl, fun B hB => ?_⟩
                have e0 : B.tmps[6]?.getD undef = .float .f64 x := got_out hB (by rfl)
                clear hB hpre
                unfold Oper.wp
                go_simp
                exact ⟨_, rfl, Below.refl _ _, rfl⟩
              · intro v wy hb' hpre
                refine ⟨by rfl, fun B hB => ?_⟩
                obtain ⟨_, _, _, _, _, h0⟩ := hpre 5 _ rfl (by kernel_rfl)
                have e0 : B.tmps[32]?.getD undef = .float .f64 x := (got_in hB (by rfl) (by simp)).trans h0
                clear hB hpre h0
                unfold Oper.wp
                go_simp
                refine (newNumber_any x _ hNx.1).mono ?_
                rintro e w' ⟨rfl, hb''⟩
                rw [hNx.2]
                exact ⟨_, rfl, hb'', rfl⟩
              · intro v wy hb' hpre
                refine ⟨by rfl, fun B hB => ?_⟩
                obtain ⟨_, _, _, _, _, h0⟩ := hpre 3 _ rfl (by kernel_rfl)
                obtain ⟨_, _, _, _, _, h1⟩ := hpre 4 _ rfl (by kernel_rfl)
                have e0 : B.tmps[30]?.getD undef = .slice (some ⟨V.heap.size, 0, none⟩) r.length r.length := (got_in hB (by rfl) (by simp)).trans h0
                have e1 : B.tmps[31]?.getD undef = .int .i64 j := (got_in hB (by rfl) (by simp)).trans h1
                clear hB hpre h0 h1
                unfold Oper.wp
                go_simp
                exact ⟨_, rfl, Below.refl _ _, rfl⟩
          · have hjl : j = r.length := by omega
            subst hjl
            have hFil' := hFil
            rw [List.take_length] at hFil'
            have hrow := hFil'.own (base := w.heap.size) (sz := 10) (n := r.length) (by omega) (by rw [flat_len flA 10 flA_len]) (by omega) (by omega)
            have hORn := (OR.far hOR.out hOR4 hg (Nat.le_refl _)).push (r := r) hrow
            rw [← HT.out] at hORn
            have HORn := hid hORn
            have hOwnU := hown4.kept hg (.inr (by simp [Value.ownBlock]; exact hne))
            have hbn : Below w.heap.size w wr := hb4.grown hg (by omega) (fun g h => by injection h with h; omega)
            clear hORn hrow hFil hFil' hg hOR4 hown4 hF4 hb4 hOR hb cH HRc
            go_wp2_with fail
            go_roundw
            case rel => exact ⟨k + 1, _, by omega, by go_num, hid (fun h => absurd h (by omega)), hOwnU, HORn, hbn⟩
            case measure => simp [intOf]; omega
    · have hkl : k = F.length := by omega
      subst hkl
      have HRW : Hid (RwP V (fun b => w.heap.size ≤ b ∧ b < V.heap.size) 10 flA u2 F) := hid (RwP.of_own hown (by have := hOR.out; rwa [List.take_length] at this) (fun h => hu0.out (by rw [h]; rfl)))
      clear hown hOR hu0
      go_wp2_with fail
      go_ret
      exact ⟨_, rfl, HRW.out, hb⟩
end Go.Proofs.YtndabbepepbnmaaGreatDoor
