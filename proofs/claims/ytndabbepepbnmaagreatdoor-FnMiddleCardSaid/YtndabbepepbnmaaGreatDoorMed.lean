import Derived.Test.YtndabbepepbnmaaGreatDoorSoOwn
import Derived.Test.YtndabbepepbnmaaGreatDoorAsk
import Derived.Test.YtndabbepepbnmaaGreatDoorSum
import Derived.Test.YtndabbepepbnmaaGreatDoorNumM
import Derived.Test.YtndabbepepbnmaaGreatDoorFaM
import Derived.Test.YtndabbepepbnmaaGreatDoorMM
import Derived.Deep.LoopGhost
namespace Go.Proofs.YtndabbepepbnmaaGreatDoor
open Go.RowKit
attribute [local go_sem] run_store_float

theorem favC_num {x : Nat} (h : nz x = x) : favC (1, x, es) = flA x := by
  unfold favC flA
  rw [if_pos rfl, h]
/-- a column's argument, as rows of numbers -/
theorem col_arg {zs : List Int} (hz : ∀ z ∈ zs, z.natAbs ≤ 9999) {w : World} {S : Nat → Prop} {m : Value} (h : RwP w S 10 favC m (amOf (colM zs)).2) : RwP w S 10 flA m (zs.map fun z => [enc z 0]) := by
  rw [colM_rows] at h
  have e : (zs.map fun z => [((1, enc z 0, es) : AV)]) = (zs.map fun z => [enc z 0]).map (fun r => r.map fun x => ((1, x, es) : AV)) := by
    rw [List.map_map]; rfl
  rw [e] at h
  refine RwP.mapped _ h (fun r hr x hx => ?_)
  obtain ⟨z, hzm, rfl⟩ := List.mem_map.1 hr
  obtain rfl := List.mem_singleton.1 hx
  have := hz z hzm
  exact favC_num (nz_whole z (by omega))
theorem flI_take {zs : List Int} {k : Nat} {z : Int} (h : zs[k]? = some z) : (flI zs).take (k + 1) = (flI zs).take k ++ [.float .f64 (enc z 0)] := by
  rw [List.take_add_one, flI, List.getElem?_map, h]; rfl

set_option maxRecDepth 100000 in
set_option maxHeartbeats 4000000 in
theorem MEDIAN_col (zs : List Int) (hne : zs ≠ []) (hl : zs.length ≤ 40) (hz : ∀ z ∈ zs, z.natAbs ≤ 9999) (M : Nat)
    (hM : (zs.length % 2 = 0 ∧ ∃ a b s, (srt zs)[zs.length / 2 - 1]? = some a ∧ (srt zs)[zs.length / 2]? = some b ∧ floatBits .add .f64 (enc a 0) (enc b 0) = some s ∧ floatBits .quo .f64 s 4611686018427387904 = some M) ∨ (zs.length % 2 = 1 ∧ ∃ a, (srt zs)[zs.length / 2]? = some a ∧ M = enc a 0)) (hfM : fin M ∧ nz M = M) :
    FnM 123 [amOf (colM zs)] (.num M) := by
  intro w g L el vs hL hA
  obtain ⟨hvl, hAA⟩ := hA
  have hm2 : (amOf (colM zs)).2 ≠ [] := by rw [colM_rows]; simpa using hne
  match vs, hvl with
  | [v], _ =>
  rcases hAA 0 v _ rfl rfl with ⟨h0, _⟩ | ⟨_, u1, rfl, m, L1, L2, g1, y1, rfl, r1, _⟩
  · exact absurd h0 hm2
  have r2 := col_arg hz r1
  have hFl : (zs.map fun z => [enc z 0]).length = zs.length := by simp
  obtain ⟨_, hs, hsl, ⟨A, c, rfl, hlc, hc⟩, h2⟩ := r2
  rw [hFl] at hsl hlc hc
  have hpos : 0 < zs.length := List.length_pos_iff.2 hne
  obtain ⟨b, o, rfl, hbB, hcell⟩ := hc hpos
  have HR : Hid (∀ k z, zs[k]? = some z → ∃ b' o' c', w.cell? ⟨b, o + k, none⟩ = some (.slice (some ⟨b', o', none⟩) 1 c') ∧ b' < w.heap.size ∧ ∀ (t : Nat) (u : Value), (flA (enc z 0))[t]? = some u → w.cell? ⟨b', o' + t, none⟩ = some u) := hid (fun k z hk => by
    have hk1 : k < zs.length := (List.getElem?_eq_some_iff.1 hk).1
    obtain ⟨hh, hhk⟩ : ∃ hh, hs[k]? = some hh := ⟨_, List.getElem?_eq_getElem (by omega)⟩
    obtain ⟨A1, c1, rfl, _, hrc⟩ := h2 k hh [enc z 0] hhk (by rw [List.getElem?_map, hk]; rfl)
    obtain ⟨b', o', rfl, hb', hcell'⟩ := hrc (by simp)
    exact ⟨b', o', c1, hcell k _ hhk, hb', fun t u hu => hcell' t u (by simpa using hu)⟩)
  rw [hFl] at hL
  clear r1 hc h2 hcell hlc hsl hAA
  have hta := fun (u : Value) wx => run_typeAssert_struct (P := Tryz.prog) 78 20 u wx Tryz.underlying78
  obtain ⟨i0, hi, hz0, hz1, hz2⟩ := info_parts infos_f64
  have HL := hid hL
  have HZ := hid hz
  have HM := hid hM
  clear hL hz hM
  obtain ⟨f1, e1, l1, c1⟩ := HL.out.at_ (i := 0) rfl
  have hel : el.length = 1 := by rw [HL.out.len]; rfl
  have E0 := hid (show elN el 0 = ptr f1 by unfold elN; rw [e1])
  have E1 := hid (show elN el 1 = .pointer none by unfold elN; rw [List.getElem?_eq_none (by omega)])
  go_enter Tryz.func123, Tryz.ntmps123
  go_wp2_with fail
  have k1 : Below w.heap.size w (w.alloc (.cells #[.string ⟨#[]⟩, .float .f64 0, .string ⟨#[]⟩, .slice none 0 0, .slice none 0 0, .bool false, .string ⟨#[]⟩, .int .u8 0, .pointer none, .pointer none] 78)) := (Below.refl _ _).alloc (Nat.le_refl _) _
  have bR := Bk.new w 78 #[.string ⟨#[]⟩, .float .f64 0, .string ⟨#[]⟩, .slice none 0 0, .slice none 0 0, .bool false, .string ⟨#[]⟩, .int .u8 0, .pointer none, .pointer none]
  have hzW : (w.alloc (.cells #[.string ⟨#[]⟩, .float .f64 0, .string ⟨#[]⟩, .slice none 0 0, .slice none 0 0, .bool false, .string ⟨#[]⟩, .int .u8 0, .pointer none, .pointer none] 78)).heap.size = w.heap.size + 1 := by simp
  generalize w.alloc (.cells #[.string ⟨#[]⟩, .float .f64 0, .string ⟨#[]⟩, .slice none 0 0, .slice none 0 0, .bool false, .string ⟨#[]⟩, .int .u8 0, .pointer none, .pointer none] 78) = W at *
  refine (len_any (HL.out.keep k1)).mono ?_
  rintro e w1 ⟨rfl, rfl⟩
  go_wp2_with fail
  refine (front_elN (HL.out.keep k1)).mono ?_
  rintro e w1 ⟨rfl, rfl⟩
  rw [E0.out]
  go_wp2_with fail
  go_loopg [5, 7] 1 (fun gg u p wr => ((gg = 1 ∧ u = .slice none 0 0 ∧ p = ptr f1 ∧ Below W.heap.size W wr) ∨ (gg = 0 ∧ p = .pointer none ∧ wr.ownsRow W.heap.size 39 1 u zs.length (flI zs) ∧ Below W.heap.size W wr)))
  case atStart => exact .inl ⟨rfl, rfl, rfl, Below.refl _ _⟩
  case round =>
    rcases hrel with ⟨hg0, rfl, rfl, hb⟩ | ⟨hg0, rfl, hown, hb⟩
    · have hbz := hb.size
      have hw0 : Below w.heap.size w wr := k1.trans (hb.mono k1.size)
      have gv := (hw0.cell (p := ⟨f1, 3, none⟩) l1).trans c1
      have gl : f1 < wr.heap.size := by have := hw0.size; omega
      unfold faM at gv
      go_wp2_with fail
      have k2 : Below wr.heap.size wr (wr.alloc (.cells #[.string es, .float .f64 0, .string es, .slice none 0 0, .slice (some ⟨b, o, none⟩) zs.length c, .bool false, .string es, .int .u8 4, .pointer (some ⟨L1, 0, none⟩), .pointer (some ⟨L2, 0, none⟩)] 78)) := (Below.refl _ _).alloc (Nat.le_refl _) _
      have hV : Below W.heap.size W (wr.alloc (.cells #[.string es, .float .f64 0, .string es, .slice none 0 0, .slice (some ⟨b, o, none⟩) zs.length c, .bool false, .string es, .int .u8 4, .pointer (some ⟨L1, 0, none⟩), .pointer (some ⟨L2, 0, none⟩)] 78)) := hb.trans (k2.mono hbz)
      generalize wr.alloc (.cells #[.string es, .float .f64 0, .string es, .slice none 0 0, .slice (some ⟨b, o, none⟩) zs.length c, .bool false, .string es, .int .u8 4, .pointer (some ⟨L1, 0, none⟩), .pointer (some ⟨L2, 0, none⟩)] 78) = V at *
      have hVw : Below w.heap.size w V := k1.trans (hV.mono k1.size)
      have hVz := hV.size
      go_loopw [5, 56] (fun u i wx => ∃ (k : Nat), k ≤ zs.length ∧ i = .int .i64 k ∧ wx.ownsRow V.heap.size 39 1 u k ((flI zs).take k) ∧ Below V.heap.size V wx) (fun _ i _ => zs.length - (intOf i).toNat)
      case atStart => exact ⟨0, Nat.zero_le _, rfl, World.ownsRow_nil _ _ _ _, Below.refl _ _⟩
      case round =>
        obtain ⟨k, hk, rfl, hown, hbx⟩ := hrel
        have hbxz := hbx.size
        have hwx : Below w.heap.size w wr := hVw.trans (hbx.mono hVw.size)
        by_cases hlt : k < zs.length
        · obtain ⟨z, hzk⟩ : ∃ z, zs[k]? = some z := ⟨_, List.getElem?_eq_getElem hlt⟩
          obtain ⟨b', o', c', g0, hb', hcl⟩ := HR.out k z hzk
          have c42 := (hwx.cell (p := ⟨b, o + k, none⟩) hbB).trans g0
          have HT := hid (flI_take hzk)
          have hkI : (k : Int) < (zs.length : Int) := by omega
          have q0 : wr.cell? ⟨b', o', none⟩ = some (.string es) := (hwx.cell (p := ⟨b', o', none⟩) hb').trans (hcl 0 _ rfl)
          have q1 : wr.cell? ⟨b', o' + 1, none⟩ = some (.float .f64 (enc z 0)) := (hwx.cell (p := ⟨b', o' + 1, none⟩) hb').trans (hcl 1 _ rfl)
          have q2 : wr.cell? ⟨b', o' + 2, none⟩ = some (.string es) := (hwx.cell (p := ⟨b', o' + 2, none⟩) hb').trans (hcl 2 _ rfl)
          have q3 : wr.cell? ⟨b', o' + 3, none⟩ = some (.slice none 0 0) := (hwx.cell (p := ⟨b', o' + 3, none⟩) hb').trans (hcl 3 _ rfl)
          have q4 : wr.cell? ⟨b', o' + 4, none⟩ = some (.slice none 0 0) := (hwx.cell (p := ⟨b', o' + 4, none⟩) hb').trans (hcl 4 _ rfl)
          have q5 : wr.cell? ⟨b', o' + 5, none⟩ = some (.bool false) := (hwx.cell (p := ⟨b', o' + 5, none⟩) hb').trans (hcl 5 _ rfl)
          have q6 : wr.cell? ⟨b', o' + 6, none⟩ = some (.string es) := (hwx.cell (p := ⟨b', o' + 6, none⟩) hb').trans (hcl 6 _ rfl)
          have q7 : wr.cell? ⟨b', o' + 7, none⟩ = some (.int .u8 1) := (hwx.cell (p := ⟨b', o' + 7, none⟩) hb').trans (hcl 7 _ rfl)
          have q8 : wr.cell? ⟨b', o' + 8, none⟩ = some (.pointer none) := (hwx.cell (p := ⟨b', o' + 8, none⟩) hb').trans (hcl 8 _ rfl)
          have q9 : wr.cell? ⟨b', o' + 9, none⟩ = some (.pointer none) := (hwx.cell (p := ⟨b', o' + 9, none⟩) hb').trans (hcl 9 _ rfl)
          clear hzk g0 hcl
          generalize enc z 0 = x at *
          obtain ⟨U, hU⟩ : ∃ U, U = wr := ⟨_, rfl⟩
          subst hU
          go_wp2_with fail
          go_loopw [5, 62] (fun u i wx => ((i = .int .i64 0 ∧ wx.ownsRow V.heap.size 39 1 u k ((flI zs).take k) ∧ wx = U) ∨ (i = .int .i64 1 ∧ wx.ownsRow V.heap.size 39 1 u (k + 1) ((flI zs).take (k + 1)) ∧ Below V.heap.size V wx))) (fun _ i _ => 1 - (intOf i).toNat)
          case atStart => exact .inl ⟨rfl, hown, rfl⟩
          case round =>
            rcases hrel with ⟨rfl, hown1, rfl⟩ | ⟨rfl, hown1, hb1⟩
            · go_wp2_with (at_builtin; refine wpList_append_own _ rfl _ _ 112 rfl V.heap.size 39 i0 _ 1 8 Tryz.underlying112 hi hz0 hz1 hz2 rfl (by decide) _ _ _ rfl ((hown1.alloc _).alloc _) ⟨wr.heap.size + 1, 0, none⟩ 1 1 [.float .f64 x] rfl rfl ?c1 ?c2 ?c3 ?c4 ?c5 ?_)
              case c1 =>
                intro i u hi
                rw [add_mid, Nat.zero_add, (Bk.new_at (by simp)).cell]
                simpa using hi
              case c2 => intro u hu; simp at hu; subst hu; rfl
              case c3 => unfold maxLen; omega
              case c4 => omega
              case c5 => simp; omega
              · intro v' w' hown' hgrow _
                have hbn : Below V.heap.size V w' := ((hbx.alloc hbxz _).alloc (by simp; omega) _).grown hgrow (by simp; omega) (fun g hg => (hown1.lt g hg).1)
                rw [← HT.out] at hown'
                clear hown hown1 hgrow q0 q1 q2 q3 q4 q5 q6 q7 q8 q9 c42
                go_wp2_with fail
                go_roundw
                case rel => exact .inr ⟨by go_num, hown', hbn⟩
                case measure => simp [intOf]
            · go_wp2_with fail
              go_roundw
              case rel => exact ⟨k + 1, by omega, by go_num, hown1, hb1⟩
              case measure => simp [intOf]; omega
        · have hkl : k = zs.length := by omega
          subst hkl
          have hlen : (flI zs).length = zs.length := by simp [flI]
          rw [← hlen, List.take_length, hlen] at hown
          have hbW : Below W.heap.size W wr := hV.trans (hbx.mono hVz)
          have hnx := next_elN (k := 0) (f := f1) (HL.out.keep hwx) e1
          rw [E1.out] at hnx
          go_wp2_with fail
          refine hnx.mono ?_
          rintro e w2 ⟨rfl, rfl⟩
          go_wp2_with fail
          go_roundg 0
          case measure => omega
          case rel => exact .inr ⟨rfl, rfl, own_base hown hVz, hbW⟩
    · subst hg0
      obtain ⟨gg, cap, rfl, hgB, hgl⟩ := own_form hown hpos
      have hn0 : ((zs.length : Int) == 0) = false := by simp; omega
      have hwr : Below w.heap.size w wr := k1.trans (hb.mono k1.size)
      have bRr := bR.below hb (by omega)
      have hF := float64s_ints zs (fun z h => by have := HZ.out z h; omega) hne (by omega) _ _ wr hown
      go_wp2_with fail
      refine hF.mono ?_
      rintro e w2 ⟨rfl, hown2, hg2⟩
      have hb2 : Below w.heap.size w w2 := hwr.grown hg2 hwr.size (fun g hg => by have := (hown.lt g hg).1; omega)
      have bR2 : Bk w2 w.heap.size 78 #[.string ⟨#[]⟩, .float .f64 0, .string ⟨#[]⟩, .slice none 0 0, .slice none 0 0, .bool false, .string ⟨#[]⟩, .int .u8 0, .pointer none, .pointer none] := (hg2.block w.heap.size bRr.lt (fun e => by have := (hown.lt _ e.symm).1; omega)).trans bRr
      have hR2 := bR2.lt
      have hgl2 : gg < w2.heap.size := by have := hg2.size; omega
      clear hF hown hg2 bR bRr hb hwr
      obtain ⟨h, hh⟩ : ∃ h, zs.length / 2 = h := ⟨_, rfl⟩
      have hcell2 := fun (i : Nat) (z : Int) (hz' : (srt zs)[i]? = some z) => show w2.cell? ⟨gg, i, none⟩ = some (.float .f64 (enc z 0)) from (hown2.cellAt i (by have := (List.getElem?_eq_some_iff.1 hz').1; rw [srt_len] at this; omega)).trans (by rw [flI, List.getElem?_map, hz']; rfl)
      have hq : Int.tdiv (zs.length : Int) 2 = (h : Int) := by rw [← hh]; rfl
      rcases HM.out with ⟨hev, a, b2, s, ha, hb3, hadd, hquo⟩ | ⟨hodd, a, ha, rfl⟩
      · rw [hh] at ha hb3
        have x1 := hcell2 _ _ ha
        have x2 := hcell2 _ _ hb3
        have hr0 : ((zs.length : Int) % 2 == 0) = true := by simp; omega
        have hq1 := fun wx => run_float_arith (P := Tryz.prog) wx .add 39 .f64 _ _ s hadd
        have hq2 := fun wx => run_float_arith (P := Tryz.prog) wx .quo 39 .f64 s _ M hquo
        have hw1 : IntKind.i64.wrap (h : Int) = (h : Int) := IntWalk.i64_in _ (by omega)
        have hw0 : (h : Int) - 1 = ((h - 1 : Nat) : Int) := by omega
        have hw2 : IntKind.i64.wrap ((h : Int) - 1) = ((h - 1 : Nat) : Int) := by rw [hw0]; exact IntWalk.i64_in _ (by omega)
        have hi1 : (((h - 1 : Nat) : Int)) < (zs.length : Int) := by omega
        have hi2 : (h : Int) < (zs.length : Int) := by omega
        clear hadd hquo hcell2 ha hb3
        generalize enc a 0 = xa at *
        generalize enc b2 0 = xb at *
        go_wp2_with fail
        go_quiet (fail)
        go_wp2_with fail
        refine (newNumber_any M _ hfM.1).mono ?_
        rintro e w3 ⟨rfl, hb4⟩
        rw [hfM.2]
        have bR3 := (bR2.drewN nq).below hb4 hR2
        have hbF : Below w.heap.size w w3 := (Below.drewN hb2 nq).trans (hb4.mono hb2.size)
        obtain ⟨q0, q1, q2, q3, q4, q5, q6, q7, q8, q9, qf⟩ := bR3.cells10
        have hlt3 := bR3.lt
        unfold fa
        go_wp2_with fail
        exact end_cell Tryz.results123 rfl (Bk.set10 bR3 _ _ _ _ _ _ _ _ _ _) Tryz.underlying78 rfl info_fa rfl ⟨rfl, Below.set10 hbF (Nat.le_refl _) _ _ _ _ _ _ _ _ _ _⟩
      · rw [hh] at ha
        have x1 := hcell2 _ _ ha
        have hr0 : ((zs.length : Int) % 2 == 0) = false := by simp; omega
        have hi2 : (h : Int) < (zs.length : Int) := by omega
        clear hcell2 ha
        obtain ⟨M, hMe⟩ : ∃ M, enc a 0 = M := ⟨_, rfl⟩
        rw [hMe] at x1 hfM
        have HMe := hid hMe
        clear hMe
        go_wp2_with fail
        refine (newNumber_any M _ hfM.1).mono ?_
        rintro e w3 ⟨rfl, hb4⟩
        rw [hfM.2]
        have bR3 := bR2.below hb4 hR2
        have hbF : Below w.heap.size w w3 := hb2.trans (hb4.mono hb2.size)
        obtain ⟨q0, q1, q2, q3, q4, q5, q6, q7, q8, q9, qf⟩ := bR3.cells10
        have hlt3 := bR3.lt
        unfold fa
        go_wp2_with fail
        rw [HMe.out]
        exact end_cell Tryz.results123 rfl (Bk.set10 bR3 _ _ _ _ _ _ _ _ _ _) Tryz.underlying78 rfl info_fa rfl ⟨rfl, Below.set10 hbF (Nat.le_refl _) _ _ _ _ _ _ _ _ _ _⟩
end Go.Proofs.YtndabbepepbnmaaGreatDoor
