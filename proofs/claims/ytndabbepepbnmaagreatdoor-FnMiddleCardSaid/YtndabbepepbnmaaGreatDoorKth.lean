import Derived.Test.YtndabbepepbnmaaGreatDoorMed
import Derived.Test.YtndabbepepbnmaaGreatDoorToList
import Derived.Test.YtndabbepepbnmaaGreatDoorMU
namespace Go.Proofs.YtndabbepepbnmaaGreatDoor
open Go.RowKit
attribute [local go_sem] run_store_float

/-- the place in the order, from the end, from the start -/
def atLARGE (n k : Nat) : Nat := n - k
def atSMALL (_n k : Nat) : Nat := k - 1

set_option maxRecDepth 100000 in
set_option maxHeartbeats 4000000 in
theorem kth_LARGE (zs : List Int) (hne : zs ≠ []) (hl : zs.length ≤ 40) (hz : ∀ z ∈ zs, z.natAbs ≤ 9999) (k : Nat) (hk : 1 ≤ k ∧ k ≤ zs.length) (a : Int) (ha : (srt zs)[atLARGE zs.length k]? = some a)
    (g L : Nat) (el : List Nat) (m : Value) (L1 L2 : Nat) (w : World) (hL : IsL w L el [.iface 78 (faM m (ptr L1) (ptr L2)), .iface 78 (fa (enc (k : Int) 0) es false es 1)]) (hm : Rws w w.heap.size 10 favC m (amOf (colM zs)).2) :
    Calls Tryz.prog 164 #[ptr g, .string ⟨#[76, 65, 82, 71, 69]⟩, ptr L] w fun e w' => e = .returned (Res.num (enc a 0)).fa ∧ Below w.heap.size w w' := by
  have hta := fun (u : Value) wx => run_typeAssert_struct (P := Tryz.prog) 78 20 u wx Tryz.underlying78
  obtain ⟨i0, hi, hz0, hz1, hz2⟩ := info_parts infos_f64
  have hrn : ∀ r ∈ (amOf (colM zs)).2, r ≠ [] := fun r hr => by rw [colM_rows] at hr; obtain ⟨z, _, rfl⟩ := List.mem_map.1 hr; simp
  have hrl : (amOf (colM zs)).2.length ≤ 1000 := by rw [colM_rows, List.length_map]; omega
  have hfl := colM_flat zs
  obtain ⟨al, hal⟩ : ∃ al, (zs.map fun z => ((1, enc z 0, es) : AV)) = al := ⟨_, rfl⟩
  have hall : al.length = zs.length := by rw [← hal]; simp
  have HA : Hid (∀ (j : Nat) (z : Int), zs[j]? = some z → al[j]? = some (1, enc z 0, es)) := hid (fun j z h => by rw [← hal, List.getElem?_map, h]; rfl)
  obtain ⟨Am, cm, rfl⟩ := hm.form
  have HL := hid hL
  have HM := hid hm
  have HTL := hid (fun wx hb => toList_as (amOf (colM zs)).2 al (by rw [hfl, hal]) _ L1 L2 wx (Rws.below hm (show Below w.heap.size w wx from hb) hb.size) hrn hrl (by omega))
  have HZ := hid hz
  have HNe := hid hne
  have hTN := hid (toNumber_whole (k : Int) (by omega))
  have hto := fun wx => run_convert_float_int (P := Tryz.prog) wx 39 3 .f64 .i64 (enc (k : Int) 0) (k : Int) (by kernel_rfl) Tryz.underlying3 (toInt_encM (k : Int) (by omega))
  obtain ⟨f1, e1, l1, c1⟩ := HL.out.at_ (i := 0) rfl
  obtain ⟨f2, e2, l2, c2⟩ := HL.out.at_ (i := 1) rfl
  have hab : a.natAbs ≤ 9999 := srt_bound (by omega) hz a (List.mem_of_getElem? ha)
  have ha1 := hid ha
  have hfa : fin (enc a 0) ∧ nz (enc a 0) = enc a 0 := ⟨fin_enc a 0 (by omega) (by omega), nz_whole a (by omega)⟩
  clear hL hm hz hal hfl hrn hrl ha hne
  generalize (amOf (colM zs)).2 = rows at *
  go_enter Tryz.func164, Tryz.ntmps164
  go_wp2_with fail
  have k1 : Below w.heap.size w (w.alloc (.cells #[.string ⟨#[]⟩, .float .f64 0, .string ⟨#[]⟩, .slice none 0 0, .slice none 0 0, .bool false, .string ⟨#[]⟩, .int .u8 0, .pointer none, .pointer none] 78)) := (Below.refl _ _).alloc (Nat.le_refl _) _
  have bR := Bk.new w 78 #[.string ⟨#[]⟩, .float .f64 0, .string ⟨#[]⟩, .slice none 0 0, .slice none 0 0, .bool false, .string ⟨#[]⟩, .int .u8 0, .pointer none, .pointer none]
  have hzW : (w.alloc (.cells #[.string ⟨#[]⟩, .float .f64 0, .string ⟨#[]⟩, .slice none 0 0, .slice none 0 0, .bool false, .string ⟨#[]⟩, .int .u8 0, .pointer none, .pointer none] 78)).heap.size = w.heap.size + 1 := by simp
  generalize w.alloc (.cells #[.string ⟨#[]⟩, .float .f64 0, .string ⟨#[]⟩, .slice none 0 0, .slice none 0 0, .bool false, .string ⟨#[]⟩, .int .u8 0, .pointer none, .pointer none] 78) = W at *
  have c1W := (k1.cell (p := ⟨f1, 3, none⟩) l1).trans c1
  have l1W : f1 < W.heap.size := by omega
  refine (len_any (HL.out.keep k1)).mono ?_
  rintro e w1 ⟨rfl, rfl⟩
  go_wp2_with fail
  refine (front_any (HL.out.keep k1) e1).mono ?_
  rintro e w1 ⟨rfl, rfl⟩
  unfold faM at c1W
  go_wp2_with fail
  refine (HTL.out W k1).mono ?_
  rintro e w1 ⟨A', c', rfl, hown, hb1⟩
  have hw1 := k1.trans (hb1.mono k1.size)
  have hw1z := hw1.size
  have bR1 := bR.below hb1 bR.lt
  have c2W := (hw1.cell (p := ⟨f2, 3, none⟩) l2).trans c2
  have l2W : f2 < w1.heap.size := by omega
  unfold fa at c2W
  go_wp2_with fail
  refine (back_any (HL.out.keep hw1) e2 (by simp)).mono ?_
  rintro e w2 ⟨rfl, rfl⟩
  go_wp2_with fail
  refine (hTN.out w1).mono ?_
  rintro e w2 ⟨rfl, hb2⟩
  have hw2 := hw1.trans (hb2.mono hw1z)
  have hw2z := hw2.size
  have bR2 := bR1.below hb2 bR1.lt
  have hown2 := own_keep hown hb2
  have hSl := Sl.of_own hown2
  clear hTN HTL c1W c2W HM hown hb1 hb2 bR bR1 hta HL
  obtain ⟨_, _, hv', _, hcl⟩ := hSl
  injection hv' with hv1 _ hv3
  subst hv1; subst hv3
  unfold fa
  have hk1 : ¬ (k : Int) < 1 := by omega
  generalize enc (k : Int) 0 = xk at *
  go_wp2_with fail
  have k2 : Below w2.heap.size w2 (w2.alloc (.cells #[.string es, .float .f64 xk, .string es, .slice none 0 0, .slice none 0 0, .bool false, .string es, .int .u8 1, .pointer none, .pointer none] 78)) := (Below.refl _ _).alloc (Nat.le_refl _) _
  have hwV := hw2.trans (k2.mono hw2z)
  have bRV := bR2.below k2 bR2.lt
  have hclV : Hid (0 < al.length → ∃ b o, A' = some ⟨b, o, none⟩ ∧ b < ((w2.alloc (.cells #[.string es, .float .f64 xk, .string es, .slice none 0 0, .slice none 0 0, .bool false, .string es, .int .u8 1, .pointer none, .pointer none] 78))).heap.size ∧ ∀ (j : Nat) (u : Value), (al.flatMap favC)[j]? = some u → ((w2.alloc (.cells #[.string es, .float .f64 xk, .string es, .slice none 0 0, .slice none 0 0, .bool false, .string es, .int .u8 1, .pointer none, .pointer none] 78))).cell? ⟨b, o + j, none⟩ = some u) := hid (fun h => by
    obtain ⟨b, o, h1, h2, h3⟩ := hcl h
    exact ⟨b, o, h1, Nat.lt_of_lt_of_le h2 k2.size, fun j u hu => (k2.cell (p := ⟨b, o + j, none⟩) h2).trans (h3 j u hu)⟩)
  generalize (w2.alloc (.cells #[.string es, .float .f64 xk, .string es, .slice none 0 0, .slice none 0 0, .bool false, .string es, .int .u8 1, .pointer none, .pointer none] 78)) = V at *
  clear hcl hown2 bR2 hw2 hw2z hw1 hw1z k2
  have hposl : 0 < al.length := by omega
  obtain ⟨b, o, rfl, hbV, hcell⟩ := hclV.out hposl
  have HC := hid hcell
  clear hcell hclV
  have hlfl : (flI zs).length = zs.length := by simp [flI]
  go_loopw [10, 45] (fun u i wx => ∃ (j : Nat), j ≤ zs.length ∧ i = .int .i64 j ∧ wx.ownsRow V.heap.size 39 1 u j ((flI zs).take j) ∧ Below V.heap.size V wx) (fun _ i _ => zs.length - (intOf i).toNat)
  case atStart => exact ⟨0, Nat.zero_le _, rfl, World.ownsRow_nil _ _ _ _, Below.refl _ _⟩
  case round =>
    obtain ⟨j, hj', rfl, hown, hbx⟩ := hrel
    have hbxz := hbx.size
    by_cases hlt : j < zs.length
    · obtain ⟨z, hzj⟩ : ∃ z, zs[j]? = some z := ⟨_, List.getElem?_eq_getElem hlt⟩
      have hx := HA.out j z hzj
      have hz9 := HZ.out z (List.mem_of_getElem? hzj)
      have hfc : favC (1, enc z 0, es) = flA (enc z 0) := favC_num (nz_whole z (by omega))
      have hcw : ∀ (t : Nat) (u : Value), t < 10 → (flA (enc z 0))[t]? = some u → wr.cell? ⟨b, o + (j * 10 + t), none⟩ = some u := fun t u ht hu =>
        (hbx.cell (p := ⟨b, o + (j * 10 + t), none⟩) hbV).trans (HC.out (j * 10 + t) u ((flat_at favC 10 favC_len al j _ t hx ht).trans (by rw [hfc]; exact hu)))
      have q0 : wr.cell? ⟨b, o + j * 10, none⟩ = some (.string es) := hcw 0 _ (by omega) rfl
      have q1 : wr.cell? ⟨b, o + j * 10 + 1, none⟩ = some (.float .f64 (enc z 0)) := hcw 1 _ (by omega) rfl
      have q2 : wr.cell? ⟨b, o + j * 10 + 2, none⟩ = some (.string es) := hcw 2 _ (by omega) rfl
      have q3 : wr.cell? ⟨b, o + j * 10 + 3, none⟩ = some (.slice none 0 0) := hcw 3 _ (by omega) rfl
      have q4 : wr.cell? ⟨b, o + j * 10 + 4, none⟩ = some (.slice none 0 0) := hcw 4 _ (by omega) rfl
      have q5 : wr.cell? ⟨b, o + j * 10 + 5, none⟩ = some (.bool false) := hcw 5 _ (by omega) rfl
      have q6 : wr.cell? ⟨b, o + j * 10 + 6, none⟩ = some (.string es) := hcw 6 _ (by omega) rfl
      have q7 : wr.cell? ⟨b, o + j * 10 + 7, none⟩ = some (.int .u8 1) := hcw 7 _ (by omega) rfl
      have q8 : wr.cell? ⟨b, o + j * 10 + 8, none⟩ = some (.pointer none) := hcw 8 _ (by omega) rfl
      have q9 : wr.cell? ⟨b, o + j * 10 + 9, none⟩ = some (.pointer none) := hcw 9 _ (by omega) rfl
      have HT := hid (flI_take hzj)
      clear hcw hfc hx hzj
      generalize enc z 0 = x at *
      go_wp2_with (at_builtin; refine wpList_append_own _ rfl _ _ 112 rfl V.heap.size 39 i0 _ 1 8 Tryz.underlying112 hi hz0 hz1 hz2 rfl (by decide) _ _ _ rfl ((hown.alloc _).alloc _) ⟨wr.heap.size + 1, 0, none⟩ 1 1 [.float .f64 x] rfl rfl ?c1 ?c2 ?c3 ?c4 ?c5 ?_)
      case c1 =>
        intro i u hi
        rw [add_mid, Nat.zero_add, (Bk.new_at (by simp)).cell]
        simpa using hi
      case c2 => intro u hu; simp at hu; subst hu; rfl
      case c3 => unfold maxLen; omega
      case c4 => omega
      case c5 => simp; omega
      · intro v' w' hown' hgrow _
        have hbn : Below V.heap.size V w' := ((hbx.alloc hbxz _).alloc (by simp; omega) _).grown hgrow (by simp; omega) (fun g hg => (hown.lt g hg).1)
        rw [← HT.out] at hown'
        clear hown hgrow q0 q1 q2 q3 q4 q5 q6 q7 q8 q9
        go_wp2_with fail
        go_roundw
        case rel => exact ⟨j + 1, by omega, by go_num, hown', hbn⟩
        case measure => simp [intOf]; omega
    · have hkl : j = zs.length := by omega
      subst hkl
      rw [← hlfl, List.take_length, hlfl] at hown
      obtain ⟨gg, cap, rfl, hgB, hgl⟩ := own_form hown (by omega)
      have hkn : ¬ (zs.length : Int) < (k : Int) := by omega
      have hbw := hwV.trans (hbx.mono hwV.size)
      have bRr := bRV.below hbx bRV.lt
      have hF := float64s_ints zs (fun z h => by have := HZ.out z h; omega) HNe.out (by omega) _ _ wr hown
      go_wp2_with fail
      refine hF.mono ?_
      rintro e w4 ⟨rfl, hown2, hg2⟩
      have hb2 : Below w.heap.size w w4 := hbw.grown hg2 hbw.size (fun g hg => by have := (hown.lt g hg).1; have := hwV.size; omega)
      have bR4 : Bk w4 w.heap.size 78 #[.string ⟨#[]⟩, .float .f64 0, .string ⟨#[]⟩, .slice none 0 0, .slice none 0 0, .bool false, .string ⟨#[]⟩, .int .u8 0, .pointer none, .pointer none] := (hg2.block w.heap.size bRr.lt (fun e => by have := (hown.lt _ e.symm).1; have := bRV.lt; omega)).trans bRr
      have hlt4 := bR4.lt
      have hgl2 : gg < w4.heap.size := by have := hg2.size; omega
      have x1 : w4.cell? ⟨gg, atLARGE zs.length k, none⟩ = some (.float .f64 (enc a 0)) := (hown2.cellAt _ (by have := (List.getElem?_eq_some_iff.1 ha1.out).1; rw [srt_len] at this; omega)).trans (by rw [flI, List.getElem?_map, ha1.out]; rfl)
      unfold atLARGE at x1
      clear hF hown hown2 hg2 bRr bRV hbx hbw
      obtain ⟨M, hMe⟩ : ∃ M, enc a 0 = M := ⟨_, rfl⟩
      rw [hMe] at x1 hfa
      have HMe := hid hMe
      clear hMe
      have hi1 : (zs.length : Int) - (k : Int) < (zs.length : Int) := by omega
      have hi2 : (k : Int) - 1 < (zs.length : Int) := by omega
      go_wp2_with fail
      refine (newNumber_any M _ hfa.1).mono ?_
      rintro e w3 ⟨rfl, hb4⟩
      rw [hfa.2]
      have bR3 := bR4.below hb4 hlt4
      have hbF : Below w.heap.size w w3 := hb2.trans (hb4.mono hb2.size)
      obtain ⟨q0, q1, q2, q3, q4, q5, q6, q7, q8, q9, qf⟩ := bR3.cells10
      have hlt3 := bR3.lt
      unfold fa
      go_wp2_with fail
      rw [HMe.out]
      exact end_cell Tryz.results164 rfl (Bk.set10 bR3 _ _ _ _ _ _ _ _ _ _) Tryz.underlying78 rfl info_fa rfl ⟨rfl, Below.set10 hbF (Nat.le_refl _) _ _ _ _ _ _ _ _ _ _⟩
set_option maxRecDepth 100000 in
set_option maxHeartbeats 4000000 in
theorem kth_SMALL (zs : List Int) (hne : zs ≠ []) (hl : zs.length ≤ 40) (hz : ∀ z ∈ zs, z.natAbs ≤ 9999) (k : Nat) (hk : 1 ≤ k ∧ k ≤ zs.length) (a : Int) (ha : (srt zs)[atSMALL zs.length k]? = some a)
    (g L : Nat) (el : List Nat) (m : Value) (L1 L2 : Nat) (w : World) (hL : IsL w L el [.iface 78 (faM m (ptr L1) (ptr L2)), .iface 78 (fa (enc (k : Int) 0) es false es 1)]) (hm : Rws w w.heap.size 10 favC m (amOf (colM zs)).2) :
    Calls Tryz.prog 164 #[ptr g, .string ⟨#[83, 77, 65, 76, 76]⟩, ptr L] w fun e w' => e = .returned (Res.num (enc a 0)).fa ∧ Below w.heap.size w w' := by
  have hta := fun (u : Value) wx => run_typeAssert_struct (P := Tryz.prog) 78 20 u wx Tryz.underlying78
  obtain ⟨i0, hi, hz0, hz1, hz2⟩ := info_parts infos_f64
  have hrn : ∀ r ∈ (amOf (colM zs)).2, r ≠ [] := fun r hr => by rw [colM_rows] at hr; obtain ⟨z, _, rfl⟩ := List.mem_map.1 hr; simp
  have hrl : (amOf (colM zs)).2.length ≤ 1000 := by rw [colM_rows, List.length_map]; omega
  have hfl := colM_flat zs
  obtain ⟨al, hal⟩ : ∃ al, (zs.map fun z => ((1, enc z 0, es) : AV)) = al := ⟨_, rfl⟩
  have hall : al.length = zs.length := by rw [← hal]; simp
  have HA : Hid (∀ (j : Nat) (z : Int), zs[j]? = some z → al[j]? = some (1, enc z 0, es)) := hid (fun j z h => by rw [← hal, List.getElem?_map, h]; rfl)
  obtain ⟨Am, cm, rfl⟩ := hm.form
  have HL := hid hL
  have HM := hid hm
  have HTL := hid (fun wx hb => toList_as (amOf (colM zs)).2 al (by rw [hfl, hal]) _ L1 L2 wx (Rws.below hm (show Below w.heap.size w wx from hb) hb.size) hrn hrl (by omega))
  have HZ := hid hz
  have HNe := hid hne
  have hTN := hid (toNumber_whole (k : Int) (by omega))
  have hto := fun wx => run_convert_float_int (P := Tryz.prog) wx 39 3 .f64 .i64 (enc (k : Int) 0) (k : Int) (by kernel_rfl) Tryz.underlying3 (toInt_encM (k : Int) (by omega))
  obtain ⟨f1, e1, l1, c1⟩ := HL.out.at_ (i := 0) rfl
  obtain ⟨f2, e2, l2, c2⟩ := HL.out.at_ (i := 1) rfl
  have hab : a.natAbs ≤ 9999 := srt_bound (by omega) hz a (List.mem_of_getElem? ha)
  have ha1 := hid ha
  have hfa : fin (enc a 0) ∧ nz (enc a 0) = enc a 0 := ⟨fin_enc a 0 (by omega) (by omega), nz_whole a (by omega)⟩
  clear hL hm hz hal hfl hrn hrl ha hne
  generalize (amOf (colM zs)).2 = rows at *
  go_enter Tryz.func164, Tryz.ntmps164
  go_wp2_with fail
  have k1 : Below w.heap.size w (w.alloc (.cells #[.string ⟨#[]⟩, .float .f64 0, .string ⟨#[]⟩, .slice none 0 0, .slice none 0 0, .bool false, .string ⟨#[]⟩, .int .u8 0, .pointer none, .pointer none] 78)) := (Below.refl _ _).alloc (Nat.le_refl _) _
  have bR := Bk.new w 78 #[.string ⟨#[]⟩, .float .f64 0, .string ⟨#[]⟩, .slice none 0 0, .slice none 0 0, .bool false, .string ⟨#[]⟩, .int .u8 0, .pointer none, .pointer none]
  have hzW : (w.alloc (.cells #[.string ⟨#[]⟩, .float .f64 0, .string ⟨#[]⟩, .slice none 0 0, .slice none 0 0, .bool false, .string ⟨#[]⟩, .int .u8 0, .pointer none, .pointer none] 78)).heap.size = w.heap.size + 1 := by simp
  generalize w.alloc (.cells #[.string ⟨#[]⟩, .float .f64 0, .string ⟨#[]⟩, .slice none 0 0, .slice none 0 0, .bool false, .string ⟨#[]⟩, .int .u8 0, .pointer none, .pointer none] 78) = W at *
  have c1W := (k1.cell (p := ⟨f1, 3, none⟩) l1).trans c1
  have l1W : f1 < W.heap.size := by omega
  refine (len_any (HL.out.keep k1)).mono ?_
  rintro e w1 ⟨rfl, rfl⟩
  go_wp2_with fail
  refine (front_any (HL.out.keep k1) e1).mono ?_
  rintro e w1 ⟨rfl, rfl⟩
  unfold faM at c1W
  go_wp2_with fail
  refine (HTL.out W k1).mono ?_
  rintro e w1 ⟨A', c', rfl, hown, hb1⟩
  have hw1 := k1.trans (hb1.mono k1.size)
  have hw1z := hw1.size
  have bR1 := bR.below hb1 bR.lt
  have c2W := (hw1.cell (p := ⟨f2, 3, none⟩) l2).trans c2
  have l2W : f2 < w1.heap.size := by omega
  unfold fa at c2W
  go_wp2_with fail
  refine (back_any (HL.out.keep hw1) e2 (by simp)).mono ?_
  rintro e w2 ⟨rfl, rfl⟩
  go_wp2_with fail
  refine (hTN.out w1).mono ?_
  rintro e w2 ⟨rfl, hb2⟩
  have hw2 := hw1.trans (hb2.mono hw1z)
  have hw2z := hw2.size
  have bR2 := bR1.below hb2 bR1.lt
  have hown2 := own_keep hown hb2
  have hSl := Sl.of_own hown2
  clear hTN HTL c1W c2W HM hown hb1 hb2 bR bR1 hta HL
  obtain ⟨_, _, hv', _, hcl⟩ := hSl
  injection hv' with hv1 _ hv3
  subst hv1; subst hv3
  unfold fa
  have hk1 : ¬ (k : Int) < 1 := by omega
  generalize enc (k : Int) 0 = xk at *
  go_wp2_with fail
  have k2 : Below w2.heap.size w2 (w2.alloc (.cells #[.string es, .float .f64 xk, .string es, .slice none 0 0, .slice none 0 0, .bool false, .string es, .int .u8 1, .pointer none, .pointer none] 78)) := (Below.refl _ _).alloc (Nat.le_refl _) _
  have hwV := hw2.trans (k2.mono hw2z)
  have bRV := bR2.below k2 bR2.lt
  have hclV : Hid (0 < al.length → ∃ b o, A' = some ⟨b, o, none⟩ ∧ b < ((w2.alloc (.cells #[.string es, .float .f64 xk, .string es, .slice none 0 0, .slice none 0 0, .bool false, .string es, .int .u8 1, .pointer none, .pointer none] 78))).heap.size ∧ ∀ (j : Nat) (u : Value), (al.flatMap favC)[j]? = some u → ((w2.alloc (.cells #[.string es, .float .f64 xk, .string es, .slice none 0 0, .slice none 0 0, .bool false, .string es, .int .u8 1, .pointer none, .pointer none] 78))).cell? ⟨b, o + j, none⟩ = some u) := hid (fun h => by
    obtain ⟨b, o, h1, h2, h3⟩ := hcl h
    exact ⟨b, o, h1, Nat.lt_of_lt_of_le h2 k2.size, fun j u hu => (k2.cell (p := ⟨b, o + j, none⟩) h2).trans (h3 j u hu)⟩)
  generalize (w2.alloc (.cells #[.string es, .float .f64 xk, .string es, .slice none 0 0, .slice none 0 0, .bool false, .string es, .int .u8 1, .pointer none, .pointer none] 78)) = V at *
  clear hcl hown2 bR2 hw2 hw2z hw1 hw1z k2
  have hposl : 0 < al.length := by omega
  obtain ⟨b, o, rfl, hbV, hcell⟩ := hclV.out hposl
  have HC := hid hcell
  clear hcell hclV
  have hlfl : (flI zs).length = zs.length := by simp [flI]
  go_loopw [10, 45] (fun u i wx => ∃ (j : Nat), j ≤ zs.length ∧ i = .int .i64 j ∧ wx.ownsRow V.heap.size 39 1 u j ((flI zs).take j) ∧ Below V.heap.size V wx) (fun _ i _ => zs.length - (intOf i).toNat)
  case atStart => exact ⟨0, Nat.zero_le _, rfl, World.ownsRow_nil _ _ _ _, Below.refl _ _⟩
  case round =>
    obtain ⟨j, hj', rfl, hown, hbx⟩ := hrel
    have hbxz := hbx.size
    by_cases hlt : j < zs.length
    · obtain ⟨z, hzj⟩ : ∃ z, zs[j]? = some z := ⟨_, List.getElem?_eq_getElem hlt⟩
      have hx := HA.out j z hzj
      have hz9 := HZ.out z (List.mem_of_getElem? hzj)
      have hfc : favC (1, enc z 0, es) = flA (enc z 0) := favC_num (nz_whole z (by omega))
      have hcw : ∀ (t : Nat) (u : Value), t < 10 → (flA (enc z 0))[t]? = some u → wr.cell? ⟨b, o + (j * 10 + t), none⟩ = some u := fun t u ht hu =>
        (hbx.cell (p := ⟨b, o + (j * 10 + t), none⟩) hbV).trans (HC.out (j * 10 + t) u ((flat_at favC 10 favC_len al j _ t hx ht).trans (by rw [hfc]; exact hu)))
      have q0 : wr.cell? ⟨b, o + j * 10, none⟩ = some (.string es) := hcw 0 _ (by omega) rfl
      have q1 : wr.cell? ⟨b, o + j * 10 + 1, none⟩ = some (.float .f64 (enc z 0)) := hcw 1 _ (by omega) rfl
      have q2 : wr.cell? ⟨b, o + j * 10 + 2, none⟩ = some (.string es) := hcw 2 _ (by omega) rfl
      have q3 : wr.cell? ⟨b, o + j * 10 + 3, none⟩ = some (.slice none 0 0) := hcw 3 _ (by omega) rfl
      have q4 : wr.cell? ⟨b, o + j * 10 + 4, none⟩ = some (.slice none 0 0) := hcw 4 _ (by omega) rfl
      have q5 : wr.cell? ⟨b, o + j * 10 + 5, none⟩ = some (.bool false) := hcw 5 _ (by omega) rfl
      have q6 : wr.cell? ⟨b, o + j * 10 + 6, none⟩ = some (.string es) := hcw 6 _ (by omega) rfl
      have q7 : wr.cell? ⟨b, o + j * 10 + 7, none⟩ = some (.int .u8 1) := hcw 7 _ (by omega) rfl
      have q8 : wr.cell? ⟨b, o + j * 10 + 8, none⟩ = some (.pointer none) := hcw 8 _ (by omega) rfl
      have q9 : wr.cell? ⟨b, o + j * 10 + 9, none⟩ = some (.pointer none) := hcw 9 _ (by omega) rfl
      have HT := hid (flI_take hzj)
      clear hcw hfc hx hzj
      generalize enc z 0 = x at *
      go_wp2_with (at_builtin; refine wpList_append_own _ rfl _ _ 112 rfl V.heap.size 39 i0 _ 1 8 Tryz.underlying112 hi hz0 hz1 hz2 rfl (by decide) _ _ _ rfl ((hown.alloc _).alloc _) ⟨wr.heap.size + 1, 0, none⟩ 1 1 [.float .f64 x] rfl rfl ?c1 ?c2 ?c3 ?c4 ?c5 ?_)
      case c1 =>
        intro i u hi
        rw [add_mid, Nat.zero_add, (Bk.new_at (by simp)).cell]
        simpa using hi
      case c2 => intro u hu; simp at hu; subst hu; rfl
      case c3 => unfold maxLen; omega
      case c4 => omega
      case c5 => simp; omega
      · intro v' w' hown' hgrow _
        have hbn : Below V.heap.size V w' := ((hbx.alloc hbxz _).alloc (by simp; omega) _).grown hgrow (by simp; omega) (fun g hg => (hown.lt g hg).1)
        rw [← HT.out] at hown'
        clear hown hgrow q0 q1 q2 q3 q4 q5 q6 q7 q8 q9
        go_wp2_with fail
        go_roundw
        case rel => exact ⟨j + 1, by omega, by go_num, hown', hbn⟩
        case measure => simp [intOf]; omega
    · have hkl : j = zs.length := by omega
      subst hkl
      rw [← hlfl, List.take_length, hlfl] at hown
      obtain ⟨gg, cap, rfl, hgB, hgl⟩ := own_form hown (by omega)
      have hkn : ¬ (zs.length : Int) < (k : Int) := by omega
      have hbw := hwV.trans (hbx.mono hwV.size)
      have bRr := bRV.below hbx bRV.lt
      have hF := float64s_ints zs (fun z h => by have := HZ.out z h; omega) HNe.out (by omega) _ _ wr hown
      go_wp2_with fail
      refine hF.mono ?_
      rintro e w4 ⟨rfl, hown2, hg2⟩
      have hb2 : Below w.heap.size w w4 := hbw.grown hg2 hbw.size (fun g hg => by have := (hown.lt g hg).1; have := hwV.size; omega)
      have bR4 : Bk w4 w.heap.size 78 #[.string ⟨#[]⟩, .float .f64 0, .string ⟨#[]⟩, .slice none 0 0, .slice none 0 0, .bool false, .string ⟨#[]⟩, .int .u8 0, .pointer none, .pointer none] := (hg2.block w.heap.size bRr.lt (fun e => by have := (hown.lt _ e.symm).1; have := bRV.lt; omega)).trans bRr
      have hlt4 := bR4.lt
      have hgl2 : gg < w4.heap.size := by have := hg2.size; omega
      have x1 : w4.cell? ⟨gg, atSMALL zs.length k, none⟩ = some (.float .f64 (enc a 0)) := (hown2.cellAt _ (by have := (List.getElem?_eq_some_iff.1 ha1.out).1; rw [srt_len] at this; omega)).trans (by rw [flI, List.getElem?_map, ha1.out]; rfl)
      unfold atSMALL at x1
      clear hF hown hown2 hg2 bRr bRV hbx hbw
      obtain ⟨M, hMe⟩ : ∃ M, enc a 0 = M := ⟨_, rfl⟩
      rw [hMe] at x1 hfa
      have HMe := hid hMe
      clear hMe
      have hi1 : (zs.length : Int) - (k : Int) < (zs.length : Int) := by omega
      have hi2 : (k : Int) - 1 < (zs.length : Int) := by omega
      go_wp2_with fail
      refine (newNumber_any M _ hfa.1).mono ?_
      rintro e w3 ⟨rfl, hb4⟩
      rw [hfa.2]
      have bR3 := bR4.below hb4 hlt4
      have hbF : Below w.heap.size w w3 := hb2.trans (hb4.mono hb2.size)
      obtain ⟨q0, q1, q2, q3, q4, q5, q6, q7, q8, q9, qf⟩ := bR3.cells10
      have hlt3 := bR3.lt
      unfold fa
      go_wp2_with fail
      rw [HMe.out]
      exact end_cell Tryz.results164 rfl (Bk.set10 bR3 _ _ _ _ _ _ _ _ _ _) Tryz.underlying78 rfl info_fa rfl ⟨rfl, Below.set10 hbF (Nat.le_refl _) _ _ _ _ _ _ _ _ _ _⟩
end Go.Proofs.YtndabbepepbnmaaGreatDoor
