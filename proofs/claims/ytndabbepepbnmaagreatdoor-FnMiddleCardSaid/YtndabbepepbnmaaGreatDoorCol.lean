import Derived.Test.YtndabbepepbnmaaGreatDoorTab
namespace Go.Proofs.YtndabbepepbnmaaGreatDoor
open Go.RowKit
attribute [local go_sem] run_store_float

/-- the value of a cell that is a whole number -/
def val1 (a : IT) : SV := (1, a.2.1, 1, es)
theorem val_one (n : Int) (t : ByteArray) (h1 : -99999999999 ≤ n) (h2 : n ≤ 99999999999) (w : World) :
    Calls Tryz.prog 144 #[itV (1, n, t)] w fun e w' => e = .returned (svV (val1 (1, n, t))) ∧ Below w.heap.size w w' := by
  have HI := hid (fun W => int_ok n W h1 h2)
  have h16 : (1 : Int) % 6 = 1 := by decide
  unfold itV svV val1
  go_enter Tryz.func144, Tryz.ntmps144
  go_wp2_with fail
  refine (part_any 1 6 (by omega) (by omega) _).mono ?_
  rintro e w1 ⟨rfl, rfl⟩
  rw [h16]
  go_wp2_with fail
  refine (HI.out _).mono ?_
  rintro e w1 ⟨rfl, hb⟩
  have hB := Bk.below (Bk.new_at (w := w.alloc (.cells #[.int .i64 1, .int .i64 n, .string t] 85)) (t := 24) (cs := #[.int .i64 0, .int .i64 0, .int .i64 0, .string ⟨#[]⟩, .slice none 0 0]) (g := w.heap.size + 1) (by simp)) hb (by simp)
  have hd := Below.lift (((Below.refl w.heap.size w).alloc (Nat.le_refl _) (.cells #[.int .i64 1, .int .i64 n, .string t] 85)).alloc (by simp) (.cells #[.int .i64 0, .int .i64 0, .int .i64 0, .string ⟨#[]⟩, .slice none 0 0] 24)) (by simp; omega) hb
  obtain ⟨q0, q1, q2, q3, q4, qf⟩ := hB.cells5
  have hz := hB.lt
  clear hb
  unfold sv
  go_wp2_with fail
  exact end_cell Tryz.results144 rfl (Bk.set5 hB _ _ _ _ _) Tryz.underlying24 rfl info_sv rfl ⟨rfl, Below.set5 hd (by omega) _ _ _ _ _⟩

/-- whole numbers as cells -/
def colIts (zs : List Int) : List IT := zs.map fun z => (1, z, es)
def colRows (zs : List Int) : List (List SV) := zs.map fun z => [(1, z, 1, es)]
theorem tab_col (zs : List Int) (h : zs ≠ []) : tab (colIts zs) val1 1 = colRows zs := by
  have hl : (colIts zs).length = zs.length := by simp [colIts]
  have hpos : 0 < zs.length := List.length_pos_iff.2 h
  have hN : tabN (colIts zs).length 1 = zs.length := by
    unfold tabN; rw [hl, Nat.div_one, if_neg (by omega)]
  apply List.ext_getElem?
  intro i
  rcases Nat.lt_or_ge i zs.length with hi | hi
  · rw [tab_at _ _ _ _ (by rw [hN]; exact hi)]
    unfold colRows
    rw [List.getElem?_map, List.getElem?_eq_getElem hi]
    simp only [Option.map_some, tabRow]
    congr 1
    have : (colIts zs)[i * 1 + 0]? = some (1, zs[i], es) := by
      rw [Nat.mul_one, Nat.add_zero, colIts, List.getElem?_map, List.getElem?_eq_getElem hi]; rfl
    simp only [List.range_succ, List.range_zero, List.nil_append, List.map_cons, List.map_nil]
    rw [this]
    rfl
  · rw [List.getElem?_eq_none (by rw [tab_len, hN]; exact hi), List.getElem?_eq_none (by simp [colRows]; exact hi)]

set_option maxRecDepth 100000 in
set_option maxHeartbeats 1000000 in
theorem numbered_any (zs : List Int) (hne : zs ≠ []) (hz : ∀ z ∈ zs, -99999999999 ≤ z ∧ z ≤ 99999999999) (hlen : zs.length ≤ 120) (v : Value) (w : World) (h : Sl w w.heap.size 1 v zs.length (zs.map (Value.int .i64))) :
    Calls Tryz.prog 75 #[v, .int .i64 0] w fun e w' => ∃ s, e = .returned (.agg #[.int .i64 5, .int .i64 0, .int .i64 0, .string es, s]) ∧ Rwn w w' 5 svCells s (colRows zs) ∧ Below w.heap.size w w' := by
  obtain ⟨A, cap, rfl, hl, hcl⟩ := h
  obtain ⟨i0, hi, hz0, hz1, hz2⟩ := info_parts infos_it
  have HZ := hid hz
  have HC := hid hcl
  have HE := hid hne
  clear hz hcl hl hne
  go_enter Tryz.func75, Tryz.ntmps75
  go_wp2_with fail
  have b0 : Bk (w.alloc (.cells #[.int .i64 0, .int .i64 0, .int .i64 0, .string ⟨#[]⟩, .slice none 0 0] 24)) w.heap.size 24 #[.int .i64 0, .int .i64 0, .int .i64 0, .string ⟨#[]⟩, .slice none 0 0] := Bk.new _ _ _
  have hzW : (w.alloc (.cells #[.int .i64 0, .int .i64 0, .int .i64 0, .string ⟨#[]⟩, .slice none 0 0] 24)).heap.size = w.heap.size + 1 := by simp
  have hw : Below w.heap.size w (w.alloc (.cells #[.int .i64 0, .int .i64 0, .int .i64 0, .string ⟨#[]⟩, .slice none 0 0] 24)) := (Below.refl _ _).alloc (Nat.le_refl _) _
  generalize w.alloc (.cells #[.int .i64 0, .int .i64 0, .int .i64 0, .string ⟨#[]⟩, .slice none 0 0] 24) = W at *
  go_loopw [5, 6] (fun u i wr => ∃ (k : Nat), k ≤ zs.length ∧ i = .int .i64 k ∧ wr.ownsRow (w.heap.size + 1) 85 3 u k (((colIts zs).take k).flatMap itCells) ∧ Below (w.heap.size + 1) W wr) (fun _ i _ => zs.length - (intOf i).toNat)
  case atStart => exact ⟨0, Nat.zero_le _, rfl, World.ownsRow_nil _ _ _ _, Below.refl _ _⟩
  case round =>
    obtain ⟨k, hk, rfl, hown, hb⟩ := hrel
    have hbz := hb.size
    have hbw : Below w.heap.size w wr := hw.trans (hb.mono (by omega))
    by_cases hlt : k < zs.length
    · obtain ⟨b, o, rfl, hbB, hcell⟩ := HC.out (by omega)
      obtain ⟨z, hz⟩ : ∃ z, zs[k]? = some z := ⟨_, List.getElem?_eq_getElem hlt⟩
      have g0 : wr.cell? ⟨b, o + k, none⟩ = some (.int .i64 z) := (hbw.cell (p := ⟨b, o + k, none⟩) hbB).trans (hcell k _ (by rw [List.getElem?_map, hz]; rfl))
      have HT : Hid (((colIts zs).take (k + 1)).flatMap itCells = ((colIts zs).take k).flatMap itCells ++ itCells (1, z, es)) := hid (flat_take itCells _ k _ (by rw [colIts, List.getElem?_map, hz]; rfl))
      clear hcell hz hbB
      go_wp2_with (at_builtin; refine wpList_append_own _ rfl _ _ 83 rfl (w.heap.size + 1) 85 i0 _ 3 32 Tryz.underlying83 hi hz0 hz1 hz2 rfl (by decide) _ _ _ rfl (hown.alloc _) ⟨wr.heap.size, 0, none⟩ 1 1 (itCells (1, z, es)) rfl rfl ?c1 ?c2 ?c3 ?c4 ?c5 ?_)
      case c1 =>
        intro i u hi
        rw [add_mid, Nat.zero_add, (Bk.new _ _ _).cell]
        simpa [itCells, es] using hi
      case c2 => intro u hu; simp [itCells] at hu; rcases hu with rfl | rfl | rfl <;> rfl
      case c3 => unfold maxLen; omega
      case c4 => omega
      case c5 => simp; omega
      · intro v' w' hown' hgrow _
        have hb' : Below (w.heap.size + 1) W w' := (hb.alloc (by omega) _).grown hgrow (by simp; omega) (fun g hg => ((hown.lt) g hg).1)
        rw [← HT.out] at hown'
        clear hown hgrow hb hbw g0
        go_wp2
        go_roundw
        case rel => first | exact ⟨k + 1, by omega, by go_num, hown', hb'⟩ | ((repeat apply Exists.intro); exact ⟨⟨k + 1, by omega, by go_num, hown', hb'⟩, rfl⟩)
        case measure => simp [intOf]; omega
    · have hkl : k = zs.length := by omega
      subst hkl
      have hil : (colIts zs).length = zs.length := by simp [colIts]
      have hSl : Hid (Sl wr wr.heap.size 3 u5 (colIts zs).length ((colIts zs).flatMap itCells)) := hid (by
        have := hown
        rw [← hil, List.take_length] at this
        exact Sl.of_own this)
      have hR1 := b0.below hb (by omega)
      obtain ⟨A2, c2, hv', _, _⟩ := Sl.of_own hown
      subst hv'
      have HT : Hid (∀ wx, Sl wx wx.heap.size 3 (.slice A2 zs.length c2) (colIts zs).length ((colIts zs).flatMap itCells) → Calls Tryz.prog 108 #[.slice A2 zs.length c2, .int .i64 0] wx fun e w' => ∃ s, e = .returned (.agg #[.int .i64 5, .int .i64 0, .int .i64 0, .string es, s]) ∧ Rwn wx w' 5 svCells s (colRows zs) ∧ Below wx.heap.size wx w') := hid (fun wx hs => by
        have := table_any (colIts zs) val1 (fun a ha W => by
          unfold colIts at ha
          obtain ⟨z, hzm, rfl⟩ := List.mem_map.1 ha
          exact val_one z es (HZ.out z hzm).1 (HZ.out z hzm).2 W) 0 1 (by decide) _ wx hs (by rw [hil]; exact hlen)
        rw [tab_col zs HE.out] at this
        exact this)
      clear hown
      go_wp2_with fail
      refine (HT.out _ hSl.out).mono ?_
      rintro e w2 ⟨s, rfl, hRW, hb2⟩
      have hR2 := hR1.below hb2 hR1.lt
      have hb3 := hbw.trans (hb2.mono hbw.size)
      obtain ⟨q0, q1, q2, q3, q4, qf⟩ := hR2.cells5
      have hz2 := hR2.lt
      have hRW2 := hid hRW
      obtain ⟨A3, c3, hs3⟩ := RwP.form hRW
      subst hs3
      clear hb2 hR1 hbw hRW hSl HT
      go_wp2_with fail
      refine end_cell Tryz.results75 rfl (Bk.set5 hR2 _ _ _ _ _) Tryz.underlying24 rfl info_sv rfl ?_
      exact ⟨_, rfl, RwP.keep hRW2.out fun b hb => ⟨heap_set5 w2 (by omega) _ _ _ _ _, by simp [World.setCell]; omega⟩, Below.set5 hb3 (Nat.le_refl _) _ _ _ _ _⟩

theorem column_any (zs : List Int) (hne : zs ≠ []) (hz : ∀ z ∈ zs, -99999999999 ≤ z ∧ z ≤ 99999999999) (hlen : zs.length ≤ 120) (v : Value) (w : World) (h : Sl w w.heap.size 1 v zs.length (zs.map (Value.int .i64))) :
    Calls Tryz.prog 30 #[v] w fun e w' => ∃ s, e = .returned (.agg #[.int .i64 5, .int .i64 0, .int .i64 0, .string es, s]) ∧ Rwn w w' 5 svCells s (colRows zs) ∧ Below w.heap.size w w' := by
  have HZ := hid hz
  have HE := hid hne
  have HS := hid ((h.keep ((Below.refl w.heap.size w).alloc (Nat.le_refl _) (.cells #[.int .i64 0, .int .i64 0, .int .i64 0, .string ⟨#[]⟩, .slice none 0 0] 24))).more (show w.heap.size ≤ (w.alloc (.cells #[.int .i64 0, .int .i64 0, .int .i64 0, .string ⟨#[]⟩, .slice none 0 0] 24)).heap.size by simp))
  clear hz hne h
  go_enter Tryz.func30, Tryz.ntmps30
  go_wp2_with fail
  refine (numbered_any zs HE.out HZ.out hlen v _ HS.out).mono ?_
  rintro e w2 ⟨s, rfl, hRW, hb2⟩
  have hR2 := (Bk.new w 24 #[.int .i64 0, .int .i64 0, .int .i64 0, .string ⟨#[]⟩, .slice none 0 0]).below hb2 (by simp)
  have hb3 := Below.lift ((Below.refl w.heap.size w).alloc (Nat.le_refl _) _) (by simp) hb2
  obtain ⟨q0, q1, q2, q3, q4, qf⟩ := hR2.cells5
  have hz2 := hR2.lt
  have hRW2 := hid hRW
  obtain ⟨A3, c3, hs3⟩ := RwP.form hRW
  subst hs3
  clear hb2 hRW HS
  go_wp2_with fail
  refine end_cell Tryz.results30 rfl (Bk.set5 hR2 _ _ _ _ _) Tryz.underlying24 rfl info_sv rfl ?_
  exact ⟨_, rfl, RwP.keep hRW2.out fun b hb => ⟨heap_set5 w2 (by simp at hb; omega) _ _ _ _ _, by simp [World.setCell] at hb ⊢; omega⟩, Below.set5 hb3 (Nat.le_refl _) _ _ _ _ _⟩

/-- numbers that are not great: what is left over of ten thousand -/
def tinyL (zs : List Int) : List Int := (zs.take 120).map fun z => Int.tmod z 10000
theorem tinyL_small (zs : List Int) : ∀ z ∈ tinyL zs, -9999 ≤ z ∧ z ≤ 9999 := by
  intro z hz
  obtain ⟨y, _, rfl⟩ := List.mem_map.1 hz
  have h1 : (Int.tmod y 10000).natAbs = y.natAbs % 10000 := Int.natAbs_tmod y 10000
  omega

set_option maxRecDepth 100000 in
theorem tiny_any (n c : Nat) (A : Option Addr) (Z : Nat → Int) (w : World) (hn : n ≤ 2147483647) (hZ : ∀ i, i < n → ∃ a, A = some a ∧ w.cell? (a.add i) = some (.int .i64 (Z i))) :
    Calls Tryz.prog 28 #[.slice A n c] w fun e w' => ∃ v, e = .returned v ∧ w'.ownsRow w.heap.size 3 1 v (tinyL ((List.range n).map Z)).length ((tinyL ((List.range n).map Z)).map (Value.int .i64)) ∧ Below w.heap.size w w' := by
  obtain ⟨i0, hi, hz0, hz1, hz2⟩ := info_parts infos_int
  obtain ⟨zs, hzs⟩ : ∃ zs, tinyL ((List.range n).map Z) = zs := ⟨_, rfl⟩
  have hlen : zs.length = min 120 n := by rw [← hzs]; simp [tinyL]
  have HG : Hid (∀ k, k < n → k < 120 → zs[k]? = some (Int.tmod (Z k) 10000)) := hid (fun k hk hk2 => by
    rw [← hzs, tinyL, List.getElem?_map, List.getElem?_take_of_lt hk2, List.getElem?_map, List.getElem?_range hk]; rfl)
  have HZ := hid hZ
  rw [hzs]
  have HL := hid hlen
  clear hzs hZ hlen
  go_enter Tryz.func28, Tryz.ntmps28
  go_wp2_with fail
  go_loopw [3, 4] (fun u i wr => ∃ (k : Nat), k ≤ n ∧ k ≤ 120 ∧ i = .int .i64 k ∧ wr.ownsRow w.heap.size 3 1 u k ((zs.map (Value.int .i64)).take k) ∧ Below w.heap.size w wr) (fun _ i _ => n - (intOf i).toNat)
  case atStart => exact ⟨0, Nat.zero_le _, Nat.zero_le _, rfl, World.ownsRow_nil _ _ _ _, Below.refl _ _⟩
  case round =>
    obtain ⟨k, hk, hk2, rfl, hown, hb⟩ := hrel
    have hbz := hb.size
    by_cases hlt : k < n ∧ k < 120
    · obtain ⟨hlt1, hlt2⟩ := hlt
      obtain ⟨a, rfl, hc⟩ := HZ.out k hlt1
      have hal : (a.add k).block < w.heap.size := by
        rcases Nat.lt_or_ge (a.add k).block w.heap.size with hh | hh
        · exact hh
        · have e : w.heap[(a.add k).block]? = none := Array.getElem?_eq_none hh
          simp [World.cell?, e] at hc
      have g0 : wr.cell? (a.add k) = some (.int .i64 (Z k)) := (hb.cell (p := a.add k) hal).trans hc
      obtain ⟨z, hz⟩ : ∃ z, Z k = z := ⟨_, rfl⟩
      obtain ⟨r, hr⟩ : ∃ r, Int.tmod z 10000 = r := ⟨_, rfl⟩
      have HT : Hid ((zs.map (Value.int .i64)).take (k + 1) = (zs.map (Value.int .i64)).take k ++ [.int .i64 r]) := hid (by
        rw [List.take_add_one, List.getElem?_map, HG.out k hlt1 hlt2, hz, hr]; rfl)
      rw [hz] at g0
      clear hc hal hz
      go_wp2_with (at_builtin; refine wpList_append_own _ rfl _ _ 35 rfl w.heap.size 3 i0 _ 1 8 Tryz.underlying35 hi hz0 hz1 hz2 rfl (by decide) _ _ _ rfl (hown.alloc _) ⟨wr.heap.size, 0, none⟩ 1 1 [.int .i64 r] rfl rfl ?c1 ?c2 ?c3 ?c4 ?c5 ?_)
      case c1 =>
        intro i u hi
        rw [add_mid, Nat.zero_add, (Bk.new _ _ _).cell]
        simpa using hi
      case c2 => intro u hu; simp at hu; subst hu; rfl
      case c3 => unfold maxLen; omega
      case c4 => omega
      case c5 => simp; omega
      · intro v' w' hown' hgrow _
        have hb' : Below w.heap.size w w' := (hb.alloc hbz _).grown hgrow (by simp; omega) (fun g hg => ((hown.lt) g hg).1)
        rw [← HT.out] at hown'
        clear hown hgrow hb g0 hr
        go_wp2
        go_roundw
        case rel => first | exact ⟨k + 1, by omega, by omega, by go_num, hown', hb'⟩ | ((repeat apply Exists.intro); exact ⟨⟨k + 1, by omega, by omega, by go_num, hown', hb'⟩, rfl⟩)
        case measure => simp [intOf]; omega
    · have hkl : k = zs.length := by have := HL.out; omega
      have hown2 : wr.ownsRow w.heap.size 3 1 u3 zs.length (zs.map (Value.int .i64)) := by
        have := hown
        rw [hkl, List.take_of_length_le (by rw [List.length_map]; exact Nat.le_refl _)] at this
        exact this
      have hSl := hid hown2
      have hcs : k = n ∨ k = 120 := by omega
      clear hown hown2 hkl
      rcases hcs with rfl | rfl
      · go_wp2_with fail
        go_ret
        exact ⟨_, rfl, hSl.out, hb⟩
      · have hd : decide ((120 : Int) < (n : Int)) = true ∨ decide ((120 : Int) < (n : Int)) = false := by cases decide ((120 : Int) < (n : Int)) <;> simp
        rcases hd with hd | hd
        · go_wp2_with fail
          go_ret
          exact ⟨_, rfl, hSl.out, hb⟩
        · go_wp2_with fail
          go_ret
          exact ⟨_, rfl, hSl.out, hb⟩
end Go.Proofs.YtndabbepepbnmaaGreatDoor
