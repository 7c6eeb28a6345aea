import Derived.Test.YtdanlcciefbboaaGreatIn
import Derived.Test.YtdanlcciefbboaaGreatInM
namespace Go.Proofs.YtdanlcciefbboaaGreat
open Go.RowKit
attribute [local go_sem] run_store_float

theorem infos_fa : (Tryz.prog.info? 63).map (fun i => (i.zero, i.size, i.bytes)) = some (some (.agg #[.string ⟨#[]⟩, .float .f64 0, .string ⟨#[]⟩, .slice none 0 0, .slice none 0 0, .bool false, .string ⟨#[]⟩, .int .u8 0, .pointer none, .pointer none]), 10, 136) := by kernel_rfl
theorem infos_fas : (Tryz.prog.info? 58).map (fun i => (i.zero, i.size, i.bytes)) = some (some (.slice none 0 0), 1, 24) := by kernel_rfl

/-- the cells of a flat formulaArg -/
def faL (x : Nat) (s : ByteArray) (b : Bool) (e : ByteArray) (ty : Int) : List Value :=
  [.string es, .float .f64 x, .string s, .slice none 0 0, .slice none 0 0, .bool b, .string e, .int .u8 ty, .pointer none, .pointer none]
/-- the cells of the formulaArg of a flat argument -/
def favC (a : AV) : List Value :=
  if a.1 = 1 then faL (nz a.2.1) es false es 1 else if a.1 = 2 then faL 0 a.2.2 false es 2
  else if a.1 = 3 then faL (if FloatKind.f64.format.order a.2.1 0 = some .eq then 0 else one64) es true es 1
  else if a.1 = 4 then faL 0 a.2.2 false a.2.2 5 else faL 0 es false es 6
theorem favC_form (a : AV) : ∃ x s b e ty, fav a.1 a.2.1 a.2.2 = fa x s b e ty ∧ favC a = faL x s b e ty := by
  unfold fav favC
  split
  · exact ⟨_, _, _, _, _, rfl, rfl⟩
  split
  · exact ⟨_, _, _, _, _, rfl, rfl⟩
  split
  · exact ⟨_, _, _, _, _, rfl, rfl⟩
  split
  · exact ⟨_, _, _, _, _, rfl, rfl⟩
  · exact ⟨_, _, _, _, _, rfl, rfl⟩
theorem favC_len (a : AV) : (favC a).length = 10 := by
  obtain ⟨x, s, b, e, ty, _, h⟩ := favC_form a
  rw [h]; rfl

/-- a formulaArg of rows -/
def faM (m p q : Value) : Value := .agg #[.string es, .float .f64 0, .string es, .slice none 0 0, m, .bool false, .string es, .int .u8 4, p, q]

theorem newMatrix_any (A : Option Addr) (n c : Nat) (w : World) : Calls Tryz.prog 124 #[.slice A n c] w fun e w' => e = .returned (faM (.slice A n c) (.pointer none) (.pointer none)) ∧ Below w.heap.size w w' := by
  go_enter Tryz.func124, Tryz.ntmps124
  go_wp2
  exact end_cell Tryz.results124 rfl (Bk.new w _ _) Tryz.underlying63 rfl info_fa rfl ⟨rfl, (Below.refl _ _).alloc (Nat.le_refl _) _⟩

/-- v is a formulaArg of rows, as a range of cells; all that it leads to lies in S -/
def MxA (w : World) (S : Nat → Prop) (v : Value) (rows : List (List AV)) : Prop :=
  ∃ (m : Value) (L1 L2 g : Nat) (x : Value), v = faM m (ptr L1) (ptr L2) ∧ RwP w S 10 favC m rows ∧ IsL w L1 [] [] ∧ IsL w L2 [g] [x] ∧ S L1 ∧ S L2 ∧ S g
theorem MxA.keep {w w' : World} {S S' : Nat → Prop} {v : Value} {rows : List (List AV)} (H : MxA w S v rows) (hk : ∀ b, S b → w'.heap[b]? = w.heap[b]? ∧ S' b) : MxA w' S' v rows := by
  obtain ⟨m, L1, L2, g, x, hv, hr, h1, h2, s1, s2, s3⟩ := H
  refine ⟨m, L1, L2, g, x, hv, hr.keep hk, h1.keepP (hk _ s1).1 (fun i g hg => by simp at hg), h2.keepP (hk _ s2).1 (fun i g' hg => ?_), (hk _ s1).2, (hk _ s2).2, (hk _ s3).2⟩
  match i, hg with
  | 0, hg => simp at hg; subst hg; exact (hk _ s3).1
  | i + 1, hg => simp at hg

theorem heap_set10 (w : World) {g k : Nat} (h : k ≠ g) (y0 y1 y2 y3 y4 y5 y6 y7 y8 y9 : Value) :
    ((((((((((w.setCell ⟨g, 0, none⟩ y0).setCell ⟨g, 1, none⟩ y1).setCell ⟨g, 2, none⟩ y2).setCell ⟨g, 3, none⟩ y3).setCell ⟨g, 4, none⟩ y4).setCell ⟨g, 5, none⟩ y5).setCell ⟨g, 6, none⟩ y6).setCell ⟨g, 7, none⟩ y7).setCell ⟨g, 8, none⟩ y8).setCell ⟨g, 9, none⟩ y9).heap[k]? = w.heap[k]? := by
  rw [Below.heap_setCell _ _ _ _ h, Below.heap_setCell _ _ _ _ h, Below.heap_setCell _ _ _ _ h, Below.heap_setCell _ _ _ _ h, Below.heap_setCell _ _ _ _ h, Below.heap_setCell _ _ _ _ h, Below.heap_setCell _ _ _ _ h, Below.heap_setCell _ _ _ _ h, Below.heap_setCell _ _ _ _ h, Below.heap_setCell _ _ _ _ h]

set_option maxRecDepth 100000 in
set_option maxHeartbeats 2000000 in
theorem innerArg_mat (rows : List (List AV)) (x : Nat) (t : ByteArray) (s : Value) (w : World) (h : Rws w w.heap.size 4 avCells s rows) (hne : rows ≠ []) (hok : ∀ r ∈ rows, ∀ a ∈ r, avOk a) (hlen : rows.length ≤ 1000) (hlen2 : ∀ r ∈ rows, r.length ≤ 1000) :
    Calls Tryz.prog 51 #[.agg #[.int .i64 5, .float .f64 x, .string t, s]] w fun e w' => ∃ v, e = .returned v ∧ MxA w' (fun b => w.heap.size ≤ b ∧ b < w'.heap.size) v rows ∧ Below w.heap.size w w' := by
  obtain ⟨h0, hs, hl, ⟨A, c, rfl, hlc, hc⟩, h2⟩ := h
  obtain ⟨i0, hi, hz0, hz1, hz2⟩ := info_parts infos_fa
  obtain ⟨i1, hj, hy0, hy1, hy2⟩ := info_parts infos_fas
  have H2 := hid h2
  have HC := hid hc
  have HL := hid hl
  have HO := hid hok
  have HL2 := hid hlen2
  have hpos : 0 < rows.length := List.length_pos_iff.2 hne
  clear h2 hc hl hok hlen2 hlc h0 hne
  go_enter Tryz.func51, Tryz.ntmps51
  go_wp2_with fail
  have b1 : Bk ((w.alloc (.cells #[.int .i64 5, .float .f64 x, .string t, .slice A rows.length c] 48)).alloc (.cells #[.string ⟨#[]⟩, .float .f64 0, .string ⟨#[]⟩, .slice none 0 0, .slice none 0 0, .bool false, .string ⟨#[]⟩, .int .u8 0, .pointer none, .pointer none] 63)) (w.heap.size + 1) 63 #[.string ⟨#[]⟩, .float .f64 0, .string ⟨#[]⟩, .slice none 0 0, .slice none 0 0, .bool false, .string ⟨#[]⟩, .int .u8 0, .pointer none, .pointer none] := Bk.new_at (by simp)
  have hz : ((w.alloc (.cells #[.int .i64 5, .float .f64 x, .string t, .slice A rows.length c] 48)).alloc (.cells #[.string ⟨#[]⟩, .float .f64 0, .string ⟨#[]⟩, .slice none 0 0, .slice none 0 0, .bool false, .string ⟨#[]⟩, .int .u8 0, .pointer none, .pointer none] 63)).heap.size = w.heap.size + 1 + 1 := by simp
  have hw : Below w.heap.size w ((w.alloc (.cells #[.int .i64 5, .float .f64 x, .string t, .slice A rows.length c] 48)).alloc (.cells #[.string ⟨#[]⟩, .float .f64 0, .string ⟨#[]⟩, .slice none 0 0, .slice none 0 0, .bool false, .string ⟨#[]⟩, .int .u8 0, .pointer none, .pointer none] 63)) := ((Below.refl _ _).alloc (Nat.le_refl _) _).alloc (by simp) _
  generalize ((w.alloc (.cells #[.int .i64 5, .float .f64 x, .string t, .slice A rows.length c] 48)).alloc (.cells #[.string ⟨#[]⟩, .float .f64 0, .string ⟨#[]⟩, .slice none 0 0, .slice none 0 0, .bool false, .string ⟨#[]⟩, .int .u8 0, .pointer none, .pointer none] 63)) = W at *
  go_loopw [3, 40] (fun u i wr => ∃ (k : Nat) (us : List Value), k ≤ rows.length ∧ i = .int .i64 k ∧ Hid (k = 0 → u = .slice none 0 0) ∧ wr.ownsRow (w.heap.size + 1 + 1) 58 1 u k us ∧ Hid (OR wr (w.heap.size + 1 + 1) 63 10 favC us (rows.take k)) ∧ Below (w.heap.size + 1 + 1) W wr) (fun _ i _ => rows.length - (intOf i).toNat)
  case atStart => exact ⟨0, [], Nat.zero_le _, rfl, hid (fun _ => rfl), World.ownsRow_nil _ _ _ _, hid (OR.nil _ _ _ _ _), Below.refl _ _⟩
  case round =>
    obtain ⟨k, us, hk, rfl, hu0, hown, hOR, hb⟩ := hrel
    have hbz := hb.size
    obtain ⟨V, hV⟩ : ∃ V, V = wr := ⟨_, rfl⟩
    subst hV
    by_cases hlt : k < rows.length
    · obtain ⟨b, o, rfl, hbB, hcell⟩ := HC.out (by omega)
      obtain ⟨r, hr⟩ : ∃ r, rows[k]? = some r := ⟨rows[k], List.getElem?_eq_getElem hlt⟩
      obtain ⟨hh, hhk⟩ : ∃ hh, hs[k]? = some hh := ⟨_, List.getElem?_eq_getElem (by rw [HL.out]; exact hlt)⟩
      obtain ⟨A1, c1, rfl, hrl, hrc⟩ := H2.out k hh r hhk hr
      have HRok := hid (HO.out r (List.mem_of_getElem? hr))
      have HRl : r.length ≤ 1000 := HL2.out r (List.mem_of_getElem? hr)
      have HRc := hid hrc
      have c42 : V.cell? ⟨b, o + k, none⟩ = some (.slice A1 r.length c1) := (hb.cell (p := ⟨b, o + k, none⟩) (by simp; omega)).trans ((hw.cell (p := ⟨b, o + k, none⟩) hbB).trans (hcell k _ hhk))
      have HT := hid (show rows.take (k + 1) = rows.take k ++ [r] by rw [List.take_add_one, hr]; rfl)
      have h0r : Below w.heap.size w V := hw.trans (hb.mono (by omega))
      clear hcell hr hhk hbB hrc hrl
      go_wp2_with fail
      go_loopw [6, 46] (fun u i wr => ∃ (j : Nat), j ≤ r.length ∧ i = .int .i64 j ∧ wr.ownsRow V.heap.size 63 10 u j ((r.take j).flatMap favC) ∧ Below V.heap.size V wr) (fun _ i _ => r.length - (intOf i).toNat)
      case atStart => exact ⟨0, Nat.zero_le _, rfl, World.ownsRow_nil _ _ _ _, Below.refl _ _⟩
      case round =>
        obtain ⟨j, hj', rfl, hown1, hb1⟩ := hrel
        have hb1z := hb1.size
        have h1r : Below w.heap.size w wr := h0r.trans (hb1.mono (by omega))
        by_cases hlt1 : j < r.length
        · obtain ⟨b', o', rfl, hbB', hcell'⟩ := HRc.out (by omega)
          obtain ⟨a, ha⟩ : ∃ a, r[j]? = some a := ⟨r[j], List.getElem?_eq_getElem hlt1⟩
          have hokA : Hid (avOk a) := hid (HRok.out a (List.mem_of_getElem? ha))
          have f := fun i (hi : i < 4) => flat_at avCells 4 avCells_len r j a i ha hi
          have g0 : wr.cell? ⟨b', o' + j * 4, none⟩ = some (.int .i64 a.1) := (h1r.cell (p := ⟨b', o' + j * 4, none⟩) hbB').trans (by have := hcell' (j * 4 + 0) _ ((f 0 (by omega)).trans rfl); simpa using this)
          have g1 : wr.cell? ⟨b', o' + j * 4 + 1, none⟩ = some (.float .f64 a.2.1) := (h1r.cell (p := ⟨b', o' + j * 4 + 1, none⟩) hbB').trans (hcell' (j * 4 + 1) _ ((f 1 (by omega)).trans rfl))
          have g2 : wr.cell? ⟨b', o' + j * 4 + 2, none⟩ = some (.string a.2.2) := (h1r.cell (p := ⟨b', o' + j * 4 + 2, none⟩) hbB').trans (hcell' (j * 4 + 2) _ ((f 2 (by omega)).trans rfl))
          have g3 : wr.cell? ⟨b', o' + j * 4 + 3, none⟩ = some (.slice none 0 0) := (h1r.cell (p := ⟨b', o' + j * 4 + 3, none⟩) hbB').trans (hcell' (j * 4 + 3) _ ((f 3 (by omega)).trans rfl))
          have HT1 := hid (flat_take favC r j a ha)
          obtain ⟨fx, fs, fb, fe, ft, hfv, hfc⟩ := favC_form a
          have HI := hid (fun W => innerArg_any a.1 a.2.1 a.2.2 W hokA.out.1 hokA.out.2)
          rw [hfv] at HI
          have HT2 : Hid ((r.take (j + 1)).flatMap favC = (r.take j).flatMap favC ++ faL fx fs fb fe ft) := hid (by rw [← hfc]; exact HT1.out)
          clear f hcell' ha hfv hfc HT1 hbB'
          go_wp2_with fail
          refine (HI.out _).mono ?_
          rintro e w2 ⟨rfl, hb2⟩
          have hr2 : Below wr.heap.size wr w2 := Below.lift ((Below.refl wr.heap.size wr).alloc (Nat.le_refl _) _) (by simp) hb2
          have hown2 := own_keep hown1 hr2
          have hb3 : Below V.heap.size V w2 := Below.lift hb1 hb1.size hr2
          have hz3 := hb3.size
          unfold fa
          go_wp2_with (at_builtin; refine wpList_append_own _ rfl _ _ 58 rfl V.heap.size 63 i0 _ 10 136 Tryz.underlying58 hi hz0 hz1 hz2 rfl (by decide) _ _ _ rfl (hown2.alloc _) ⟨w2.heap.size, 0, none⟩ 1 1 (faL fx fs fb fe ft) rfl rfl ?c1 ?c2 ?c3 ?c4 ?c5 ?_)
          case c1 =>
            intro i u hi
            rw [add_mid, Nat.zero_add, (Bk.new _ _ _).cell]
            simpa [faL] using hi
          case c2 => intro u hu; simp [faL] at hu; rcases hu with rfl | rfl | rfl | rfl | rfl | rfl | rfl | rfl | rfl | rfl <;> rfl
          case c3 => unfold maxLen; omega
          case c4 => omega
          case c5 => simp; omega
          · intro v' w' hown' hgrow _
            have hb' : Below V.heap.size V w' := (hb3.alloc hz3 _).grown hgrow (by simp; omega) (fun g hg => ((hown2.lt) g hg).1)
            rw [← HT2.out] at hown'
            clear hown1 hown2 hgrow hb1 hb2 hb3 hr2 h1r g0 g1 g2 g3
            go_wp2
            go_roundw
            case rel => exact ⟨j + 1, by omega, by go_num, hown', hb'⟩
            case measure => simp [intOf]; omega
        · have hkl : j = r.length := by omega
          subst hkl
          have hown3 : wr.ownsRow V.heap.size 63 10 u6 r.length (r.flatMap favC) := by have := hown1; rwa [List.take_length] at this
          obtain ⟨A2, c2, hv', _, _⟩ := Sl.of_own hown3
          subst hv'
          have hownV := own_keep hown hb1
          have hORV := hOR.out.keep hb1
          have hz1 : w.heap.size + 1 + 1 ≤ wr.heap.size := by omega
          clear hown1 hOR
          go_wp2_with (at_builtin; refine wpList_append_lies _ rfl _ _ 59 rfl (w.heap.size + 1 + 1) 58 i1 _ 1 24 Tryz.underlying59 hj hy0 hy1 hy2 rfl (by decide) _ _ _ rfl (hownV.alloc _) ⟨wr.heap.size, 0, none⟩ 1 1 [.slice A2 r.length c2] rfl rfl ?c1 ?c2 (by decide) ?c3 ?c4 ?c5 (wr.heap.size + 1) ?c6 ?_)
          case c1 =>
            intro i u hi
            rw [add_mid, Nat.zero_add, (Bk.new _ _ _).cell]
            simpa using hi
          case c2 => intro u hu; simp at hu; subst hu; rfl
          case c3 => unfold maxLen; omega
          case c4 => omega
          case c5 => simp; omega
          case c6 => simp
          · intro gg cap w4 hown4 hgrow hat hlt4
            have hbn : Below (w.heap.size + 1 + 1) W w4 := ((hb.trans (hb1.mono (by omega))).alloc (by omega) _).grown hgrow (by simp; omega) (fun g hg => ((hownV.lt) g hg).1)
            have hnew : w4.ownsRow (w.heap.size + 1 + 1) 63 10 (.slice A2 r.length c2) r.length (r.flatMap favC) :=
              ((own_base hown3 (by omega)).alloc _).kept hgrow (own_ne ((own_base hown3 (show w.heap.size + 1 + 1 ≤ V.heap.size by omega)).alloc (.cells #[.slice A2 r.length c2] 58)) (hownV.alloc _) (by decide))
            have hORn := ((hORV.alloc (.cells #[.slice A2 r.length c2] 58)).grown (hownV.alloc _) (by decide) hgrow).push hnew
            rw [← HT.out] at hORn
            have HORn := hid hORn
            clear hORn hnew hgrow hat hownV hORV hown3 hown hb hb1 h0r h1r c42
            go_wp2
            go_roundw
            case rel => exact ⟨k + 1, _, by omega, by go_num, hid (fun h => absurd h (by omega)), hown4, HORn, hbn⟩
            case measure => simp [intOf]; omega
    · have hkl : k = rows.length := by omega
      subst hkl
      have HRW : Hid (RwP V (fun b => w.heap.size + 1 + 1 ≤ b ∧ b < V.heap.size) 10 favC u3 rows) := hid (RwP.of_own hown (by have := hOR.out; rwa [List.take_length] at this) (fun h => hu0.out (by rw [h]; rfl)))
      obtain ⟨A2, c2, hv', _, _⟩ := Sl.of_own hown
      subst hv'
      obtain ⟨r0, hr0⟩ : ∃ r, rows[0]? = some r := ⟨rows[0], List.getElem?_eq_getElem hpos⟩
      obtain ⟨b2, o2, c2', h2', hv2, hS2, hcell2, A3, c3, rfl, _, _⟩ := RwP.row HRW.out hr0
      injection hv2 with hvA _ hvc
      subst hvA; subst hvc
      clear hr0 hown hOR hu0
      go_wp2_with fail
      refine (newMatrix_any _ _ _ _).mono ?_
      rintro e w1 ⟨rfl, hb1⟩
      unfold faM
      go_wp2_with fail
      have hg1 := Bk.new w1 63 #[.string es, .float .f64 0, .string es, .slice none 0 0, .slice (some ⟨b2, o2, none⟩) rows.length c2, .bool false, .string es, .int .u8 4, .pointer none, .pointer none]
      refine (listNew_any _).mono ?_
      rintro e w2 ⟨rfl, hw2⟩
      have hl2 : Bk w2 (w1.heap.size + 1) 107 #[ptr (w1.heap.size + 1), ptr (w1.heap.size + 1), .pointer none, .nilIface, .int .i64 0] := by
        rw [hw2]; have := Bk.new_at (w := w1.alloc (.cells #[.string es, .float .f64 0, .string es, .slice none 0 0, .slice (some ⟨b2, o2, none⟩) rows.length c2, .bool false, .string es, .int .u8 4, .pointer none, .pointer none] 63)) (g := w1.heap.size + 1) (t := 107) (cs := #[ptr (w1.heap.size + 1), ptr (w1.heap.size + 1), .pointer none, .nilIface, .int .i64 0]) (by simp); simpa using this
      have hg2 : Bk w2 w1.heap.size 63 #[.string es, .float .f64 0, .string es, .slice none 0 0, .slice (some ⟨b2, o2, none⟩) rows.length c2, .bool false, .string es, .int .u8 4, .pointer none, .pointer none] := by rw [hw2]; exact hg1.alloc _
      have hb2 : Below w1.heap.size w1 w2 := by rw [hw2]; exact ((Below.refl _ _).alloc (Nat.le_refl _) _).alloc (by simp) _
      have hz2' : w2.heap.size = w1.heap.size + 1 + 1 := by rw [hw2]; simp
      clear hw2 hg1
      go_wp2_with fail
      refine (listNew_any _).mono ?_
      rintro e w3 ⟨rfl, hw3⟩
      have hl3 : Bk w3 (w1.heap.size + 1 + 1) 107 #[ptr (w1.heap.size + 1 + 1), ptr (w1.heap.size + 1 + 1), .pointer none, .nilIface, .int .i64 0] := by
        rw [hw3]; have := Bk.new_at (w := w2) (g := w1.heap.size + 1 + 1) (t := 107) (cs := #[ptr (w1.heap.size + 1 + 1), ptr (w1.heap.size + 1 + 1), .pointer none, .nilIface, .int .i64 0]) hz2'.symm; rw [hz2']; exact this
      have hg3 : Bk w3 w1.heap.size 63 #[.string es, .float .f64 0, .string es, .slice none 0 0, .slice (some ⟨b2, o2, none⟩) rows.length c2, .bool false, .string es, .int .u8 4, .pointer none, .pointer none] := by rw [hw3]; exact hg2.alloc _
      have hl23 : Bk w3 (w1.heap.size + 1) 107 #[ptr (w1.heap.size + 1), ptr (w1.heap.size + 1), .pointer none, .nilIface, .int .i64 0] := by rw [hw3]; exact hl2.alloc _
      have hb3 : Below w1.heap.size w1 w3 := by rw [hw3]; exact hb2.alloc (by omega) _
      have hz3' : w3.heap.size = w1.heap.size + 1 + 1 + 1 := by rw [hw3]; simp [hz2']
      rw [hz2']
      clear hw3 hg2 hl2 hb2 hz2'
      obtain ⟨d0, d1, d2, d3, d4, d5, d6, d7, d8, d9, df⟩ := hg3.cells10
      go_wp2_with fail
      have hgX := hg3.set2 8 9 (ptr (w1.heap.size + 1)) (ptr (w1.heap.size + 1 + 1))
      have hn2 : w1.heap.size + 1 + 1 ≠ w1.heap.size := by omega
      have hlX := (hl3.far (p := ⟨w1.heap.size, 8, none⟩) hn2 (ptr (w1.heap.size + 1))).far (p := ⟨w1.heap.size, 9, none⟩) hn2 (ptr (w1.heap.size + 1 + 1))
      have hl2X := (hl23.far (p := ⟨w1.heap.size, 8, none⟩) (by simp) (ptr (w1.heap.size + 1))).far (p := ⟨w1.heap.size, 9, none⟩) (by simp) (ptr (w1.heap.size + 1 + 1))
      have hbX := (hb3.setCell (p := ⟨w1.heap.size, 8, none⟩) (Nat.le_refl _) (ptr (w1.heap.size + 1))).setCell (p := ⟨w1.heap.size, 9, none⟩) (Nat.le_refl _) (ptr (w1.heap.size + 1 + 1))
      have hzX : ((w3.setCell ⟨w1.heap.size, 8, none⟩ (ptr (w1.heap.size + 1))).setCell ⟨w1.heap.size, 9, none⟩ (ptr (w1.heap.size + 1 + 1))).heap.size = w1.heap.size + 1 + 1 + 1 := by rw [← hz3']; simp [World.setCell]
      clear d0 d1 d2 d3 d4 d5 d6 d7 d8 d9 df hg3 hl3 hl23 hb3 hz3'
      generalize (w3.setCell ⟨w1.heap.size, 8, none⟩ (ptr (w1.heap.size + 1))).setCell ⟨w1.heap.size, 9, none⟩ (ptr (w1.heap.size + 1 + 1)) = X at *
      have e9 : X.cell? ⟨w1.heap.size, 9, none⟩ = some (ptr (w1.heap.size + 1 + 1)) := hgX.cell 9
      have hVX : Below V.heap.size V X := Below.lift hb1 hb1.size hbX
      have eM : X.cell? ⟨b2, o2, none⟩ = some (.slice A3 r0.length c3) := (hVX.cell (p := ⟨b2, o2, none⟩) hS2.2).trans (by simpa using hcell2)
      have HLX := hid (IsL.nil hlX)
      have hpI : (0 : Int) < (rows.length : Int) := by omega
      go_region_law
        ((go_simp; go_at_call 50; refine (pushBack_any (w1.heap.size + 1 + 1) [] [] _ _ X.drew (HLX.out.keep (Below.drew (Below.refl _ _))) (by simp)).mono ?_; rintro e w4 ⟨rfl, hL4, hb4, hz4, hk4⟩))
      all_goals
        have hzX' : X.drew.heap.size = w1.heap.size + 1 + 1 + 1 := hzX
        have hVw1 := hb1.size
        have hold : ∀ k, k < w1.heap.size + 1 + 1 → w4.heap[k]? = X.heap[k]? := fun k hk => hk4 k (by omega) (by omega) (fun i g hg => by simp at hg)
        have hg4 : Bk w4 w1.heap.size 63 #[.string es, .float .f64 0, .string es, .slice none 0 0, .slice (some ⟨b2, o2, none⟩) rows.length c2, .bool false, .string es, .int .u8 4, ptr (w1.heap.size + 1), ptr (w1.heap.size + 1 + 1)] := (hold _ (by omega)).trans hgX
        have hl24 : Bk w4 (w1.heap.size + 1) 107 #[ptr (w1.heap.size + 1), ptr (w1.heap.size + 1), .pointer none, .nilIface, .int .i64 0] := (hold _ (by omega)).trans hl2X
        have hR4 : Bk w4 (w.heap.size + 1) 63 #[.string ⟨#[]⟩, .float .f64 0, .string ⟨#[]⟩, .slice none 0 0, .slice none 0 0, .bool false, .string ⟨#[]⟩, .int .u8 0, .pointer none, .pointer none] := (hold _ (by omega)).trans ((b1.below hb (by omega)).below hVX (by omega))
        have hMx : Hid (MxA w4 (fun b => w.heap.size + 1 + 1 ≤ b ∧ b < w4.heap.size) (faM (.slice (some ⟨b2, o2, none⟩) rows.length c2) (ptr (w1.heap.size + 1)) (ptr (w1.heap.size + 1 + 1))) rows) := hid
          ⟨_, _, _, _, _, rfl, RwP.keep HRW.out (fun b hb => ⟨(hold b (by omega)).trans (hVX.block b hb.2), by omega, by omega⟩), IsL.nil hl24, hL4, ⟨by omega, by omega⟩, ⟨by omega, by omega⟩, ⟨by omega, by omega⟩⟩
        have hbF : Below w.heap.size w w4 := (hw.trans (hb.mono (by omega))).trans ((hVX.mono (by omega)).trans (((Below.drew (Below.refl _ _)) : Below w.heap.size X X.drew).trans (hb4.mono (by omega))))
        obtain ⟨q0, q1, q2, q3, q4, q5, q6, q7, q8, q9, qf⟩ := hR4.cells10
        obtain ⟨d0, d1, d2, d3, d4, d5, d6, d7, d8, d9, df⟩ := hg4.cells10
        have hz4' : w.heap.size + 1 < w4.heap.size := by omega
        clear hold hk4 hL4 hb4 hgX hlX hl2X hbX eM e9 HLX hVX HRW hcell2 hb1 hb hg4 hl24
        go_wp2_with fail
        refine end_cell Tryz.results51 rfl (Bk.set10 hR4 _ _ _ _ _ _ _ _ _ _) Tryz.underlying63 rfl info_fa rfl ?_
        exact ⟨_, rfl, hMx.out.keep fun b hb => ⟨heap_set10 w4 (by omega) _ _ _ _ _ _ _ _ _ _, by omega, by simpa [World.setCell] using hb.2⟩, Below.set10 hbF (by omega) _ _ _ _ _ _ _ _ _ _⟩
end Go.Proofs.YtdanlcciefbboaaGreat
