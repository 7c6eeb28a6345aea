import Derived.Test.YtdanlcciefbboaaGreatOf
import Derived.Test.YtdanlcciefbboaaGreatMx
import Derived.Deep.RegionLaw
import Derived.Deep.AppendLies
namespace Go.Proofs.YtdanlcciefbboaaGreat
open Go.RowKit
attribute [local go_sem] run_store_float

theorem infos_rv : (Tryz.prog.info? 43).map (fun i => (i.zero, i.size, i.bytes)) = some (some (.slice none 0 0), 1, 24) := by kernel_rfl

/-- a value of the reference with rows -/
abbrev SM := SV × List (List SV)
def smCells (p : SM × Value) : List Value := [.int .i64 p.1.1.1, .int .i64 p.1.1.2.1, .int .i64 p.1.1.2.2.1, .string p.1.1.2.2.2, p.2]
/-- a value of the program with rows -/
abbrev AM := AV × List (List AV)
def amCells (p : AM × Value) : List Value := [.int .i64 p.1.1.1, .float .f64 p.1.1.2.1, .string p.1.1.2.2, p.2]
def smV (a : SV) (s : Value) : Value := .agg #[.int .i64 a.1, .int .i64 a.2.1, .int .i64 a.2.2.1, .string a.2.2.2, s]
def amV (a : AV) (s : Value) : Value := .agg #[.int .i64 a.1, .float .f64 a.2.1, .string a.2.2, s]
/-- rows of the reference as rows of the program -/
def rowsOf (rows : List (List SV)) : List (List AV) := rows.map (·.map avOf)

theorem nat2 (n : Nat) : n + 1 + 1 = n + 2 := rfl

set_option maxRecDepth 100000 in
set_option maxHeartbeats 1000000 in
theorem of_mat (rows : List (List SV)) (n d : Int) (t : ByteArray) (s : Value) (w : World) (h : Rws w w.heap.size 5 svCells s rows) (hok : ∀ r ∈ rows, ∀ a ∈ r, svOk a) (hlen : rows.length ≤ 1000) (hlen2 : ∀ r ∈ rows, r.length ≤ 1000) :
    Calls Tryz.prog 21 #[.agg #[.int .i64 5, .int .i64 n, .int .i64 d, .string t, s]] w fun e w' => ∃ s', e = .returned (.agg #[.int .i64 5, .float .f64 0, .string t, s']) ∧ Rwn w w' 4 avCells s' (rowsOf rows) ∧ Below w.heap.size w w' := by
  obtain ⟨h0, hs, hl, ⟨A, c, rfl, hlc, hc⟩, h2⟩ := h
  obtain ⟨i0, hi, hz0, hz1, hz2⟩ := info_parts infos_rv
  have H2 := hid h2
  have HC := hid hc
  have HL := hid hl
  have HO := hid hok
  have HL2 := hid hlen2
  have hR : Hid ((rowsOf rows).length = rows.length) := hid (by simp [rowsOf])
  clear h2 hc hl hok hlen2 hlc h0
  go_enter Tryz.func21, Tryz.ntmps21
  go_wp2_with fail
  have b0 : Bk (((w.alloc (.cells #[.int .i64 5, .int .i64 n, .int .i64 d, .string t, .slice A rows.length c] 34)).alloc (.cells #[.int .i64 0, .float .f64 0, .string ⟨#[]⟩, .slice none 0 0] 42)).alloc (.cells #[.int .i64 5, .float .f64 0, .string t, .slice none 0 0] 42)) w.heap.size 34 #[.int .i64 5, .int .i64 n, .int .i64 d, .string t, .slice A rows.length c] := ((Bk.new _ _ _).alloc _).alloc _
  have b1 : Bk (((w.alloc (.cells #[.int .i64 5, .int .i64 n, .int .i64 d, .string t, .slice A rows.length c] 34)).alloc (.cells #[.int .i64 0, .float .f64 0, .string ⟨#[]⟩, .slice none 0 0] 42)).alloc (.cells #[.int .i64 5, .float .f64 0, .string t, .slice none 0 0] 42)) (w.heap.size + 1) 42 #[.int .i64 0, .float .f64 0, .string ⟨#[]⟩, .slice none 0 0] := (Bk.new_at (by simp)).alloc _
  have b2 : Bk (((w.alloc (.cells #[.int .i64 5, .int .i64 n, .int .i64 d, .string t, .slice A rows.length c] 34)).alloc (.cells #[.int .i64 0, .float .f64 0, .string ⟨#[]⟩, .slice none 0 0] 42)).alloc (.cells #[.int .i64 5, .float .f64 0, .string t, .slice none 0 0] 42)) (w.heap.size + 1 + 1) 42 #[.int .i64 5, .float .f64 0, .string t, .slice none 0 0] := Bk.new_at (by simp)
  have hz : (((w.alloc (.cells #[.int .i64 5, .int .i64 n, .int .i64 d, .string t, .slice A rows.length c] 34)).alloc (.cells #[.int .i64 0, .float .f64 0, .string ⟨#[]⟩, .slice none 0 0] 42)).alloc (.cells #[.int .i64 5, .float .f64 0, .string t, .slice none 0 0] 42)).heap.size = w.heap.size + 1 + 1 + 1 := by simp
  have hw : Below w.heap.size w (((w.alloc (.cells #[.int .i64 5, .int .i64 n, .int .i64 d, .string t, .slice A rows.length c] 34)).alloc (.cells #[.int .i64 0, .float .f64 0, .string ⟨#[]⟩, .slice none 0 0] 42)).alloc (.cells #[.int .i64 5, .float .f64 0, .string t, .slice none 0 0] 42)) := (((Below.refl _ _).alloc (Nat.le_refl _) _).alloc (by simp) _).alloc (by simp; omega) _
  generalize (((w.alloc (.cells #[.int .i64 5, .int .i64 n, .int .i64 d, .string t, .slice A rows.length c] 34)).alloc (.cells #[.int .i64 0, .float .f64 0, .string ⟨#[]⟩, .slice none 0 0] 42)).alloc (.cells #[.int .i64 5, .float .f64 0, .string t, .slice none 0 0] 42)) = W at *
  go_loopw [4] (fun i wr => ∃ (k : Nat) (u : Value) (us : List Value), k ≤ rows.length ∧ i = .int .i64 k ∧ Bk wr (w.heap.size + 1 + 1) 42 #[.int .i64 5, .float .f64 0, .string t, u] ∧ Hid (k = 0 → u = .slice none 0 0) ∧ wr.ownsRow (w.heap.size + 1 + 1 + 1) 43 1 u k us ∧ Hid (OR wr (w.heap.size + 1 + 1 + 1) 42 4 avCells us ((rowsOf rows).take k)) ∧ Below (w.heap.size + 1 + 1) W wr) (fun i _ => rows.length - (intOf i).toNat)
  case atStart => exact ⟨0, _, [], Nat.zero_le _, rfl, b2, hid (fun _ => rfl), World.ownsRow_nil _ _ _ _, hid (OR.nil _ _ _ _ _), Below.refl _ _⟩
  case round =>
    obtain ⟨k, u, us, hk, rfl, hB, hu0, hown, hOR, hb⟩ := hrel
    have c39 : wr.cell? ⟨w.heap.size, 4, none⟩ = some (.slice A rows.length c) := (b0.below hb (by omega)).cell 4
    have hbz := hb.size
    by_cases hlt : k < rows.length
    · obtain ⟨b, o, rfl, hbB, hcell⟩ := HC.out (by omega)
      obtain ⟨r, hr⟩ : ∃ r, rows[k]? = some r := ⟨rows[k], List.getElem?_eq_getElem hlt⟩
      obtain ⟨hh, hhk⟩ : ∃ hh, hs[k]? = some hh := ⟨_, List.getElem?_eq_getElem (by rw [HL.out]; exact hlt)⟩
      have hrow := H2.out k hh r hhk hr
      obtain ⟨A', c', rfl, _, _⟩ := hrow
      have HRow := hid (H2.out k _ r hhk hr)
      have HRok := hid (HO.out r (List.mem_of_getElem? hr))
      have HRl := hid (HL2.out r (List.mem_of_getElem? hr))
      have c42 : wr.cell? ⟨b, o + k, none⟩ = some (.slice A' r.length c') := (hb.cell (p := ⟨b, o + k, none⟩) (by simp; omega)).trans ((hw.cell (p := ⟨b, o + k, none⟩) hbB).trans (hcell k _ hhk))
      have hfz := hB.free 3
      have c37 : wr.cell? ⟨w.heap.size + 1 + 1, 3, none⟩ = some u := hB.cell 3
      have HT := hid (show (rowsOf rows).take (k + 1) = (rowsOf rows).take k ++ [r.map avOf] by rw [List.take_add_one, show (rowsOf rows)[k]? = some (r.map avOf) by rw [rowsOf, List.getElem?_map, hr]; rfl]; rfl)
      have HSl := hid (fun w' (h : Below w.heap.size w w') => Sl.more (Sl.keep (SlP.old HRow.out) h) h.size)
      have h0r : Below w.heap.size w wr := hw.trans (hb.mono (by omega))
      have HS : Hid (∀ w', Below (w.heap.size + 1 + 1 + 1) wr w' → (w'.cell? ⟨w.heap.size, 4, none⟩ = some (.slice (some ⟨b, o, none⟩) rows.length c) ∧ w'.cell? ⟨b, o + k, none⟩ = some (.slice A' r.length c') ∧ w'.cell? ⟨w.heap.size + 1 + 1, 3, none⟩ = some u ∧ w'.frozen? ⟨w.heap.size + 1 + 1, 3, none⟩ = false)) := hid (fun w' hw' => ⟨(hw'.cell (p := ⟨w.heap.size, 4, none⟩) (by simp; omega)).trans c39, (hw'.cell (p := ⟨b, o + k, none⟩) (by simp; omega)).trans c42, (hw'.cell (p := ⟨w.heap.size + 1 + 1, 3, none⟩) (by simp)).trans c37, (hw'.frozen (p := ⟨w.heap.size + 1 + 1, 3, none⟩) (by simp)).trans hfz⟩)
      have k0d : Below (w.heap.size + 1 + 1 + 1) wr wr.drew := Below.drew (Below.refl _ _)
      have h0d : Below w.heap.size w wr.drew := Below.drew h0r
      have hfz := hB.free 3
      have hz3 : w.heap.size + 1 + 1 + 1 ≤ wr.heap.size := by omega
      clear hcell hr hhk hbB
      go_wp2_with fail
      go_region_law
        (first
          | (refine step_append_lies _ (by rfl) _ _ _ (by rfl) (w.heap.size + 1 + 1 + 1) 43 i0 _ 1 24 Tryz.underlying40 hi hz0 hz1 hz2 (by rfl) (by decide) u k us (by rfl) ((own_keep hown hr2).alloc _) ⟨w2.heap.size, 0, none⟩ 1 1 [.slice A2 r.length c2] (by rfl) (by rfl) (World.news_of_block (cs := #[.slice A2 r.length c2]) (t := 43) (fr := (0, 0)) (heap_alloc_new w2 _)) (by simp [Value.oneCell']) (by omega) (by unfold maxLen; omega) (by omega) (by simp; omega) (w2.heap.size + 1) (by simp) ?_; intro gg cap w4 hown4 hgrow hat hlt4; have hk4 : Below (w.heap.size + 1 + 1 + 1) wr w4 := (hk2.alloc kz2 _).grown hgrow (by simp; omega) (fun g hg => (((own_keep hown hr2).lt) g hg).1); obtain ⟨z0, z1, z2, z3⟩ := HS.out _ hk4)
          | (go_simp; go_at_call 13; refine (all_own r _ _ (HSl.out _ h0d) HRok.out HRl.out).mono ?_; rintro e w2 ⟨A2, c2, rfl, ho2, hb2⟩; have hk2 : Below (w.heap.size + 1 + 1 + 1) wr w2 := k0d.trans (hb2.mono hz3); have kz2 : w.heap.size + 1 + 1 + 1 ≤ w2.heap.size := Nat.le_trans hz3 hk2.size; have hr2 : Below wr.heap.size wr w2 := Below.lift (Below.drew (Below.refl _ _)) (Nat.le_refl _) hb2; obtain ⟨y0, y1, y2, y3⟩ := HS.out _ hk2; obtain ⟨x0, x1, x2, x3⟩ := HS.out _ (hk2.alloc kz2 (.cells #[.slice A2 r.length c2] 43))))
      all_goals
        have hBn := (hB.below hk4 (by omega)).set_ 3 (.slice (some ⟨gg, 0, none⟩) (k + 1) cap)
        have hnew : w4.ownsRow (w.heap.size + 1 + 1 + 1) 42 4 (.slice A2 r.length c2) (r.map avOf).length ((r.map avOf).flatMap avCells) := by
          rw [List.length_map]
          exact ((own_base ho2 hz3).alloc _).kept hgrow (own_ne ((own_base ho2 hz3).alloc (.cells #[.slice A2 r.length c2] 43)) ((own_keep hown hr2).alloc _) (by decide))
        have hORn := ((((hOR.out.keep hr2).alloc (.cells #[.slice A2 r.length c2] 43)).grown ((own_keep hown hr2).alloc _) (by decide) hgrow).push hnew).set_below (a := ⟨w.heap.size + 1 + 1, 3, none⟩) (by simp) (.slice (some ⟨gg, 0, none⟩) (k + 1) cap)
        rw [← HT.out] at hORn
        have HORn := hid hORn
        have hOwn := ownsRow_setCell_below hown4 (a := ⟨w.heap.size + 1 + 1, 3, none⟩) (by simp) (.slice (some ⟨gg, 0, none⟩) (k + 1) cap)
        have hbn := ((hb.trans (hk4.mono (by omega))).setCell (p := ⟨w.heap.size + 1 + 1, 3, none⟩) (by simp) (.slice (some ⟨gg, 0, none⟩) (k + 1) cap))
        clear hORn hnew hgrow hat hown4 ho2 hb2 hr2 hk2 hk4 hOR hown hB hb c37 c39 c42 hfz
        go_wp2_with fail
        go_roundw
        case rel => exact ⟨k + 1, _, _, by omega, by go_num, hBn, hid (fun h => absurd h (by omega)), hOwn, HORn, hbn⟩
        case measure => simp [intOf]; omega
    · have hkl : k = rows.length := by omega
      subst hkl
      have hkm : (rowsOf rows).take rows.length = rowsOf rows := by rw [← hR.out, List.take_length]
      have HOR := hid (show OR wr (w.heap.size + 1 + 1 + 1) 42 4 avCells us (rowsOf rows) by rw [← hkm]; exact hOR.out)
      obtain ⟨A', c', hv', _, _⟩ := Sl.of_own hown
      subst hv'
      obtain ⟨q0, q1, q2, q3, qf⟩ := hB.cells4
      have hR1 := b1.below hb (by omega)
      obtain ⟨p0, p1, p2, p3, pf⟩ := hR1.cells4
      clear hOR hkm
      go_wp2_with fail
      have hOwn : wr.ownsRow (w.heap.size + 1 + 1 + 1) 43 1 (.slice A' rows.length c') (rowsOf rows).length us := by rw [hR.out]; exact hown
      have hNil : rowsOf rows = [] → Value.slice A' rows.length c' = .slice none 0 0 := fun h => hu0.out (by rw [← hR.out, h]; rfl)
      refine end_cell Tryz.results21 rfl (Bk.set4 hR1 _ _ _ _) Tryz.underlying42 rfl info_iv rfl ?_
      refine ⟨_, rfl, (RwP.of_own (own_set4 (g := w.heap.size + 1) hOwn (by omega) _ _ _ _) (OR.set4 (g := w.heap.size + 1) HOR.out (by omega) _ _ _ _) hNil).imp fun b hb => ⟨by omega, by simpa using hb.2⟩, Below.set4 (hw.trans (hb.mono (by omega))) (by omega) _ _ _ _⟩
end Go.Proofs.YtdanlcciefbboaaGreat
