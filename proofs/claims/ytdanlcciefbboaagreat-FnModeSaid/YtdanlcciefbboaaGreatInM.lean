import Derived.Test.YtdanlcciefbboaaGreatInV
import Derived.Test.YtdanlcciefbboaaGreatAllM
namespace Go.Proofs.YtdanlcciefbboaaGreat
open Go.RowKit
attribute [local go_sem] run_store_float

theorem infos_avs : (Tryz.prog.info? 50).map (fun i => (i.zero, i.size, i.bytes)) = some (some (.slice none 0 0), 1, 24) := by kernel_rfl
/-- no more than a thousand rows, none longer than that -/
def amLen (m : AM) : Prop := m.2.length ≤ 1000 ∧ ∀ r ∈ m.2, r.length ≤ 1000

set_option maxRecDepth 100000 in
set_option maxHeartbeats 2000000 in
/-- impl.in on values that may have rows: the same values -/
theorem in_mat (ms : List AM) (v : Value) (w : World) (h : SlM w (fun b => b < w.heap.size) 4 amCells 4 avCells v ms) (hok : ∀ m ∈ ms, amLen m) (hlen : ms.length ≤ 1000) :
    Calls Tryz.prog 16 #[v] w fun e w' => ∃ v', e = .returned v' ∧ SlM w' (fun b => w.heap.size ≤ b ∧ b < w'.heap.size) 4 amCells 4 avCells v' ms ∧ Below w.heap.size w w' := by
  obtain ⟨ps, rfl, ⟨A, c, rfl, hl, hc⟩, hrw⟩ := h
  rw [List.length_map] at hlen
  have HK := hid hok
  have HR := hid hrw
  clear hl hok hrw
  obtain ⟨i0, hi, hz0, hz1, hz2⟩ := info_parts infos_av
  obtain ⟨i1, hj, hy0, hy1, hy2⟩ := info_parts infos_avs
  go_enter Tryz.func16, Tryz.ntmps16
  go_wp2_with fail
  go_loopw [3, 11] (fun u i wr => ∃ (k : Nat) (qs : List (AM × Value)), k ≤ ps.length ∧ i = .int .i64 k ∧ Hid (qs.map (·.1) = (ps.take k).map (fun p => p.1)) ∧ wr.ownsRow w.heap.size 48 4 u k (qs.flatMap amCells) ∧ Hid (∀ q ∈ qs, RwP wr (fun b => w.heap.size ≤ b ∧ b < wr.heap.size ∧ some b ≠ u.ownBlock) 4 avCells q.2 q.1.2) ∧ Below w.heap.size w wr) (fun _ i _ => ps.length - (intOf i).toNat)
  case atStart => exact ⟨0, [], Nat.zero_le _, rfl, hid rfl, World.ownsRow_nil _ _ _ _, hid (fun q hq => by simp at hq), Below.refl _ _⟩
  case round =>
    obtain ⟨k, qs, hk, rfl, hqs, hown, hqr, hb⟩ := hrel
    by_cases hlt : k < ps.length
    · obtain ⟨b, o, rfl, hbB, hcell⟩ := hc (by omega)
      obtain ⟨p, hp⟩ : ∃ p, ps[k]? = some p := ⟨ps[k], List.getElem?_eq_getElem hlt⟩
      have hmem := List.mem_of_getElem? hp
      have hokA : Hid (amLen p.1) := hid (HK.out _ (List.mem_map_of_mem hmem))
      have f := fun j (hj : j < 4) => flat_at amCells 4 amCells_len ps k p j hp hj
      have g0 : wr.cell? ⟨b, o + k * 4, none⟩ = some (.int .i64 p.1.1.1) := (hb.cell (p := ⟨b, o + k * 4, none⟩) hbB).trans (by have := hcell (k * 4 + 0) _ ((f 0 (by omega)).trans rfl); simpa using this)
      have g1 : wr.cell? ⟨b, o + k * 4 + 1, none⟩ = some (.float .f64 p.1.1.2.1) := (hb.cell (p := ⟨b, o + k * 4 + 1, none⟩) hbB).trans (hcell (k * 4 + 1) _ ((f 1 (by omega)).trans rfl))
      have g2 : wr.cell? ⟨b, o + k * 4 + 2, none⟩ = some (.string p.1.1.2.2) := (hb.cell (p := ⟨b, o + k * 4 + 2, none⟩) hbB).trans (hcell (k * 4 + 2) _ ((f 2 (by omega)).trans rfl))
      have g3 : wr.cell? ⟨b, o + k * 4 + 3, none⟩ = some p.2 := (hb.cell (p := ⟨b, o + k * 4 + 3, none⟩) hbB).trans (hcell (k * 4 + 3) _ ((f 3 (by omega)).trans rfl))
      have hmap : Hid ((ps.take (k + 1)).map (fun p => p.1) = (ps.take k).map (fun p => p.1) ++ [p.1]) := hid (by rw [List.take_add_one, hp, List.map_append]; rfl)
      have hrw : Rws wr wr.heap.size 4 avCells p.2 p.1.2 := Rws.below (HR.out p hmem) hb hb.size
      clear f hcell hc hp hmem
      obtain ⟨⟨⟨a1, a2, a3⟩, rows⟩, s⟩ := p
      obtain ⟨h0, hs, hl, ⟨A', c', hse, hlc, hc'⟩, h2⟩ := hrw
      simp only at g0 g1 g2 g3 hl hlc hc' h2 h0 hse
      subst hse
      have H2 := hid h2
      have HC := hid hc'
      have HL := hid hl
      have HL2 := hid hokA.out.2
      have hlen1 : rows.length ≤ 1000 := hokA.out.1
      clear h2 hc' hl hlc h0
      obtain ⟨V, hV⟩ : ∃ V, V = wr := ⟨_, rfl⟩
      subst hV
      go_wp2_with fail
      have b2 : Bk ((V.alloc (.cells #[.int .i64 a1, .float .f64 a2, .string a3, .slice A' rows.length c'] 42)).alloc (.cells #[.int .i64 a1, .float .f64 a2, .string a3, .slice none 0 0] 48)) (V.heap.size + 1) 48 #[.int .i64 a1, .float .f64 a2, .string a3, .slice none 0 0] := Bk.new_at (by simp)
      have hz : ((V.alloc (.cells #[.int .i64 a1, .float .f64 a2, .string a3, .slice A' rows.length c'] 42)).alloc (.cells #[.int .i64 a1, .float .f64 a2, .string a3, .slice none 0 0] 48)).heap.size = V.heap.size + 1 + 1 := by simp
      have hw : Below V.heap.size V ((V.alloc (.cells #[.int .i64 a1, .float .f64 a2, .string a3, .slice A' rows.length c'] 42)).alloc (.cells #[.int .i64 a1, .float .f64 a2, .string a3, .slice none 0 0] 48)) := ((Below.refl _ _).alloc (Nat.le_refl _) _).alloc (by simp) _
      generalize ((V.alloc (.cells #[.int .i64 a1, .float .f64 a2, .string a3, .slice A' rows.length c'] 42)).alloc (.cells #[.int .i64 a1, .float .f64 a2, .string a3, .slice none 0 0] 48)) = W at *
      clear g0 g1 g2 g3
      go_loopw [25] (fun i wr => ∃ (k : Nat) (u : Value) (us : List Value), k ≤ rows.length ∧ i = .int .i64 k ∧ Bk wr (V.heap.size + 1) 48 #[.int .i64 a1, .float .f64 a2, .string a3, u] ∧ Hid (k = 0 → u = .slice none 0 0) ∧ wr.ownsRow (V.heap.size + 1 + 1) 50 1 u k us ∧ Hid (OR wr (V.heap.size + 1 + 1) 48 4 avCells us (rows.take k)) ∧ Below (V.heap.size + 1) W wr) (fun i _ => rows.length - (intOf i).toNat)
      case atStart => exact ⟨0, _, [], Nat.zero_le _, rfl, b2, hid (fun _ => rfl), World.ownsRow_nil _ _ _ _, hid (OR.nil _ _ _ _ _), Below.refl _ _⟩
      case round =>
        obtain ⟨j, u, us, hj', rfl, hB, hu0, hown1, hOR, hb1⟩ := hrel
        have hbz := hb1.size
        by_cases hlt1 : j < rows.length
        · obtain ⟨b', o', rfl, hbB', hcell⟩ := HC.out (by omega)
          obtain ⟨r, hr⟩ : ∃ r, rows[j]? = some r := ⟨rows[j], List.getElem?_eq_getElem hlt1⟩
          obtain ⟨hh, hhk⟩ : ∃ hh, hs[j]? = some hh := ⟨_, List.getElem?_eq_getElem (by rw [HL.out]; exact hlt1)⟩
          have hrow := H2.out j hh r hhk hr
          obtain ⟨A1, c1, rfl, _, _⟩ := hrow
          have HRow := hid (H2.out j _ r hhk hr)
          have HRl := hid (HL2.out r (List.mem_of_getElem? hr))
          have c42 : wr.cell? ⟨b', o' + j, none⟩ = some (.slice A1 r.length c1) := (hb1.cell (p := ⟨b', o' + j, none⟩) (by simp; omega)).trans ((hw.cell (p := ⟨b', o' + j, none⟩) hbB').trans (hcell j _ hhk))
          have hfz := hB.free 3
          have c37 : wr.cell? ⟨V.heap.size + 1, 3, none⟩ = some u := hB.cell 3
          have HT := hid (show rows.take (j + 1) = rows.take j ++ [r] by rw [List.take_add_one, hr]; rfl)
          have HSl := hid (fun w' (h : Below V.heap.size V w') => Sl.more (Sl.keep (SlP.old HRow.out) h) h.size)
          have h0r : Below V.heap.size V wr := hw.trans (hb1.mono (by omega))
          have HS : Hid (∀ w', Below (V.heap.size + 1 + 1) wr w' → (w'.cell? ⟨b', o' + j, none⟩ = some (.slice A1 r.length c1) ∧ w'.cell? ⟨V.heap.size + 1, 3, none⟩ = some u ∧ w'.frozen? ⟨V.heap.size + 1, 3, none⟩ = false)) := hid (fun w' hw' => ⟨(hw'.cell (p := ⟨b', o' + j, none⟩) (by simp; omega)).trans c42, (hw'.cell (p := ⟨V.heap.size + 1, 3, none⟩) (by simp)).trans c37, (hw'.frozen (p := ⟨V.heap.size + 1, 3, none⟩) (by simp)).trans hfz⟩)
          have k0d : Below (V.heap.size + 1 + 1) wr wr.drew := Below.drew (Below.refl _ _)
          have h0d : Below V.heap.size V wr.drew := Below.drew h0r
          have hz3 : V.heap.size + 1 + 1 ≤ wr.heap.size := by omega
          clear hcell hr hhk hbB'
          go_wp2_with fail
          go_region_law
            (first
              | (refine step_append_lies _ (by rfl) _ _ _ (by rfl) (V.heap.size + 1 + 1) 50 i1 _ 1 24 Tryz.underlying46 hj hy0 hy1 hy2 (by rfl) (by decide) u j us (by rfl) ((own_keep hown1 hr2).alloc _) ⟨w2.heap.size, 0, none⟩ 1 1 [.slice A2 r.length c2] (by rfl) (by rfl) (World.news_of_block (cs := #[.slice A2 r.length c2]) (t := 50) (fr := (0, 0)) (heap_alloc_new w2 _)) (by simp [Value.oneCell']) (by omega) (by unfold maxLen; omega) (by omega) (by simp; omega) (w2.heap.size + 1) (by simp) ?_; intro gg cap w4 hown4 hgrow hat hlt4; have hk4 : Below (V.heap.size + 1 + 1) wr w4 := (hk2.alloc kz2 _).grown hgrow (by simp; omega) (fun g hg => (((own_keep hown1 hr2).lt) g hg).1); obtain ⟨z1, z2, z3⟩ := HS.out _ hk4)
              | (go_simp; go_at_call 16; refine (in_own r _ _ (HSl.out _ h0d) HRl.out).mono ?_; rintro e w2 ⟨A2, c2, rfl, ho2, hb2⟩; have hk2 : Below (V.heap.size + 1 + 1) wr w2 := k0d.trans (hb2.mono hz3); have kz2 : V.heap.size + 1 + 1 ≤ w2.heap.size := Nat.le_trans hz3 hk2.size; have hr2 : Below wr.heap.size wr w2 := Below.lift (Below.drew (Below.refl _ _)) (Nat.le_refl _) hb2; obtain ⟨y1, y2, y3⟩ := HS.out _ hk2; obtain ⟨x1, x2, x3⟩ := HS.out _ (hk2.alloc kz2 (.cells #[.slice A2 r.length c2] 50))))
          all_goals
            have hBn := (hB.below hk4 (by omega)).set_ 3 (.slice (some ⟨gg, 0, none⟩) (j + 1) cap)
            have hnew : w4.ownsRow (V.heap.size + 1 + 1) 48 4 (.slice A2 r.length c2) r.length (r.flatMap avCells) := 
              ((own_base ho2 hz3).alloc _).kept hgrow (own_ne ((own_base ho2 hz3).alloc (.cells #[.slice A2 r.length c2] 50)) ((own_keep hown1 hr2).alloc _) (by decide))
            have hORn := ((((hOR.out.keep hr2).alloc (.cells #[.slice A2 r.length c2] 50)).grown ((own_keep hown1 hr2).alloc _) (by decide) hgrow).push hnew).set_below (a := ⟨V.heap.size + 1, 3, none⟩) (by simp) (.slice (some ⟨gg, 0, none⟩) (j + 1) cap)
            rw [← HT.out] at hORn
            have HORn := hid hORn
            have hOwn := ownsRow_setCell_below hown4 (a := ⟨V.heap.size + 1, 3, none⟩) (by simp) (.slice (some ⟨gg, 0, none⟩) (j + 1) cap)
            have hbn := ((hb1.trans (hk4.mono (by omega))).setCell (p := ⟨V.heap.size + 1, 3, none⟩) (by simp) (.slice (some ⟨gg, 0, none⟩) (j + 1) cap))
            clear hORn hnew hgrow hat hown4 ho2 hb2 hr2 hk2 hk4 hOR hown1 hB hb1 c37 c42 hfz
            go_wp2_with fail
            go_roundw
            case rel => exact ⟨j + 1, _, _, by omega, by go_num, hBn, hid (fun h => absurd h (by omega)), hOwn, HORn, hbn⟩
            case measure => simp [intOf]; omega
        · have hkl : j = rows.length := by omega
          subst hkl
          have hHR := hid (show RwP wr (fun b => V.heap.size ≤ b ∧ b < wr.heap.size) 4 avCells u rows from (RwP.of_own hown1 (by have := hOR.out; rwa [List.take_length] at this) (fun h => hu0.out (by rw [h]; rfl))).imp fun b hb => ⟨by omega, hb.2⟩)
          obtain ⟨q0, q1, q2, q3, qf⟩ := hB.cells4
          have hVr : Below V.heap.size V wr := hw.trans (hb1.mono (by omega))
          have hown2 := own_keep hown hVr
          have hb3 : Below w.heap.size w wr := Below.lift hb hb.size hVr
          have hw2 := hb3.size
          have hz2' := hVr.size
          clear hOR hown1 hu0
          go_wp2_with (at_builtin; refine wpList_append_lies _ rfl _ _ 50 rfl w.heap.size 48 i0 _ 4 56 Tryz.underlying50 hi hz0 hz1 hz2 rfl (by decide) _ _ _ rfl (hown2.alloc _) ⟨wr.heap.size, 0, none⟩ 1 1 (amCells (((a1, a2, a3), rows), u)) rfl rfl ?c1 ?c2 (by decide) ?c3 ?c4 ?c5 (wr.heap.size + 1) ?c6 ?_)
          case c1 =>
            intro j u hj
            rw [add_mid, Nat.zero_add, (Bk.new _ _ _).cell]
            simpa [amCells] using hj
          case c2 => intro u hu; simp [amCells] at hu; rcases hu with rfl | rfl | rfl | rfl <;> first | rfl | exact hHR.out.one
          case c3 => unfold maxLen; omega
          case c4 => omega
          case c5 => simp; omega
          case c6 => simp
          · intro gg cap w4 hown4 hgrow hat hlt4
            have hbn : Below w.heap.size w w4 := (hb3.alloc hw2 _).grown hgrow (by simp; omega) (fun g hg => ((hown2.lt) g hg).1)
            have hqn := hid (rows_grow (m := ((a1, a2, a3), rows)) (n := k + 1) (cap := cap) hqr.out hVr hHR.out hgrow (fun g hg => (hown.lt g hg).2) hat hb.size)
            have hown5 : w4.ownsRow w.heap.size 48 4 (.slice (some ⟨gg, 0, none⟩) (k + 1) cap) (k + 1) ((qs ++ [(((a1, a2, a3), rows), u)]).flatMap amCells) := by
              rw [List.flatMap_append]; simpa using hown4
            have hqs5 : Hid ((qs ++ [(((a1, a2, a3), rows), u)]).map (·.1) = (ps.take (k + 1)).map (fun p => p.1)) := by
              show _ = _
              rw [hmap.out, List.map_append, hqs.out]; rfl
            clear hown hown2 hown4 hgrow hat hqr hqs hb hVr hb1 hb3 hB q0 q1 q2 q3 qf
            go_wp2
            go_roundw
            case rel => exact ⟨k + 1, _, by omega, by go_num, hqs5, hown5, hqn, hbn⟩
            case measure => simp [intOf]; omega
    · have hkl : k = ps.length := by omega
      subst hkl
      have hqm : Hid (qs.map (·.1) = ps.map (·.1)) := by
        show _ = _
        rw [hqs.out, List.take_length]
      have hql : qs.length = ps.length := by
        have := congrArg List.length hqm.out
        simpa using this
      have hown' : wr.ownsRow w.heap.size 48 4 u3 qs.length (qs.flatMap amCells) := by rw [hql]; exact hown
      clear hc hqs hown
      go_wp2
      go_ret
      exact ⟨_, rfl, ⟨qs, hqm.out, SlP.of_own hown', fun q hq => (hqr.out q hq).imp fun b hb => ⟨hb.1, hb.2.1⟩⟩, hb⟩
end Go.Proofs.YtdanlcciefbboaaGreat
