import Derived.Test.YtdanlcciefbboaaGreatOfM
namespace Go.Proofs.YtdanlcciefbboaaGreat
open Go.RowKit
attribute [local go_sem] run_store_float

/-- a value that is spoken of: flat, or a matrix of flat ones -/
def smOk (m : SM) : Prop := (m.2 = [] ∧ svOk m.1) ∨ (m.1.1 = 5 ∧ m.2.length ≤ 1000 ∧ ∀ r ∈ m.2, r.length ≤ 1000 ∧ ∀ a ∈ r, svOk a)
def amOf (m : SM) : AM := (avOf m.1, rowsOf m.2)
theorem smCells_len (p : SM × Value) : (smCells p).length = 5 := rfl
theorem amCells_len (p : AM × Value) : (amCells p).length = 4 := rfl

theorem ofM_any (m : SM) (s : Value) (w : World) (h : Rws w w.heap.size 5 svCells s m.2) (hok : smOk m) :
    Calls Tryz.prog 21 #[smV m.1 s] w fun e w' => ∃ s', e = .returned (amV (avOf m.1) s') ∧ Rwn w w' 4 avCells s' (rowsOf m.2) ∧ Below w.heap.size w w' := by
  obtain ⟨⟨k, n, d, t⟩, rows⟩ := m
  rcases hok with ⟨h0, hv⟩ | ⟨h5, hl, hr⟩
  · simp only at h0
    subst h0
    obtain rfl : s = .slice none 0 0 := h.1 rfl
    exact (of_any (k, n, d, t) w hv).mono fun e w' ⟨he, hb⟩ => ⟨_, he, RwP.none_ _ _ _ _, hb⟩
  · simp only at h5 hl hr
    subst h5
    exact of_mat rows n d t s w h (fun r hm => (hr r hm).2) hl (fun r hm => (hr r hm).1)

set_option maxHeartbeats 800000 in
/-- laws.all on values that may have rows -/
theorem all_mat (ms : List SM) (v : Value) (w : World) (h : SlM w (fun b => b < w.heap.size) 5 smCells 5 svCells v ms) (hok : ∀ m ∈ ms, smOk m) (hlen : ms.length ≤ 1000) :
    Calls Tryz.prog 13 #[v] w fun e w' => ∃ v', e = .returned v' ∧ SlM w' (fun b => w.heap.size ≤ b ∧ b < w'.heap.size) 4 amCells 4 avCells v' (ms.map amOf) ∧ Below w.heap.size w w' := by
  obtain ⟨ps, rfl, ⟨A, c, rfl, hl, hc⟩, hrw⟩ := h
  rw [List.length_map] at hlen
  have HK := hid hok
  have HR := hid hrw
  clear hl hok hrw
  obtain ⟨i0, hi, hz0, hz1, hz2⟩ := info_parts infos_iv
  go_enter Tryz.func13, Tryz.ntmps13
  go_wp2_with fail
  go_loopw [3, 4] (fun u i wr => ∃ (k : Nat) (qs : List (AM × Value)), k ≤ ps.length ∧ i = .int .i64 k ∧ Hid (qs.map (·.1) = (ps.take k).map (fun p => amOf p.1)) ∧ wr.ownsRow w.heap.size 42 4 u k (qs.flatMap amCells) ∧ Hid (∀ q ∈ qs, RwP wr (fun b => w.heap.size ≤ b ∧ b < wr.heap.size ∧ some b ≠ u.ownBlock) 4 avCells q.2 q.1.2) ∧ Below w.heap.size w wr) (fun _ i _ => ps.length - (intOf i).toNat)
  case atStart => exact ⟨0, [], Nat.zero_le _, rfl, hid rfl, World.ownsRow_nil _ _ _ _, hid (fun q hq => by simp at hq), Below.refl _ _⟩
  case round =>
    obtain ⟨k, qs, hk, rfl, hqs, hown, hqr, hb⟩ := hrel
    by_cases hlt : k < ps.length
    · obtain ⟨b, o, rfl, hbB, hcell⟩ := hc (by omega)
      obtain ⟨p, hp⟩ : ∃ p, ps[k]? = some p := ⟨ps[k], List.getElem?_eq_getElem hlt⟩
      have hmem := List.mem_of_getElem? hp
      have hokA : Hid (smOk p.1) := hid (HK.out _ (List.mem_map_of_mem hmem))
      have f := fun j (hj : j < 5) => flat_at smCells 5 smCells_len ps k p j hp hj
      have g0 : wr.cell? ⟨b, o + k * 5, none⟩ = some (.int .i64 p.1.1.1) := (hb.cell (p := ⟨b, o + k * 5, none⟩) hbB).trans (by have := hcell (k * 5 + 0) _ ((f 0 (by omega)).trans rfl); simpa using this)
      have g1 : wr.cell? ⟨b, o + k * 5 + 1, none⟩ = some (.int .i64 p.1.1.2.1) := (hb.cell (p := ⟨b, o + k * 5 + 1, none⟩) hbB).trans (hcell (k * 5 + 1) _ ((f 1 (by omega)).trans rfl))
      have g2 : wr.cell? ⟨b, o + k * 5 + 2, none⟩ = some (.int .i64 p.1.1.2.2.1) := (hb.cell (p := ⟨b, o + k * 5 + 2, none⟩) hbB).trans (hcell (k * 5 + 2) _ ((f 2 (by omega)).trans rfl))
      have g3 : wr.cell? ⟨b, o + k * 5 + 3, none⟩ = some (.string p.1.1.2.2.2) := (hb.cell (p := ⟨b, o + k * 5 + 3, none⟩) hbB).trans (hcell (k * 5 + 3) _ ((f 3 (by omega)).trans rfl))
      have g4 : wr.cell? ⟨b, o + k * 5 + 4, none⟩ = some p.2 := (hb.cell (p := ⟨b, o + k * 5 + 4, none⟩) hbB).trans (hcell (k * 5 + 4) _ ((f 4 (by omega)).trans rfl))
      have hmap : Hid ((ps.take (k + 1)).map (fun p => amOf p.1) = (ps.take k).map (fun p => amOf p.1) ++ [amOf p.1]) := hid (by rw [List.take_add_one, hp, List.map_append]; rfl)
      have hrw : Hid (Rws wr wr.heap.size 5 svCells p.2 p.1.2) := hid (Rws.below (HR.out p hmem) hb hb.size)
      clear f hcell hc hp hmem
      obtain ⟨⟨⟨a1, a2, a3, a4⟩, rows⟩, s⟩ := p
      simp only at g0 g1 g2 g3 g4 
      go_wp2_with fail
      refine (ofM_any ((a1, a2, a3, a4), rows) s _ hrw.out hokA.out).mono ?_
      rintro e w2 ⟨s', rfl, hrn, hb2⟩
      have hown2 := own_keep hown hb2
      have hb3 : Below w.heap.size w w2 := Below.lift hb hb.size hb2
      have hw2 := hb3.size
      have hz2' := hb2.size
      have HRN := hid hrn
      clear hrn
      unfold amV
      go_wp2_with (at_builtin; refine wpList_append_lies _ rfl _ _ 43 rfl w.heap.size 42 i0 _ 4 56 Tryz.underlying43 hi hz0 hz1 hz2 rfl (by decide) _ _ _ rfl (hown2.alloc _) ⟨w2.heap.size, 0, none⟩ 1 1 (amCells ((avOf (a1, a2, a3, a4), rowsOf rows), s')) rfl rfl ?c1 ?c2 (by decide) ?c3 ?c4 ?c5 (w2.heap.size + 1) ?c6 ?_)
      case c1 =>
        intro j u hj
        rw [add_mid, Nat.zero_add, (Bk.new _ _ _).cell]
        simpa [amCells] using hj
      case c2 => intro u hu; simp [amCells] at hu; rcases hu with rfl | rfl | rfl | rfl <;> first | rfl | exact HRN.out.one
      case c3 => unfold maxLen; omega
      case c4 => omega
      case c5 => simp; omega
      case c6 => simp
      · intro gg cap w4 hown4 hgrow hat hlt4
        have hbn : Below w.heap.size w w4 := (hb3.alloc hw2 _).grown hgrow (by simp; omega) (fun g hg => ((hown2.lt) g hg).1)
        have hqn := hid (rows_grow (m := amOf ((a1, a2, a3, a4), rows)) (n := k + 1) (cap := cap) hqr.out hb2 HRN.out hgrow (fun g hg => (hown.lt g hg).2) hat hb.size)
        have hown5 : w4.ownsRow w.heap.size 42 4 (.slice (some ⟨gg, 0, none⟩) (k + 1) cap) (k + 1) ((qs ++ [(amOf ((a1, a2, a3, a4), rows), s')]).flatMap amCells) := by
          rw [List.flatMap_append]; simpa [amOf] using hown4
        have hqs5 : Hid ((qs ++ [(amOf ((a1, a2, a3, a4), rows), s')]).map (·.1) = (ps.take (k + 1)).map (fun p => amOf p.1)) := by
          show _ = _
          rw [hmap.out, List.map_append, hqs.out]; rfl
        clear hown hown2 hown4 hgrow hat hqr hqs hb hb2 hb3 g0 g1 g2 g3 g4
        go_wp2
        go_roundw
        case rel => exact ⟨k + 1, _, by omega, by go_num, hqs5, hown5, hqn, hbn⟩
        case measure => simp [intOf]; omega
    · have hkl : k = ps.length := by omega
      subst hkl
      have hqm : Hid (qs.map (·.1) = (ps.map (·.1)).map amOf) := by
        show _ = _
        rw [hqs.out, List.take_length, List.map_map]; rfl
      have hql : qs.length = ps.length := by
        have := congrArg List.length hqm.out
        simpa using this
      have hown' : wr.ownsRow w.heap.size 42 4 u3 qs.length (qs.flatMap amCells) := by rw [hql]; exact hown
      clear hc hqs hown
      go_wp2
      go_ret
      exact ⟨_, rfl, ⟨qs, hqm.out, SlP.of_own hown', fun q hq => (hqr.out q hq).imp fun b hb => ⟨hb.1, hb.2.1⟩⟩, hb⟩
end Go.Proofs.YtdanlcciefbboaaGreat
