import Derived.Test.YtdanlcciefbboaaGreatIn
namespace Go.Proofs.YtdanlcciefbboaaGreat
open Go.RowKit
attribute [local go_sem] run_store_float

theorem infos_av : (Tryz.prog.info? 48).map (fun i => (i.zero, i.size, i.bytes)) = some (some (.agg #[.int .i64 0, .float .f64 0, .string ⟨#[]⟩, .slice none 0 0]), 4, 56) := by kernel_rfl
theorem infos_iv : (Tryz.prog.info? 42).map (fun i => (i.zero, i.size, i.bytes)) = some (some (.agg #[.int .i64 0, .float .f64 0, .string ⟨#[]⟩, .slice none 0 0]), 4, 56) := by kernel_rfl

/-- impl.in on flat values: the same cells in a row of its own -/
theorem in_own (l : List AV) (v : Value) (w : World) (h : Sl w w.heap.size 4 v l.length (l.flatMap avCells)) (hlen : l.length ≤ 1000) :
    Calls Tryz.prog 16 #[v] w fun e w' => ∃ A' c', e = .returned (.slice A' l.length c') ∧ w'.ownsRow w.heap.size 48 4 (.slice A' l.length c') l.length (l.flatMap avCells) ∧ Below w.heap.size w w' := by
  obtain ⟨A, c, rfl, hl, hc⟩ := h
  clear hl
  obtain ⟨i0, hi, hz0, hz1, hz2⟩ := info_parts infos_av
  go_enter Tryz.func16, Tryz.ntmps16
  go_wp2_with fail
  go_loopw [3, 11] (fun u i wr => ∃ (k : Nat), k ≤ l.length ∧ i = .int .i64 k ∧ wr.ownsRow w.heap.size 48 4 u k ((l.take k).flatMap avCells) ∧ Below w.heap.size w wr) (fun _ i _ => l.length - (intOf i).toNat)
  case atStart => exact ⟨0, Nat.zero_le _, rfl, World.ownsRow_nil _ _ _ _, Below.refl _ _⟩
  case round =>
    obtain ⟨k, hk, rfl, hown, hb⟩ := hrel
    by_cases hlt : k < l.length
    · obtain ⟨b, o, rfl, hbB, hcell⟩ := hc (by omega)
      obtain ⟨a, ha⟩ : ∃ a, l[k]? = some a := ⟨l[k], List.getElem?_eq_getElem hlt⟩
      have f := fun j (hj : j < 4) => flat_at avCells 4 avCells_len l k a j ha hj
      have g0 : wr.cell? ⟨b, o + k * 4, none⟩ = some (.int .i64 a.1) := (hb.cell (p := ⟨b, o + k * 4, none⟩) hbB).trans (by have := hcell (k * 4 + 0) _ ((f 0 (by omega)).trans rfl); simpa using this)
      have g1 : wr.cell? ⟨b, o + k * 4 + 1, none⟩ = some (.float .f64 a.2.1) := (hb.cell (p := ⟨b, o + k * 4 + 1, none⟩) hbB).trans (hcell (k * 4 + 1) _ ((f 1 (by omega)).trans rfl))
      have g2 : wr.cell? ⟨b, o + k * 4 + 2, none⟩ = some (.string a.2.2) := (hb.cell (p := ⟨b, o + k * 4 + 2, none⟩) hbB).trans (hcell (k * 4 + 2) _ ((f 2 (by omega)).trans rfl))
      have g3 : wr.cell? ⟨b, o + k * 4 + 3, none⟩ = some (.slice none 0 0) := (hb.cell (p := ⟨b, o + k * 4 + 3, none⟩) hbB).trans (hcell (k * 4 + 3) _ ((f 3 (by omega)).trans rfl))
      have hmap : Hid ((l.take (k + 1)).flatMap avCells = (l.take k).flatMap avCells ++ avCells a) := hid (flat_take avCells l k a ha)
      clear f hcell hc ha
      go_wp2_with fail
      go_loop [25] (fun i => i = .int .i64 0) (fun _ => 0)
      case atStart => rfl
      case round =>
        obtain rfl := hrel
        go_wp2_with (at_builtin; refine wpList_append_own _ rfl _ _ 50 rfl w.heap.size 48 i0 _ 4 56 Tryz.underlying50 hi hz0 hz1 hz2 rfl (by decide) _ _ _ rfl (((hown.alloc _).alloc _).alloc _) ⟨wr.heap.size + 1 + 1, 0, none⟩ 1 1 (avCells a) rfl rfl ?c1 ?c2 ?c3 ?c4 ?c5 ?_)
        case c1 => intro j u hj; simpa [avCells] using hj
        case c2 => intro u hu; simp [avCells] at hu; rcases hu with rfl | rfl | rfl | rfl <;> rfl
        case c3 => unfold maxLen; omega
        case c4 => omega
        case c5 => have := hb.size; omega
        · intro v' w' hown' hgrow _
          have hbB' : w.heap.size ≤ wr.heap.size := hb.size
          have hb' : Below w.heap.size w w' := (((hb.alloc hbB' _).alloc (by simp; omega) _).alloc (by simp; omega) _).grown hgrow (by simp; omega) (fun g hg => ((hown.lt) g hg).1)
          rw [← hmap.out] at hown'
          clear hown hgrow hb g0 g1 g2 g3
          go_wp2
          go_roundw
          case rel => exact ⟨k + 1, by omega, by go_num, hown', hb'⟩
          case measure => simp [intOf]; omega
    · have hkl : k = l.length := by omega
      have hkm : Hid (l.take k = l) := by show _ = _; rw [hkl, List.take_length]
      subst hkl
      rw [hkm.out] at hown
      obtain ⟨A', c', hv', _, _⟩ := Sl.of_own hown
      subst hv'
      clear hkm hc
      go_wp2
      go_ret
      exact ⟨A', c', rfl, hown, hb⟩

/-- impl.in on flat values -/
theorem in_any (l : List AV) (v : Value) (w : World) (h : Sl w w.heap.size 4 v l.length (l.flatMap avCells)) (hlen : l.length ≤ 1000) :
    Calls Tryz.prog 16 #[v] w fun e w' => ∃ v', e = .returned v' ∧ Sl w' w'.heap.size 4 v' l.length (l.flatMap avCells) ∧ Below w.heap.size w w' :=
  (in_own l v w h hlen).mono fun _ _ ⟨_, _, he, ho, hb⟩ => ⟨_, he, Sl.of_own ho, hb⟩
end Go.Proofs.YtdanlcciefbboaaGreat
