import Derived.Test.YtdanlcciefbboaaGreatInnerL
namespace Go.Proofs.YtdanlcciefbboaaGreat
open Go.RowKit
attribute [local go_sem] run_store_float

theorem flatten_take_le {α : Type} (l : List (List α)) (k : Nat) : (l.take k).flatten.length ≤ l.flatten.length := by
  have h : l.flatten.length = (l.take k).flatten.length + (l.drop k).flatten.length := by
    rw [← List.length_append, ← List.flatten_append, List.take_append_drop]
  omega

set_option maxRecDepth 100000 in
/-- ToList of rows: a row of its own with all cells -/
theorem toList_mat (rows : List (List AV)) (m : Value) (L1 L2 : Nat) (w : World) (h : Rws w w.heap.size 10 favC m rows) (hne : ∀ r ∈ rows, r ≠ []) (hlen : rows.length ≤ 1000) (hn : rows.flatten.length ≤ 1000) :
    Calls Tryz.prog 46 #[faM m (ptr L1) (ptr L2)] w fun e w' => ∃ A' c', e = .returned (.slice A' rows.flatten.length c') ∧ w'.ownsRow w.heap.size 63 10 (.slice A' rows.flatten.length c') rows.flatten.length (rows.flatten.flatMap favC) ∧ Below w.heap.size w w' := by
  obtain ⟨h0, hs, hl, ⟨A, c, rfl, hlc, hc⟩, h2⟩ := h
  obtain ⟨i0, hi, hz0, hz1, hz2⟩ := info_parts infos_fa
  have H2 := hid h2
  have HC := hid hc
  have HL := hid hl
  have HN := hid hne
  clear h2 hc hl hne hlc h0
  unfold faM
  go_enter Tryz.func46, Tryz.ntmps46
  go_wp2_with fail
  go_loopw [3, 13] (fun u i wr => ∃ (k n : Nat), k ≤ rows.length ∧ i = .int .i64 k ∧ Hid (n = (rows.take k).flatten.length) ∧ wr.ownsRow w.heap.size 63 10 u n ((rows.take k).flatten.flatMap favC) ∧ Below w.heap.size w wr) (fun _ i _ => rows.length - (intOf i).toNat)
  case atStart => exact ⟨0, 0, Nat.zero_le _, rfl, hid rfl, World.ownsRow_nil _ _ _ _, (Below.refl _ _).alloc (Nat.le_refl _) _⟩
  case round =>
    obtain ⟨k, n, hk, rfl, hnn, hown, hb⟩ := hrel
    have hbz := hb.size
    by_cases hlt : k < rows.length
    · obtain ⟨b, o, rfl, hbB, hcell⟩ := HC.out (by omega)
      obtain ⟨r, hr⟩ : ∃ r, rows[k]? = some r := ⟨rows[k], List.getElem?_eq_getElem hlt⟩
      obtain ⟨hh, hhk⟩ : ∃ hh, hs[k]? = some hh := ⟨_, List.getElem?_eq_getElem (by rw [HL.out]; exact hlt)⟩
      obtain ⟨A1, c1, rfl, hrl, hrc⟩ := H2.out k hh r hhk hr
      have hr0 : 0 < r.length := List.length_pos_iff.2 (HN.out r (List.mem_of_getElem? hr))
      obtain ⟨b1, o1, rfl, hb1, hrc'⟩ := hrc hr0
      have c42 : wr.cell? ⟨b, o + k, none⟩ = some (.slice (some ⟨b1, o1, none⟩) r.length c1) := (hb.cell (p := ⟨b, o + k, none⟩) hbB).trans (hcell k _ hhk)
      have HRc : Hid (∀ (j : Nat) (u : Value), (r.flatMap favC)[j]? = some u → wr.cell? ((⟨b1, o1, none⟩ : Addr).add j) = some u) := hid (fun j u hu => by rw [add_mid]; exact (hb.cell (p := ⟨b1, o1 + j, none⟩) hb1).trans (hrc' j u hu))
      have HT : Hid ((rows.take (k + 1)).flatten = (rows.take k).flatten ++ r) := hid (by rw [List.take_add_one, hr]; simp)
      have HTl : Hid ((rows.take (k + 1)).flatten.length ≤ 1000) := hid (Nat.le_trans (flatten_take_le rows (k + 1)) hn)
      have hnr : n + r.length ≤ 1000 := by have := HTl.out; rw [HT.out, List.length_append, ← hnn.out] at this; exact this
      clear hcell hr hhk hbB hrc hrl hb1 hrc'
      go_wp2_with (at_builtin; refine wpList_append_own _ rfl _ _ 58 rfl w.heap.size 63 i0 _ 10 136 Tryz.underlying58 hi hz0 hz1 hz2 rfl (by decide) _ _ _ rfl hown ⟨b1, o1, none⟩ r.length c1 (r.flatMap favC) rfl (flat_len favC 10 favC_len r) HRc.out ?c2 ?c3 ?c4 ?c5 ?_)
      case c2 =>
        intro u hu
        obtain ⟨a, _, ha⟩ := List.mem_flatMap.1 hu
        obtain ⟨fx, fs, fb, fe, ft, _, hfc⟩ := favC_form a
        rw [hfc] at ha
        simp [faL] at ha
        rcases ha with rfl | rfl | rfl | rfl | rfl | rfl | rfl | rfl | rfl | rfl <;> rfl
      case c3 => unfold maxLen; omega
      case c4 => omega
      case c5 => exact hbz
      · intro v' w' hown' hgrow _
        have hb' : Below w.heap.size w w' := hb.grown hgrow (by omega) (fun g hg => (hown.lt g hg).1)
        have hown5 : w'.ownsRow w.heap.size 63 10 v' (n + r.length) ((rows.take (k + 1)).flatten.flatMap favC) := by rw [HT.out, List.flatMap_append]; exact hown'
        have hn5 : Hid (n + r.length = (rows.take (k + 1)).flatten.length) := hid (by rw [HT.out, List.length_append, hnn.out])
        clear hown hown' hgrow hb c42 HRc
        go_wp2
        go_roundw
        case rel => exact ⟨k + 1, _, by omega, by go_num, hn5, hown5, hb'⟩
        case measure => simp [intOf]; omega
    · have hkl : k = rows.length := by omega
      subst hkl
      have hnF : n = rows.flatten.length := by rw [hnn.out, List.take_length]
      subst hnF
      have hown5 := hown
      rw [List.take_length] at hown5
      obtain ⟨A', c', hv', _, _⟩ := Sl.of_own hown5
      subst hv'
      clear hown hnn
      go_wp2_with fail
      go_ret
      exact ⟨A', c', rfl, hown5, hb⟩

/-- the same, the cells under a name of their own -/
theorem toList_as (rows : List (List AV)) (al : List AV) (has : al = rows.flatten) (m : Value) (L1 L2 : Nat) (w : World) (h : Rws w w.heap.size 10 favC m rows) (hne : ∀ r ∈ rows, r ≠ []) (hlen : rows.length ≤ 1000) (hn : al.length ≤ 1000) :
    Calls Tryz.prog 46 #[faM m (ptr L1) (ptr L2)] w fun e w' => ∃ A' c', e = .returned (.slice A' al.length c') ∧ w'.ownsRow w.heap.size 63 10 (.slice A' al.length c') al.length (al.flatMap favC) ∧ Below w.heap.size w w' := by
  subst has
  exact toList_mat rows m L1 L2 w h hne hlen hn
end Go.Proofs.YtdanlcciefbboaaGreat
