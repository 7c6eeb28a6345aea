import Derived.Test.YtndabbepepbnmaaGreatDoorRowsM
namespace Go.Proofs.YtndabbepepbnmaaGreatDoor
open Go.RowKit
attribute [local go_sem] run_store_float

set_option maxRecDepth 100000 in
set_option maxHeartbeats 2000000 in
/-- impl.out on rows of numbers -/
theorem out_mat (F : List (List Nat)) (m : Value) (w : World) (h : Rws w w.heap.size 4 flV m F) (hlen2 : ∀ r ∈ F, r.length ≤ 1000) (hlen : F.length ≤ 1000) :
    Calls Tryz.prog 67 #[.agg #[.int .i64 5, .float .f64 0, .string es, m]] w fun e w' => ∃ v, e = .returned (.agg #[.int .i64 5, .float .f64 0, .string es, v]) ∧ Rwn w w' 4 flV v F ∧ Below w.heap.size w w' := by
  obtain ⟨h0, hs, hl, ⟨A, c, rfl, hlc, hc⟩, h2⟩ := h
  obtain ⟨i0, hi, hz0, hz1, hz2⟩ := info_parts infos_iv
  obtain ⟨i1, hj, hy0, hy1, hy2⟩ := info_parts infos_vls
  have H2 := hid h2
  have HC := hid hc
  have HL := hid hl
  have HL2 := hid hlen2
  clear h2 hc hl hlen2 hlc h0
  go_enter Tryz.func67, Tryz.ntmps67
  go_wp2_with fail
  have b1 : Bk (((w.alloc (.cells #[.int .i64 5, .float .f64 0, .string es, .slice A F.length c] 64)).alloc (.cells #[.int .i64 0, .float .f64 0, .string ⟨#[]⟩, .slice none 0 0] 42)).alloc (.cells #[.int .i64 5, .float .f64 0, .string es, .slice none 0 0] 42)) (w.heap.size + 1) 42 #[.int .i64 0, .float .f64 0, .string ⟨#[]⟩, .slice none 0 0] := (Bk.new_at (by simp)).alloc _
  have b2 : Bk (((w.alloc (.cells #[.int .i64 5, .float .f64 0, .string es, .slice A F.length c] 64)).alloc (.cells #[.int .i64 0, .float .f64 0, .string ⟨#[]⟩, .slice none 0 0] 42)).alloc (.cells #[.int .i64 5, .float .f64 0, .string es, .slice none 0 0] 42)) (w.heap.size + 1 + 1) 42 #[.int .i64 5, .float .f64 0, .string es, .slice none 0 0] := Bk.new_at (by simp)
  have hz : (((w.alloc (.cells #[.int .i64 5, .float .f64 0, .string es, .slice A F.length c] 64)).alloc (.cells #[.int .i64 0, .float .f64 0, .string ⟨#[]⟩, .slice none 0 0] 42)).alloc (.cells #[.int .i64 5, .float .f64 0, .string es, .slice none 0 0] 42)).heap.size = w.heap.size + 1 + 1 + 1 := by simp
  have hw : Below w.heap.size w (((w.alloc (.cells #[.int .i64 5, .float .f64 0, .string es, .slice A F.length c] 64)).alloc (.cells #[.int .i64 0, .float .f64 0, .string ⟨#[]⟩, .slice none 0 0] 42)).alloc (.cells #[.int .i64 5, .float .f64 0, .string es, .slice none 0 0] 42)) := (((Below.refl _ _).alloc (Nat.le_refl _) _).alloc (by simp) _).alloc (by simp; omega) _
  generalize (((w.alloc (.cells #[.int .i64 5, .float .f64 0, .string es, .slice A F.length c] 64)).alloc (.cells #[.int .i64 0, .float .f64 0, .string ⟨#[]⟩, .slice none 0 0] 42)).alloc (.cells #[.int .i64 5, .float .f64 0, .string es, .slice none 0 0] 42)) = W at *
  go_loopw [19] (fun i wr => ∃ (k : Nat) (u : Value) (us : List Value), k ≤ F.length ∧ i = .int .i64 k ∧ Bk wr (w.heap.size + 1 + 1) 42 #[.int .i64 5, .float .f64 0, .string es, u] ∧ Hid (k = 0 → u = .slice none 0 0) ∧ wr.ownsRow (w.heap.size + 1 + 1 + 1) 44 1 u k us ∧ Hid (OR wr (w.heap.size + 1 + 1 + 1) 42 4 flV us (F.take k)) ∧ Below (w.heap.size + 1 + 1) W wr) (fun i _ => F.length - (intOf i).toNat)
  case atStart => exact ⟨0, _, [], Nat.zero_le _, rfl, b2, hid (fun _ => rfl), World.ownsRow_nil _ _ _ _, hid (OR.nil _ _ _ _ _), Below.refl _ _⟩
  case round =>
    obtain ⟨k, u, us, hk, rfl, hB, hu0, hown, hOR, hb⟩ := hrel
    have hbz := hb.size
    obtain ⟨V, hV⟩ : ∃ V, V = wr := ⟨_, rfl⟩
    subst hV
    have h0r : Below w.heap.size w V := hw.trans (hb.mono (by omega))
    by_cases hlt : k < F.length
    · obtain ⟨b, o, rfl, hbB, hcell⟩ := HC.out (by omega)
      obtain ⟨r, hr⟩ : ∃ r, F[k]? = some r := ⟨F[k], List.getElem?_eq_getElem hlt⟩
      obtain ⟨hh, hhk⟩ : ∃ hh, hs[k]? = some hh := ⟨_, List.getElem?_eq_getElem (by rw [HL.out]; exact hlt)⟩
      obtain ⟨A1, c1, rfl, hrl, hrc⟩ := H2.out k hh r hhk hr
      have HRl : r.length ≤ 1000 := HL2.out r (List.mem_of_getElem? hr)
      have HRc := hid hrc
      have c42 : V.cell? ⟨b, o + k, none⟩ = some (.slice A1 r.length c1) := (h0r.cell (p := ⟨b, o + k, none⟩) hbB).trans (hcell k _ hhk)
      have HT := hid (show F.take (k + 1) = F.take k ++ [r] by rw [List.take_add_one, hr]; rfl)
      clear hcell hr hhk hbB hrc hrl
      go_wp2_with fail
      go_loopw [6, 25] (fun u i wr => ∃ (j : Nat), j ≤ r.length ∧ i = .int .i64 j ∧ wr.ownsRow V.heap.size 42 4 u j ((r.take j).flatMap flV) ∧ Below V.heap.size V wr) (fun _ i _ => r.length - (intOf i).toNat)
      case atStart => exact ⟨0, Nat.zero_le _, rfl, World.ownsRow_nil _ _ _ _, Below.refl _ _⟩
      case round =>
        obtain ⟨j, hj', rfl, hown1, hb1⟩ := hrel
        have hb1z := hb1.size
        have h1r : Below w.heap.size w wr := h0r.trans (hb1.mono (by omega))
        by_cases hlt1 : j < r.length
        · obtain ⟨b', o', rfl, hbB', hcell'⟩ := HRc.out (by omega)
          obtain ⟨x, hx⟩ : ∃ x, r[j]? = some x := ⟨r[j], List.getElem?_eq_getElem hlt1⟩
          have hcw : ∀ (t : Nat) (u : Value), (r.flatMap flV)[t]? = some u → wr.cell? ⟨b', o' + t, none⟩ = some u := fun t u hu =>
            (h1r.cell (p := ⟨b', o' + t, none⟩) hbB').trans (hcell' t u hu)
          have f := fun i (hi : i < 4) => flat_at flV 4 flV_len r j x i hx hi
          have g0 : wr.cell? ⟨b', o' + j * 4, none⟩ = some (.int .i64 1) := by have := hcw (j * 4 + 0) _ ((f 0 (by omega)).trans rfl); simpa using this
          have g1 : wr.cell? ⟨b', o' + j * 4 + 1, none⟩ = some (.float .f64 x) := hcw (j * 4 + 1) _ ((f 1 (by omega)).trans rfl)
          have g2 : wr.cell? ⟨b', o' + j * 4 + 2, none⟩ = some (.string es) := hcw (j * 4 + 2) _ ((f 2 (by omega)).trans rfl)
          have g3 : wr.cell? ⟨b', o' + j * 4 + 3, none⟩ = some (.slice none 0 0) := hcw (j * 4 + 3) _ ((f 3 (by omega)).trans rfl)
          have HT2 := hid (flat_take flV r j x hx)
          clear f hcell' hcw hbB' hx
          go_wp2_with fail
          refine (out_any 1 x es _).mono ?_
          rintro e w2 ⟨rfl, hb2⟩
          have hr2 : Below wr.heap.size wr w2 := Below.lift ((Below.refl wr.heap.size wr).alloc (Nat.le_refl _) _) (by simp) hb2
          have hown2 := own_keep hown1 hr2
          have hb3 : Below V.heap.size V w2 := Below.lift hb1 hb1.size hr2
          have hz3 := hb3.size
          unfold iv
          go_wp2_with (at_builtin; refine wpList_append_own _ rfl _ _ 44 rfl V.heap.size 42 i0 _ 4 56 Tryz.underlying44 hi hz0 hz1 hz2 rfl (by decide) _ _ _ rfl (hown2.alloc _) ⟨w2.heap.size, 0, none⟩ 1 1 (flV x) rfl rfl ?c1 ?c2 ?c3 ?c4 ?c5 ?_)
          case c1 =>
            intro i u hi
            rw [add_mid, Nat.zero_add, (Bk.new _ _ _).cell]
            simpa [flV, avCells] using hi
          case c2 => intro u hu; simp [flV, avCells] at hu; rcases hu with rfl | rfl | rfl | rfl <;> rfl
          case c3 => unfold maxLen; omega
          case c4 => omega
          case c5 => simp; omega
          · intro v' w' hown' hgrow _
            have hb' : Below V.heap.size V w' := (hb3.alloc hz3 _).grown hgrow (by simp; omega) (fun g hg => ((hown2.lt) g hg).1)
            rw [← HT2.out] at hown'
            clear hown1 hown2 hgrow hb1 hb2 hb3 hr2 h1r g0 g1 g2 g3
            go_wp2
            go_roundw
            case rel => exact ⟨j + 1, by omega, by go_num, hown', hb'⟩
            case measure => simp [intOf]; omega
        · have hkl : j = r.length := by omega
          subst hkl
          have hown3 : wr.ownsRow V.heap.size 42 4 u6 r.length (r.flatMap flV) := by have := hown1; rwa [List.take_length] at this
          obtain ⟨A2, c2, hv', _, _⟩ := Sl.of_own hown3
          subst hv'
          have hownV := own_keep hown hb1
          have hORV := hOR.out.keep hb1
          have hBV := hB.below hb1 hB.lt
          obtain ⟨d0, d1, d2, d3, df⟩ := hBV.cells4
          have hBlt := hBV.lt
          clear hown1 hOR
          go_wp2_with (at_builtin; refine wpList_append_lies _ rfl _ _ 40 rfl (w.heap.size + 1 + 1 + 1) 44 i1 _ 1 24 Tryz.underlying40 hj hy0 hy1 hy2 rfl (by decide) _ _ _ rfl (hownV.alloc _) ⟨wr.heap.size, 0, none⟩ 1 1 [.slice A2 r.length c2] rfl rfl ?c1 ?c2 (by decide) ?c3 ?c4 ?c5 (wr.heap.size + 1) ?c6 ?_)
          case c1 =>
            intro i u hi
            rw [add_mid, Nat.zero_add, (Bk.new _ _ _).cell]
            simpa using hi
          case c2 => intro u hu; simp at hu; subst hu; rfl
          case c3 => unfold maxLen; omega
          case c4 => omega
          case c5 => simp; omega
          case c6 => simp
          · intro gg cap w4 hown4 hgrow hat hlt4
            have hk4 : Below (w.heap.size + 1 + 1 + 1) V w4 := ((hb1.mono (by omega)).alloc (by omega) _).grown hgrow (by simp; omega) (fun g hg => ((hownV.lt) g hg).1)
            have hnew : w4.ownsRow (w.heap.size + 1 + 1 + 1) 42 4 (.slice A2 r.length c2) r.length (r.flatMap flV) :=
              ((own_base hown3 (by omega)).alloc _).kept hgrow (own_ne ((own_base hown3 (show w.heap.size + 1 + 1 + 1 ≤ V.heap.size by omega)).alloc (.cells #[.slice A2 r.length c2] 44)) (hownV.alloc _) (by decide))
            have hORn := (((hORV.alloc (.cells #[.slice A2 r.length c2] 44)).grown (hownV.alloc _) (by decide) hgrow).push hnew).set_below (a := ⟨w.heap.size + 1 + 1, 3, none⟩) (by simp) (.slice (some ⟨gg, 0, none⟩) (k + 1) cap)
            rw [← HT.out] at hORn
            have HORn := hid hORn
            have hB4 := hB.below hk4 (by omega)
            have e3 : w4.cell? ⟨w.heap.size + 1 + 1, 3, none⟩ = some u := hB4.cell 3
            have ef := hB4.free 3
            have hBn := hB4.set_ 3 (.slice (some ⟨gg, 0, none⟩) (k + 1) cap)
            have hOwn := ownsRow_setCell_below hown4 (a := ⟨w.heap.size + 1 + 1, 3, none⟩) (by simp) (.slice (some ⟨gg, 0, none⟩) (k + 1) cap)
            have hbn := ((hb.trans (hk4.mono (by omega))).setCell (p := ⟨w.heap.size + 1 + 1, 3, none⟩) (by simp) (.slice (some ⟨gg, 0, none⟩) (k + 1) cap))
            clear hORn hnew hgrow hat hownV hORV hown3 hown hb hb1 h1r c42 hB4 hBV hB hown4
            go_wp2
            go_roundw
            case rel => exact ⟨k + 1, _, _, by omega, by go_num, hBn, hid (fun h => absurd h (by omega)), hOwn, HORn, hbn⟩
            case measure => simp [intOf]; omega
    · have hkl : k = F.length := by omega
      subst hkl
      have HRW : Hid (RwP V (fun b => w.heap.size + 1 + 1 + 1 ≤ b ∧ b < V.heap.size) 4 flV u F) := hid (RwP.of_own hown (by have := hOR.out; rwa [List.take_length] at this) (fun h => hu0.out (by rw [h]; rfl)))
      obtain ⟨A9, c9, hv9⟩ := HRW.out.form
      subst hv9
      obtain ⟨q0, q1, q2, q3, qf⟩ := hB.cells4
      have hR1 := b1.below hb (by omega)
      obtain ⟨p0, p1, p2, p3, pf⟩ := hR1.cells4
      have HRV : Hid (∀ W' : World, (∀ b, b ≠ w.heap.size + 1 → W'.heap[b]? = V.heap[b]?) → W'.heap.size = V.heap.size → Rwn w W' 4 flV (.slice A9 F.length c9) F) := hid (fun W' h1 h2 => RwP.keep (w' := W') (S' := fun b => w.heap.size ≤ b ∧ b < W'.heap.size) HRW.out fun b hb => ⟨(h1 b (fun e => by have := hb.1; omega)), by have := hb.1; omega, by have := hb.2; omega⟩)
      clear hown hOR hu0 HRW
      go_wp2_with fail
      refine end_cell Tryz.results67 rfl (Bk.set4 hR1 _ _ _ _) Tryz.underlying42 rfl info_iv rfl ?_
      exact ⟨_, rfl, HRV.out _ (fun b hb => by rw [Below.heap_setCell _ _ _ _ hb, Below.heap_setCell _ _ _ _ hb, Below.heap_setCell _ _ _ _ hb, Below.heap_setCell _ _ _ _ hb]) (by simp [World.setCell]), Below.set4 h0r (by omega) _ _ _ _⟩
end Go.Proofs.YtndabbepepbnmaaGreatDoor
