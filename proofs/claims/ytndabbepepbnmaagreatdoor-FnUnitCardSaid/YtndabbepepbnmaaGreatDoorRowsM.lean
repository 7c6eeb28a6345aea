import Derived.Test.YtndabbepepbnmaaGreatDoorNumM
import Derived.Test.YtndabbepepbnmaaGreatDoorImpl
namespace Go.Proofs.YtndabbepepbnmaaGreatDoor
open Go.RowKit
attribute [local go_sem] run_store_float

/-- the cells of a number, as an Arg or a Val -/
def flV (x : Nat) : List Value := avCells (1, x, es)
theorem flV_len (x : Nat) : (flV x).length = 4 := rfl
theorem infos_ars : (Tryz.prog.info? 66).map (fun i => (i.zero, i.size, i.bytes)) = some (some (.slice none 0 0), 1, 24) := by kernel_rfl
theorem infos_vls : (Tryz.prog.info? 44).map (fun i => (i.zero, i.size, i.bytes)) = some (some (.slice none 0 0), 1, 24) := by kernel_rfl

set_option maxRecDepth 100000 in
set_option maxHeartbeats 2000000 in
/-- doorRows on numbers -/
theorem doorRows_any (F : List (List Nat)) (m : Value) (w : World) (h : Rws w w.heap.size 10 flA m F) (hlen2 : ∀ r ∈ F, r.length ≤ 1000) (hlen : F.length ≤ 1000) :
    Calls Tryz.prog 130 #[m] w fun e w' => ∃ v, e = .returned v ∧ Rwn w w' 4 flV v F ∧ Below w.heap.size w w' := by
  obtain ⟨h0, hs, hl, ⟨A, c, rfl, hlc, hc⟩, h2⟩ := h
  obtain ⟨i0, hi, hz0, hz1, hz2⟩ := info_parts infos_av
  obtain ⟨i1, hj, hy0, hy1, hy2⟩ := info_parts infos_ars
  have H2 := hid h2
  have HC := hid hc
  have HL := hid hl
  have HL2 := hid hlen2
  clear h2 hc hl hlen2 hlc h0
  go_enter Tryz.func130, Tryz.ntmps130
  go_wp2_with fail
  go_loopw [3, 11] (fun u i wr => ∃ (k : Nat) (us : List Value), k ≤ F.length ∧ i = .int .i64 k ∧ Hid (k = 0 → u = .slice none 0 0) ∧ wr.ownsRow w.heap.size 66 1 u k us ∧ Hid (OR wr w.heap.size 64 4 flV us (F.take k)) ∧ Below w.heap.size w wr) (fun _ i _ => F.length - (intOf i).toNat)
  case atStart => exact ⟨0, [], Nat.zero_le _, rfl, hid (fun _ => rfl), World.ownsRow_nil _ _ _ _, hid (OR.nil _ _ _ _ _), Below.refl _ _⟩
  case round =>
    obtain ⟨k, us, hk, rfl, hu0, hown, hOR, hb⟩ := hrel
    have hbz := hb.size
    obtain ⟨V, hV⟩ : ∃ V, V = wr := ⟨_, rfl⟩
    subst hV
    by_cases hlt : k < F.length
    · obtain ⟨b, o, rfl, hbB, hcell⟩ := HC.out (by omega)
      obtain ⟨r, hr⟩ : ∃ r, F[k]? = some r := ⟨F[k], List.getElem?_eq_getElem hlt⟩
      obtain ⟨hh, hhk⟩ : ∃ hh, hs[k]? = some hh := ⟨_, List.getElem?_eq_getElem (by rw [HL.out]; exact hlt)⟩
      obtain ⟨A1, c1, rfl, hrl, hrc⟩ := H2.out k hh r hhk hr
      have HRl : r.length ≤ 1000 := HL2.out r (List.mem_of_getElem? hr)
      have HRc := hid hrc
      have c42 : V.cell? ⟨b, o + k, none⟩ = some (.slice A1 r.length c1) := (hb.cell (p := ⟨b, o + k, none⟩) hbB).trans (hcell k _ hhk)
      have HT := hid (show F.take (k + 1) = F.take k ++ [r] by rw [List.take_add_one, hr]; rfl)
      clear hcell hr hhk hbB hrc hrl
      go_wp2_with fail
      go_loopw [6, 17] (fun u i wr => ∃ (j : Nat), j ≤ r.length ∧ i = .int .i64 j ∧ wr.ownsRow V.heap.size 64 4 u j ((r.take j).flatMap flV) ∧ Below V.heap.size V wr) (fun _ i _ => r.length - (intOf i).toNat)
      case atStart => exact ⟨0, Nat.zero_le _, rfl, World.ownsRow_nil _ _ _ _, Below.refl _ _⟩
      case round =>
        obtain ⟨j, hj', rfl, hown1, hb1⟩ := hrel
        have hb1z := hb1.size
        have h1r : Below w.heap.size w wr := hb.trans (hb1.mono (by omega))
        by_cases hlt1 : j < r.length
        · obtain ⟨b', o', rfl, hbB', hcell'⟩ := HRc.out (by omega)
          obtain ⟨x, hx⟩ : ∃ x, r[j]? = some x := ⟨r[j], List.getElem?_eq_getElem hlt1⟩
          have hcw : ∀ (t : Nat) (u : Value), (r.flatMap flA)[t]? = some u → wr.cell? ⟨b', o' + t, none⟩ = some u := fun t u hu =>
            (h1r.cell (p := ⟨b', o' + t, none⟩) hbB').trans (hcell' t u hu)
          have f := fun i (hi : i < 10) => flat_at flA 10 flA_len r j x i hx hi
          have g0 : wr.cell? ⟨b', o' + j * 10, none⟩ = some (.string es) := by have := hcw (j * 10 + 0) _ ((f 0 (by omega)).trans rfl); simpa using this
          have g1 : wr.cell? ⟨b', o' + j * 10 + 1, none⟩ = some (.float .f64 x) := hcw (j * 10 + 1) _ ((f 1 (by omega)).trans rfl)
          have g2 : wr.cell? ⟨b', o' + j * 10 + 2, none⟩ = some (.string es) := hcw (j * 10 + 2) _ ((f 2 (by omega)).trans rfl)
          have g3 : wr.cell? ⟨b', o' + j * 10 + 3, none⟩ = some (.slice none 0 0) := hcw (j * 10 + 3) _ ((f 3 (by omega)).trans rfl)
          have g4 : wr.cell? ⟨b', o' + j * 10 + 4, none⟩ = some (.slice none 0 0) := hcw (j * 10 + 4) _ ((f 4 (by omega)).trans rfl)
          have g5 : wr.cell? ⟨b', o' + j * 10 + 5, none⟩ = some (.bool false) := hcw (j * 10 + 5) _ ((f 5 (by omega)).trans rfl)
          have g6 : wr.cell? ⟨b', o' + j * 10 + 6, none⟩ = some (.string es) := hcw (j * 10 + 6) _ ((f 6 (by omega)).trans rfl)
          have g7 : wr.cell? ⟨b', o' + j * 10 + 7, none⟩ = some (.int .u8 1) := hcw (j * 10 + 7) _ ((f 7 (by omega)).trans rfl)
          have g8 : wr.cell? ⟨b', o' + j * 10 + 8, none⟩ = some (.pointer none) := hcw (j * 10 + 8) _ ((f 8 (by omega)).trans rfl)
          have g9 : wr.cell? ⟨b', o' + j * 10 + 9, none⟩ = some (.pointer none) := hcw (j * 10 + 9) _ ((f 9 (by omega)).trans rfl)
          have HT2 := hid (flat_take flV r j x hx)
          clear f hcell' hcw hbB' hx
          go_wp2_with fail
          refine (doorArg_num x es es _).mono ?_
          rintro e w2 ⟨rfl, hb2⟩
          have hr2 : Below wr.heap.size wr w2 := Below.lift ((Below.refl wr.heap.size wr).alloc (Nat.le_refl _) _) (by simp) hb2
          have hown2 := own_keep hown1 hr2
          have hb3 : Below V.heap.size V w2 := Below.lift hb1 hb1.size hr2
          have hz3 := hb3.size
          unfold iv
          go_wp2_with (at_builtin; refine wpList_append_own _ rfl _ _ 66 rfl V.heap.size 64 i0 _ 4 56 Tryz.underlying66 hi hz0 hz1 hz2 rfl (by decide) _ _ _ rfl (hown2.alloc _) ⟨w2.heap.size, 0, none⟩ 1 1 (flV x) rfl rfl ?c1 ?c2 ?c3 ?c4 ?c5 ?_)
          case c1 =>
            intro i u hi
            rw [add_mid, Nat.zero_add, (Bk.new _ _ _).cell]
            simpa [flV, avCells] using hi
          case c2 => intro u hu; simp [flV, avCells] at hu; rcases hu with rfl | rfl | rfl | rfl <;> rfl
          case c3 => unfold maxLen; omega
          case c4 => omega
          case c5 => simp; omega
          · intro v' w' hown' hgrow _
            have hb' : Below V.heap.size V w' := (hb3.alloc hz3 _).grown hgrow (by simp; omega) (fun g hg => ((hown2.lt) g hg).1)
            rw [← HT2.out] at hown'
            clear hown1 hown2 hgrow hb1 hb2 hb3 hr2 h1r g0 g1 g2 g3 g4 g5 g6 g7 g8 g9
            go_wp2
            go_roundw
            case rel => exact ⟨j + 1, by omega, by go_num, hown', hb'⟩
            case measure => simp [intOf]; omega
        · have hkl : j = r.length := by omega
          subst hkl
          have hown3 : wr.ownsRow V.heap.size 64 4 u6 r.length (r.flatMap flV) := by have := hown1; rwa [List.take_length] at this
          obtain ⟨A2, c2, hv', _, _⟩ := Sl.of_own hown3
          subst hv'
          have hownV := own_keep hown hb1
          have hORV := hOR.out.keep hb1
          clear hown1 hOR
          go_wp2_with (at_builtin; refine wpList_append_lies _ rfl _ _ 62 rfl w.heap.size 66 i1 _ 1 24 Tryz.underlying62 hj hy0 hy1 hy2 rfl (by decide) _ _ _ rfl (hownV.alloc _) ⟨wr.heap.size, 0, none⟩ 1 1 [.slice A2 r.length c2] rfl rfl ?c1 ?c2 (by decide) ?c3 ?c4 ?c5 (wr.heap.size + 1) ?c6 ?_)
          case c1 =>
            intro i u hi
            rw [add_mid, Nat.zero_add, (Bk.new _ _ _).cell]
            simpa using hi
          case c2 => intro u hu; simp at hu; subst hu; rfl
          case c3 => unfold maxLen; omega
          case c4 => omega
          case c5 => simp; omega
          case c6 => simp
          · intro gg cap w4 hown4 hgrow hat hlt4
            have hbn : Below w.heap.size w w4 := (h1r.alloc (by omega) _).grown hgrow (by simp; omega) (fun g hg => ((hownV.lt) g hg).1)
            have hnew : w4.ownsRow w.heap.size 64 4 (.slice A2 r.length c2) r.length (r.flatMap flV) :=
              ((own_base hown3 (by omega)).alloc _).kept hgrow (own_ne ((own_base hown3 (show w.heap.size ≤ V.heap.size by omega)).alloc (.cells #[.slice A2 r.length c2] 66)) (hownV.alloc _) (by decide))
            have hORn := ((hORV.alloc (.cells #[.slice A2 r.length c2] 66)).grown (hownV.alloc _) (by decide) hgrow).push hnew
            rw [← HT.out] at hORn
            have HORn := hid hORn
            clear hORn hnew hgrow hat hownV hORV hown3 hown hb hb1 h1r c42
            go_wp2
            go_roundw
            case rel => exact ⟨k + 1, _, by omega, by go_num, hid (fun h => absurd h (by omega)), hown4, HORn, hbn⟩
            case measure => simp [intOf]; omega
    · have hkl : k = F.length := by omega
      subst hkl
      have HRW : Hid (RwP V (fun b => w.heap.size ≤ b ∧ b < V.heap.size) 4 flV u3 F) := hid (RwP.of_own hown (by have := hOR.out; rwa [List.take_length] at this) (fun h => hu0.out (by rw [h]; rfl)))
      clear hown hOR hu0
      go_wp2_with fail
      go_ret
      exact ⟨_, rfl, HRW.out, hb⟩

/-- doorArg on a formulaArg of rows of numbers -/
theorem doorArg_mat (F : List (List Nat)) (m : Value) (w : World) (h : Rws w w.heap.size 10 flA m F) (hlen2 : ∀ r ∈ F, r.length ≤ 1000) (hlen : F.length ≤ 1000) :
    Calls Tryz.prog 99 #[faM m (.pointer none) (.pointer none)] w fun e w' => ∃ v, e = .returned (.agg #[.int .i64 5, .float .f64 0, .string es, v]) ∧ Rwn w w' 4 flV v F ∧ Below w.heap.size w w' := by
  obtain ⟨A, c, rfl⟩ := h.form
  have HH := hid h
  have HL2 := hid hlen2
  clear h hlen2
  unfold faM
  go_enter Tryz.func99, Tryz.ntmps99
  go_wp2_with fail
  have b1 : Bk ((w.alloc (.cells #[.string es, .float .f64 0, .string es, .slice none 0 0, .slice A F.length c, .bool false, .string es, .int .u8 4, .pointer none, .pointer none] 78)).alloc (.cells #[.int .i64 0, .float .f64 0, .string ⟨#[]⟩, .slice none 0 0] 64)) (w.heap.size + 1) 64 #[.int .i64 0, .float .f64 0, .string ⟨#[]⟩, .slice none 0 0] := Bk.new_at (by simp)
  have hw : Below w.heap.size w ((w.alloc (.cells #[.string es, .float .f64 0, .string es, .slice none 0 0, .slice A F.length c, .bool false, .string es, .int .u8 4, .pointer none, .pointer none] 78)).alloc (.cells #[.int .i64 0, .float .f64 0, .string ⟨#[]⟩, .slice none 0 0] 64)) := ((Below.refl _ _).alloc (Nat.le_refl _) _).alloc (by simp) _
  generalize ((w.alloc (.cells #[.string es, .float .f64 0, .string es, .slice none 0 0, .slice A F.length c, .bool false, .string es, .int .u8 4, .pointer none, .pointer none] 78)).alloc (.cells #[.int .i64 0, .float .f64 0, .string ⟨#[]⟩, .slice none 0 0] 64)) = W at *
  have hwz := hw.size
  refine (doorRows_any F _ W (Rws.below HH.out hw hwz) HL2.out hlen).mono ?_
  rintro e w2 ⟨v, rfl, hrv, hb2⟩
  obtain ⟨A9, c9, rfl⟩ := hrv.form
  have hz2 := hb2.size
  have b2 := b1.below hb2 b1.lt
  have hw2 := hw.trans (hb2.mono hwz)
  have hb1lt := b1.lt
  have HRV : Hid (∀ W' : World, (∀ b, b ≠ w.heap.size + 1 → W'.heap[b]? = w2.heap[b]?) → W'.heap.size = w2.heap.size → Rwn w W' 4 flV (.slice A9 F.length c9) F) := hid (fun W' h1 h2 => RwP.keep (w' := W') (S' := fun b => w.heap.size ≤ b ∧ b < W'.heap.size) hrv fun b hb => ⟨(h1 b (fun e => by have := hb.1; omega)), by have := hb.1; omega, by have := hb.2; omega⟩)
  obtain ⟨q0, q1, q2, q3, qf⟩ := b2.cells4
  have hb2lt := b2.lt
  clear hrv hb2 b1 hw
  go_wp2_with fail
  refine end_cell Tryz.results99 rfl (Bk.set4 b2 _ _ _ _) Tryz.underlying64 rfl info_av rfl ?_
  exact ⟨_, rfl, HRV.out _ (fun b hb => by rw [Below.heap_setCell _ _ _ _ hb, Below.heap_setCell _ _ _ _ hb, Below.heap_setCell _ _ _ _ hb, Below.heap_setCell _ _ _ _ hb]) (by simp [World.setCell]), Below.set4 hw2 (by omega) _ _ _ _⟩
end Go.Proofs.YtndabbepepbnmaaGreatDoor
