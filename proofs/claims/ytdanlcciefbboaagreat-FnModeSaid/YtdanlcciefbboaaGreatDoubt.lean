import Derived.Test.YtdanlcciefbboaaGreatOf
import Derived.Laws.AppendOwnNone
namespace Go.Proofs.YtdanlcciefbboaaGreat
open Go.RowKit
attribute [local go_sem] run_store_float

theorem infos_sv : (Tryz.prog.info? 34).map (fun i => (i.zero, i.size, i.bytes)) = some (some (.agg #[.int .i64 0, .int .i64 0, .int .i64 0, .string ⟨#[]⟩, .slice none 0 0]), 5, 64) := by kernel_rfl

set_option maxHeartbeats 400000 in
/-- Flat on flat values -/
theorem Flat_flat (l : List SV) (v : Value) (w : World) (h : Sl w w.heap.size 5 v l.length (l.flatMap svCells)) (hok : ∀ a ∈ l, a.1 ≠ 5) (hlen : l.length ≤ 1000) :
    Calls Tryz.prog 20 #[v] w fun e w' => ∃ v', e = .returned v' ∧ Sl w' w'.heap.size 5 v' l.length (l.flatMap svCells) ∧ Below w.heap.size w w' ∧ (l.length = 0 → v' = .slice none 0 0) := by
  obtain ⟨A, c, rfl, hl, hc⟩ := h
  clear hl
  obtain ⟨i0, hi, hz0, hz1, hz2⟩ := info_parts infos_sv
  go_enter Tryz.func20, Tryz.ntmps20
  go_wp2_with fail
  go_loopw [3, 4] (fun u i wr => ∃ (k : Nat), k ≤ l.length ∧ i = .int .i64 k ∧ wr.ownsRow w.heap.size 34 5 u k ((l.take k).flatMap svCells) ∧ Below w.heap.size w wr ∧ (k = 0 → u = .slice none 0 0)) (fun _ i _ => l.length - (intOf i).toNat)
  case atStart => exact ⟨0, Nat.zero_le _, rfl, World.ownsRow_nil _ _ _ _, Below.refl _ _, fun _ => rfl⟩
  case round =>
    obtain ⟨k, hk, rfl, hown, hb, hz⟩ := hrel
    have Hz := hid hz
    clear hz
    by_cases hlt : k < l.length
    · obtain ⟨b, o, rfl, hbB, hcell⟩ := hc (by omega)
      obtain ⟨a, ha⟩ : ∃ a, l[k]? = some a := ⟨l[k], List.getElem?_eq_getElem hlt⟩
      have h5 : (a.1 != 5) = true := by have := hok a (List.mem_of_getElem? ha); simpa using this
      have f := fun j (hj : j < 5) => flat_at svCells 5 svCells_len l k a j ha hj
      have g0 : wr.cell? ⟨b, o + k * 5, none⟩ = some (.int .i64 a.1) := (hb.cell (p := ⟨b, o + k * 5, none⟩) hbB).trans (by have := hcell (k * 5 + 0) _ ((f 0 (by omega)).trans rfl); simpa using this)
      have g1 : wr.cell? ⟨b, o + k * 5 + 1, none⟩ = some (.int .i64 a.2.1) := (hb.cell (p := ⟨b, o + k * 5 + 1, none⟩) hbB).trans (hcell (k * 5 + 1) _ ((f 1 (by omega)).trans rfl))
      have g2 : wr.cell? ⟨b, o + k * 5 + 2, none⟩ = some (.int .i64 a.2.2.1) := (hb.cell (p := ⟨b, o + k * 5 + 2, none⟩) hbB).trans (hcell (k * 5 + 2) _ ((f 2 (by omega)).trans rfl))
      have g3 : wr.cell? ⟨b, o + k * 5 + 3, none⟩ = some (.string a.2.2.2) := (hb.cell (p := ⟨b, o + k * 5 + 3, none⟩) hbB).trans (hcell (k * 5 + 3) _ ((f 3 (by omega)).trans rfl))
      have g4 : wr.cell? ⟨b, o + k * 5 + 4, none⟩ = some (.slice none 0 0) := (hb.cell (p := ⟨b, o + k * 5 + 4, none⟩) hbB).trans (hcell (k * 5 + 4) _ ((f 4 (by omega)).trans rfl))
      have hmap : Hid ((l.take (k + 1)).flatMap svCells = (l.take k).flatMap svCells ++ svCells a) := hid (flat_take svCells l k a ha)
      clear f hcell hc ha hok
      go_wp2_with (at_builtin; refine wpList_append_own _ rfl _ _ 26 rfl w.heap.size 34 i0 _ 5 64 Tryz.underlying26 hi hz0 hz1 hz2 rfl (by decide) _ _ _ rfl (hown.alloc _) ⟨wr.heap.size, 0, none⟩ 1 1 (svCells a) rfl rfl ?c1 ?c2 ?c3 ?c4 ?c5 ?_)
      case c1 =>
        intro j u hj
        have : svCells a = [.int .i64 a.1, .int .i64 a.2.1, .int .i64 a.2.2.1, .string a.2.2.2, .slice none 0 0] := rfl
        rw [this] at hj
        first | (rw [add_mid, Nat.zero_add, (Bk.new _ _ _).cell]; simpa using hj) | simpa using hj
      case c2 => intro u hu; simp [svCells] at hu; rcases hu with rfl | rfl | rfl | rfl | rfl <;> rfl
      case c3 => unfold maxLen; omega
      case c4 => omega
      case c5 => have := hb.size; simp; omega
      · intro v' w' hown' hgrow _
        have hbz := hb.size
        have hb' : Below w.heap.size w w' := (hb.alloc hbz _).grown hgrow (by simp; omega) (fun g hg => ((hown.lt) g hg).1)
        rw [← hmap.out] at hown'
        clear hown hgrow hb g0 g1 g2 g3 g4
        go_wp2
        go_roundw
        case rel => exact ⟨k + 1, by omega, by go_num, hown', hb', fun h => absurd h (by omega)⟩
        case measure => simp [intOf]; omega
    · have hkl : k = l.length := by omega
      have hkm : Hid (l.take k = l) := by show _ = _; rw [hkl, List.take_length]
      subst hkl
      rw [hkm.out] at hown
      clear hkm hc hok
      go_wp2
      go_ret
      exact ⟨_, rfl, Sl.of_own hown, hb, Hz.out⟩

theorem Table_any (v : Value) (A : Option Addr) (n c : Nat) (hv : v = .slice A n c) (w : World) :
    Calls Tryz.prog 11 #[v] w fun e w' => e = .returned (.agg #[.int .i64 5, .int .i64 0, .int .i64 0, .string es, v]) ∧ Below w.heap.size w w' := by
  subst hv
  go_enter Tryz.func11, Tryz.ntmps11
  go_wp2
  exact end_cell Tryz.results11 rfl (Bk.new w _ _) Tryz.underlying34 rfl info_sv rfl ⟨rfl, (Below.refl _ _).alloc (Nat.le_refl _) _⟩

def upTo (k : Nat) (xs : List Value) : List Value := if k = 0 then [] else xs
set_option maxHeartbeats 400000 in
/-- Flat on one matrix of one row of flat values -/
theorem Flat_table (l : List SV) (b o c rb ro rc : Nat) (A : Option Addr) (c' : Nat) (w : World)
    (hb0 : b < w.heap.size) (g0 : w.cell? ⟨b, o, none⟩ = some (.int .i64 5)) (g4 : w.cell? ⟨b, o + 4, none⟩ = some (.slice (some ⟨rb, ro, none⟩) 1 rc))
    (hrb : rb < w.heap.size) (gr : w.cell? ⟨rb, ro, none⟩ = some (.slice A l.length c'))
    (h : Sl w w.heap.size 5 (.slice A l.length c') l.length (l.flatMap svCells)) (hok : ∀ a ∈ l, a.1 ≠ 5) (hlen : l.length ≤ 1000) :
    Calls Tryz.prog 20 #[.slice (some ⟨b, o, none⟩) 1 c] w fun e w' => ∃ v', e = .returned v' ∧ Sl w' w'.heap.size 5 v' l.length (l.flatMap svCells) ∧ Below w.heap.size w w' := by
  have HS := hid h
  have HO := hid hok
  clear h hok
  obtain ⟨i0, hi, hz0, hz1, hz2⟩ := info_parts infos_sv
  go_enter Tryz.func20, Tryz.ntmps20
  go_wp2_with fail
  go_loopw [3, 4, 5] (fun u i _j wr => ∃ (k : Nat), k ≤ 1 ∧ i = .int .i64 k ∧ wr.ownsRow w.heap.size 34 5 u (k * l.length) (upTo k (l.flatMap svCells)) ∧ Below w.heap.size w wr) (fun _ i _ _ => 1 - (intOf i).toNat)
  case atStart => exact ⟨0, by omega, rfl, by simpa [upTo] using World.ownsRow_nil _ _ _ _, Below.refl _ _⟩
  case round =>
    obtain ⟨k, hk, rfl, hown, hb⟩ := hrel
    have c0 := (hb.cell (p := ⟨b, o, none⟩) hb0).trans g0
    have c4 := (hb.cell (p := ⟨b, o + 4, none⟩) hb0).trans g4
    have cr := (hb.cell (p := ⟨rb, ro, none⟩) hrb).trans gr
    rcases Nat.lt_or_ge k 1 with hlt | hge
    · obtain rfl : k = 0 := by omega
      clear hk hlt
      have hown0 : wr.ownsRow w.heap.size 34 5 u3 0 [] := by simpa [upTo] using hown
      clear hown
      obtain ⟨wo, rfl⟩ : ∃ wo : World, wo = wr := ⟨_, rfl⟩
      go_wp2_with fail
      go_loopw [3, 5] (fun u j wr => ∃ (m : Nat), m ≤ 1 ∧ j = .int .i64 m ∧ wr.ownsRow w.heap.size 34 5 u (m * l.length) (upTo m (l.flatMap svCells)) ∧ Below w.heap.size w wr) (fun _ j _ => 1 - (intOf j).toNat)
      case atStart => exact ⟨0, by omega, rfl, by simpa [upTo] using hown0, hb⟩
      case round =>
        clear c0 c4 cr hown0
        obtain ⟨m, hm, rfl, hown, hb1⟩ := hrel
        have c0 := (hb1.cell (p := ⟨b, o, none⟩) hb0).trans g0
        have c4 := (hb1.cell (p := ⟨b, o + 4, none⟩) hb0).trans g4
        have cr := (hb1.cell (p := ⟨rb, ro, none⟩) hrb).trans gr
        rcases Nat.lt_or_ge m 1 with hlt | hge
        · obtain rfl : m = 0 := by omega
          clear hm hlt
          have hown0 : wr.ownsRow w.heap.size 34 5 u3 0 [] := by simpa [upTo] using hown
          clear hown
          go_wp2_with fail
          have hS1 : Sl wr wr.heap.size 5 (.slice A l.length c') l.length (l.flatMap svCells) := (HS.out.keep hb1).more hb1.size
          refine (Flat_flat l _ wr hS1 HO.out hlen).mono ?_
          rintro e w2 ⟨v2, rfl, hS2, hb2, hz2'⟩
          have Hz2 := hid hz2'
          clear hz2'
          have hown2 := own_keep hown0 hb2
          have hb3 := Below.lift hb1 hb1.size hb2
          clear hown0 hb1 hb2 hS1 c0 c4 cr
          obtain ⟨A2, c2, rfl, hl2, hc2⟩ := hS2
          rcases Nat.eq_zero_or_pos l.length with h0 | h0
          · have hv2 := Hz2.out h0
            have e0 : l = [] := List.eq_nil_of_length_eq_zero h0
            subst e0
            simp only [Value.slice.injEq] at hv2
            obtain ⟨rfl, _, rfl⟩ := hv2
            clear Hz2 hl2 hc2 h0
            go_wp2_with (at_builtin; refine wpList_append_own_none rfl _ _ 26 rfl w.heap.size 34 i0 5 Tryz.underlying26 hi _ _ _ rfl hown2 rfl ?_)
            go_wp2
            go_roundw
            case rel => first | exact ⟨1, by omega, rfl, by simpa [upTo] using hown2, hb3⟩ | ((repeat apply Exists.intro); exact ⟨⟨1, by omega, rfl, by simpa [upTo] using hown2, hb3⟩, rfl⟩)
            case measure => simp [intOf]
          · obtain ⟨b2, o2, rfl, hb2B, hcell2⟩ := hc2 h0
            clear hc2 Hz2
            have Hc := hid hcell2
            have Hl := hid hl2
            clear hcell2 hl2
            go_wp2_with (at_builtin; refine wpList_append_own _ rfl _ _ 26 rfl w.heap.size 34 i0 _ 5 64 Tryz.underlying26 hi hz0 hz1 hz2 rfl (by decide) _ _ _ rfl hown2 ⟨b2, o2, none⟩ l.length c2 (l.flatMap svCells) rfl Hl.out ?c1 ?c2 ?c3 ?c4 ?c5 ?_)
            case c1 => intro j u hj; rw [add_mid]; exact Hc.out j u hj
            case c2 =>
              intro u hu
              obtain ⟨a, _, hu⟩ := List.mem_flatMap.1 hu
              simp [svCells] at hu; rcases hu with rfl | rfl | rfl | rfl | rfl <;> rfl
            case c3 => unfold maxLen; omega
            case c4 => omega
            case c5 => exact hb3.size
            · intro v' w' hown' hgrow _
              have hb' : Below w.heap.size w w' := hb3.grown hgrow hb3.size (fun g hg => ((hown2.lt) g hg).1)
              clear hown2 hgrow hb3 Hc Hl hb2B
              go_wp2
              go_roundw
              case rel => first | exact ⟨1, by omega, rfl, by simpa [upTo] using hown', hb'⟩ | ((repeat apply Exists.intro); exact ⟨⟨1, by omega, rfl, by simpa [upTo] using hown', hb'⟩, rfl⟩)
              case measure => simp [intOf]
        · obtain rfl : m = 1 := by omega
          clear hm hge
          have hown1 : wr.ownsRow w.heap.size 34 5 u3 l.length (l.flatMap svCells) := by simpa [upTo] using hown
          clear hown
          go_wp2_with fail
          go_roundw
          case rel => exact ⟨1, by omega, rfl, by simpa [upTo] using hown1, hb1⟩
          case measure => simp [intOf]
    · obtain rfl : k = 1 := by omega
      clear hk hge
      have hown1 : wr.ownsRow w.heap.size 34 5 u3 l.length (l.flatMap svCells) := by simpa [upTo] using hown
      clear hown
      go_wp2_with fail
      go_ret
      exact ⟨_, rfl, Sl.of_own hown1, hb⟩

end Go.Proofs.YtdanlcciefbboaaGreat
namespace Go.Proofs.YtdanlcciefbboaaGreat
open Go.RowKit
attribute [local go_sem] run_store_float

def unsure (a : SV) : Bool := a.1 == 6

theorem any_take_succ {l : List SV} {k : Nat} {a : SV} (ha : l[k]? = some a) : (l.take (k + 1)).any unsure = ((l.take k).any unsure || unsure a) := by
  rw [List.take_add_one, ha]; simp
theorem any_hit {l : List SV} {k : Nat} {a : SV} (ha : l[k]? = some a) (h : unsure a = true) : l.any unsure = true := by
  rw [List.any_eq_true]; exact ⟨a, List.mem_of_getElem? ha, h⟩

set_option maxHeartbeats 400000 in
/-- doubtful of a matrix of one row of flat values -/
theorem doubtful_table (l : List SV) (rb ro rc : Nat) (A : Option Addr) (c' : Nat) (w : World)
    (hrb : rb < w.heap.size) (gr : w.cell? ⟨rb, ro, none⟩ = some (.slice A l.length c'))
    (h : Sl w w.heap.size 5 (.slice A l.length c') l.length (l.flatMap svCells)) (hok : ∀ a ∈ l, a.1 ≠ 5) (hlen : l.length ≤ 1000) :
    Calls Tryz.prog 10 #[.agg #[.int .i64 5, .int .i64 0, .int .i64 0, .string es, .slice (some ⟨rb, ro, none⟩) 1 rc]] w fun e w' => e = .returned (.bool (l.any unsure)) ∧ Below w.heap.size w w' := by
  have HS := hid h
  have HO := hid hok
  clear h hok
  go_enter Tryz.func10, Tryz.ntmps10
  go_wp2_with fail
  have hbl : Below w.heap.size w ((w.alloc (.cells #[.int .i64 5, .int .i64 0, .int .i64 0, .string es, .slice (some ⟨rb, ro, none⟩) 1 rc] 34)).alloc (.cells #[.int .i64 5, .int .i64 0, .int .i64 0, .string es, .slice (some ⟨rb, ro, none⟩) 1 rc] 34)) := ((Below.refl _ _).alloc (Nat.le_refl _) _).alloc (by simp) _
  have hB := Bk.new (w.alloc (.cells #[.int .i64 5, .int .i64 0, .int .i64 0, .string es, .slice (some ⟨rb, ro, none⟩) 1 rc] 34)) 34 #[.int .i64 5, .int .i64 0, .int .i64 0, .string es, .slice (some ⟨rb, ro, none⟩) 1 rc]
  rw [show (w.alloc (.cells #[.int .i64 5, .int .i64 0, .int .i64 0, .string es, .slice (some ⟨rb, ro, none⟩) 1 rc] 34)).heap.size = w.heap.size + 1 by simp] at hB
  obtain ⟨p0, _, _, _, p4, _⟩ := hB.cells5
  have P0 := hid p0
  have P4 := hid p4
  clear p0 p4 hB
  refine (Flat_table l (w.heap.size + 1) 0 _ rb ro rc A c' _ (by simp) P0.out P4.out (by simp; omega) ((hbl.cell (p := ⟨rb, ro, none⟩) hrb).trans gr) ((HS.out.keep hbl).more (by simp; omega)) HO.out hlen).mono ?_
  rintro e wz ⟨v2, rfl, hS2, hb2⟩
  have hbz : Below w.heap.size w wz := Below.lift hbl (by simp; omega) hb2
  clear hb2 hbl P0 P4 HS HO gr hrb
  obtain ⟨A2, c2, rfl, hl2, hc2⟩ := hS2
  have hc := hid hc2
  clear hc2 hl2
  go_wp2_with fail
  go_loop [4] (fun i => ∃ (k : Nat), k ≤ l.length ∧ i = .int .i64 k ∧ (l.take k).any unsure = false) (fun i => l.length - (intOf i).toNat)
  case atStart => exact ⟨0, Nat.zero_le _, rfl, rfl⟩
  case round =>
    obtain ⟨k, hk, rfl, hall⟩ := hrel
    have Hall := hid hall
    clear hall
    by_cases hlt : k < l.length
    · obtain ⟨b', o', rfl, hbB, hcell⟩ := hc.out (by omega)
      obtain ⟨a', ha⟩ : ∃ a', l[k]? = some a' := ⟨l[k], List.getElem?_eq_getElem hlt⟩
      have f := fun j (hj : j < 5) => flat_at svCells 5 svCells_len l k a' j ha hj
      have q0 : wz.cell? ⟨b', o' + k * 5, none⟩ = some (.int .i64 a'.1) := by have := hcell (k * 5 + 0) _ ((f 0 (by omega)).trans rfl); simpa using this
      have hnext := hid (any_take_succ ha)
      have hstop := hid (fun h => any_hit ha h)
      clear f hcell hc ha
      cases hu : unsure a'
      · have hx : (a'.1 == 6) = false := hu
        have hs : Hid ((l.take (k + 1)).any unsure = false) := by show _ = _; rw [hnext.out, Hall.out, hu]; rfl
        clear hu hnext hstop
        go_wp2_with fail
        go_round
        case rel => exact ⟨k + 1, by omega, by go_num, hs.out⟩
        case measure => simp [intOf]; omega
      · have hx : (a'.1 == 6) = true := hu
        have hs := hid (hstop.out hu)
        clear hu hnext hstop
        go_wp2_with fail
        go_ret
        exact ⟨congrArg (fun b => Ending.returned (Value.bool b)) hs.out.symm, hbz⟩
    · have hkl : k = l.length := by omega
      have hall : Hid (l.any unsure = false) := by show _ = _; rw [← Hall.out, hkl, List.take_length]
      clear hkl hc
      go_wp2_with fail
      go_ret
      exact ⟨congrArg (fun b => Ending.returned (Value.bool b)) hall.out.symm, hbz⟩

set_option maxHeartbeats 400000 in
/-- doubtful of a flat value -/
theorem doubtful_flat (a : SV) (w : World) (h5 : a.1 ≠ 5) :
    Calls Tryz.prog 10 #[svV a] w fun e w' => e = .returned (.bool ([a].any unsure)) ∧ Below w.heap.size w w' := by
  obtain ⟨l, hl⟩ : ∃ l, l = [a] := ⟨_, rfl⟩
  have hlen : l.length = 1 := by rw [hl]; rfl
  rw [← hl]
  have HL := hid hl
  have Hlen := hid hlen
  have H5 := hid h5
  clear hl hlen h5
  unfold svV sv
  go_enter Tryz.func10, Tryz.ntmps10
  go_wp2_with fail
  have hbl : Below w.heap.size w ((w.alloc (.cells #[.int .i64 a.1, .int .i64 a.2.1, .int .i64 a.2.2.1, .string a.2.2.2, .slice none 0 0] 34)).alloc (.cells #[.int .i64 a.1, .int .i64 a.2.1, .int .i64 a.2.2.1, .string a.2.2.2, .slice none 0 0] 34)) := ((Below.refl _ _).alloc (Nat.le_refl _) _).alloc (by simp) _
  have hB := Bk.new (w.alloc (.cells #[.int .i64 a.1, .int .i64 a.2.1, .int .i64 a.2.2.1, .string a.2.2.2, .slice none 0 0] 34)) 34 #[.int .i64 a.1, .int .i64 a.2.1, .int .i64 a.2.2.1, .string a.2.2.2, .slice none 0 0]
  rw [show (w.alloc (.cells #[.int .i64 a.1, .int .i64 a.2.1, .int .i64 a.2.2.1, .string a.2.2.2, .slice none 0 0] 34)).heap.size = w.heap.size + 1 by simp] at hB
  have hS := Sl.lit (n := 1) (sz := 5) hB 1 rfl
  have HS := hid (hS.cast Hlen.out.symm (show _ = l.flatMap svCells by rw [HL.out]; rfl))
  clear hS hB
  refine (Flat_flat l _ _ HS.out (by rw [HL.out]; intro x hx; simp at hx; rw [hx]; exact H5.out) (by rw [Hlen.out]; omega)).mono ?_
  rintro e wz ⟨v2, rfl, hS2, hb2, _⟩
  have hbz : Below w.heap.size w wz := Below.lift hbl (by simp; omega) hb2
  clear hb2 hbl HS
  obtain ⟨A2, c2, rfl, hl2, hc2⟩ := hS2
  have hc := hid hc2
  have hlen : l.length ≤ 1000 := by rw [Hlen.out]; omega
  clear hc2 hl2
  go_wp2_with fail
  go_loop [4] (fun i => ∃ (k : Nat), k ≤ l.length ∧ i = .int .i64 k ∧ (l.take k).any unsure = false) (fun i => l.length - (intOf i).toNat)
  case atStart => exact ⟨0, Nat.zero_le _, rfl, rfl⟩
  case round =>
    obtain ⟨k, hk, rfl, hall⟩ := hrel
    have Hall := hid hall
    clear hall
    by_cases hlt : k < l.length
    · obtain ⟨b', o', rfl, hbB, hcell⟩ := hc.out (by omega)
      obtain ⟨a', ha⟩ : ∃ a', l[k]? = some a' := ⟨l[k], List.getElem?_eq_getElem hlt⟩
      have f := fun j (hj : j < 5) => flat_at svCells 5 svCells_len l k a' j ha hj
      have q0 : wz.cell? ⟨b', o' + k * 5, none⟩ = some (.int .i64 a'.1) := by have := hcell (k * 5 + 0) _ ((f 0 (by omega)).trans rfl); simpa using this
      have hnext := hid (any_take_succ ha)
      have hstop := hid (fun h => any_hit ha h)
      clear f hcell hc ha
      cases hu : unsure a'
      · have hx : (a'.1 == 6) = false := hu
        have hs : Hid ((l.take (k + 1)).any unsure = false) := by show _ = _; rw [hnext.out, Hall.out, hu]; rfl
        clear hu hnext hstop
        go_wp2_with fail
        go_round
        case rel => exact ⟨k + 1, by omega, by go_num, hs.out⟩
        case measure => simp [intOf]; omega
      · have hx : (a'.1 == 6) = true := hu
        have hs := hid (hstop.out hu)
        clear hu hnext hstop
        go_wp2_with fail
        go_ret
        exact ⟨congrArg (fun b => Ending.returned (Value.bool b)) hs.out.symm, hbz⟩
    · have hkl : k = l.length := by omega
      have hall : Hid (l.any unsure = false) := by show _ = _; rw [← Hall.out, hkl, List.take_length]
      clear hkl hc
      go_wp2_with fail
      go_ret
      exact ⟨congrArg (fun b => Ending.returned (Value.bool b)) hall.out.symm, hbz⟩
end Go.Proofs.YtdanlcciefbboaaGreat
