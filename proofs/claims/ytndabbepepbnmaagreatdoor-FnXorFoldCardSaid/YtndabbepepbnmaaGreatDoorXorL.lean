import Derived.Test.YtndabbepepbnmaaGreatDoorXor
import Derived.Test.YtndabbepepbnmaaGreatDoorSaidBase
namespace Go.Proofs.YtndabbepepbnmaaGreatDoor
open Go.RowKit
attribute [local go_sem] run_store_float

set_option maxRecDepth 100000 in
theorem Fn_XOR (l : List Bool) (hl0 : 1 ≤ l.length) (hl : l.length ≤ 1000) : Fn 103 ((l.map svb).map avOf) (.log (tv (xorL l))) := by
  intro w g L el h
  rw [map_svb] at h
  have hlm : (l.map fun b => Value.iface 78 (fa (tv b) es true es 1)).length = l.length := List.length_map ..
  have H := hid h
  have Hlm := hid hlm
  have h1 : ¬ ((l.length : Int) < 1) := by omega
  clear h hlm
  go_enter Tryz.func103, Tryz.ntmps103
  go_wp2_with fail
  refine (len_any (H.out.keep ((Below.refl _ _).alloc (Nat.le_refl _) _))).mono ?_
  rintro e w1 ⟨rfl, rfl⟩
  rw [Hlm.out]
  go_wp2_with fail
  refine (calcXor_list l hl0 hl _ L el (H.out.keep ((Below.refl _ _).alloc (Nat.le_refl _) _))).mono ?_
  rintro e w1 ⟨rfl, hb1⟩
  have hB1 := Bk.below (Bk.new w 78 #[.string ⟨#[]⟩, .float .f64 0, .string ⟨#[]⟩, .slice none 0 0, .slice none 0 0, .bool false, .string ⟨#[]⟩, .int .u8 0, .pointer none, .pointer none]) hb1 (by simp)
  have hd1 : Below w.heap.size w w1 := Below.lift ((Below.refl _ _).alloc (Nat.le_refl _) _) (by simp) hb1
  have hz1 : w.heap.size < w1.heap.size := by have := hb1.size; simp at this; omega
  obtain ⟨q0, q1, q2, q3, q4, q5, q6, q7, q8, q9, qf⟩ := hB1.cells10
  clear hb1
  unfold fa
  go_wp2_with fail
  exact end_cell Tryz.results103 rfl (Bk.set10 hB1 _ _ _ _ _ _ _ _ _ _) Tryz.underlying78 rfl info_fa rfl
    ⟨rfl, Below.set10 hd1 (Nat.le_refl _) _ _ _ _ _ _ _ _ _ _⟩

theorem add_block' (p : Addr) (k : Nat) : (p.add k).block = p.block := by unfold Addr.add; split <;> rfl
theorem infos_sv : (Tryz.prog.info? 24).map (fun i => (i.zero, i.size, i.bytes)) = some (some (.agg #[.int .i64 0, .int .i64 0, .int .i64 0, .string ⟨#[]⟩, .slice none 0 0]), 5, 64) := by kernel_rfl

set_option maxHeartbeats 400000 in
theorem argTruths_any (l : List Bool) (p : Addr) (c : Nat) (w : World) (hl0 : 1 ≤ l.length) (hp : p.block < w.heap.size) (hc : ∀ k b, l[k]? = some b → w.cell? (p.add k) = some (.bool b)) (hlen : l.length ≤ 1000) :
    Calls Tryz.prog 21 #[.slice (some p) l.length c] w fun e w' => ∃ g cap, e = .returned (.slice (some ⟨g, 0, none⟩) l.length cap) ∧ l.length ≤ cap ∧ cap ≤ maxLen ∧ g < w'.heap.size ∧
      (∀ j u, ((l.map svb).flatMap svCells)[j]? = some u → w'.cell? ⟨g, j, none⟩ = some u) ∧ Below w.heap.size w w' := by
  obtain ⟨i0, hi, hz0, hz1, hz2⟩ := info_parts infos_sv
  go_enter Tryz.func21, Tryz.ntmps21
  go_wp2_with fail
  go_loopw [3, 4] (fun u i wr => ∃ (k : Nat), k ≤ l.length ∧ i = .int .i64 k ∧ wr.ownsRow w.heap.size 24 5 u k (((l.map svb).take k).flatMap svCells) ∧ Below w.heap.size w wr) (fun _ i _ => l.length - (intOf i).toNat)
  case atStart => exact ⟨0, Nat.zero_le _, rfl, World.ownsRow_nil _ _ _ _, Below.refl _ _⟩
  case round =>
    obtain ⟨k, hk, rfl, hown, hb⟩ := hrel
    by_cases hlt : k < l.length
    · obtain ⟨a, ha⟩ : ∃ a, l[k]? = some a := ⟨l[k], List.getElem?_eq_getElem hlt⟩
      have g0 : wr.cell? (p.add k) = some (.bool a) := (hb.cell (p := p.add k) (by rw [add_block']; exact hp)).trans (hc k a ha)
      have hmap : Hid (((l.map svb).take (k + 1)).flatMap svCells = ((l.map svb).take k).flatMap svCells ++ svCells (svb a)) := hid (flat_take svCells (l.map svb) k (svb a) (by rw [List.getElem?_map, ha]; rfl))
      clear ha
      go_wp2_with fail
      refine (bool_any a _).mono ?_
      rintro e w2 ⟨rfl, hb2⟩
      have hown2 : w2.ownsRow w.heap.size 24 5 _ k (((l.map svb).take k).flatMap svCells) := own_keep hown hb2
      have hb3 : Below w.heap.size w w2 := Below.lift hb hb.size hb2
      have hw2 := hb3.size
      unfold sv
      go_wp2_with (at_builtin; refine wpList_append_own _ rfl _ _ 28 rfl w.heap.size 24 i0 _ 5 64 Tryz.underlying28 hi hz0 hz1 hz2 rfl (by decide) _ _ _ rfl (hown2.alloc _) ⟨w2.heap.size, 0, none⟩ 1 1 (svCells (svb a)) rfl rfl ?c1 ?c2 ?c3 ?c4 ?c5 ?_)
      case c1 =>
        intro j u hj
        have : svCells (svb a) = [.int .i64 3, .int .i64 (b2i a), .int .i64 0, .string es, .slice none 0 0] := rfl
        rw [this] at hj
        rw [add_mid, Nat.zero_add, (Bk.new _ _ _).cell]
        simpa using hj
      case c2 => intro u hu; simp [svCells] at hu; rcases hu with rfl | rfl | rfl | rfl | rfl <;> rfl
      case c3 => unfold maxLen; omega
      case c4 => omega
      case c5 => have := hb3.size; simp; omega
      · intro v' w' hown' hgrow _
        have hb' : Below w.heap.size w w' := (hb3.alloc hw2 _).grown hgrow (by simp; omega) (fun g hg => ((hown2.lt) g hg).1)
        rw [← hmap.out] at hown'
        clear hown hown2 hgrow hb hb2 hb3 g0
        go_wp2
        go_roundw
        case rel => exact ⟨k + 1, by omega, by go_num, hown', hb'⟩
        case measure => simp [intOf]; omega
    · have hkl : k = l.length := by omega
      have hkm : Hid ((l.map svb).take k = l.map svb) := by show _ = _; rw [hkl, ← List.length_map (f := svb), List.take_length]
      subst hkl
      rw [hkm.out] at hown
      clear hkm
      go_wp2
      go_ret
      rcases hown.2 with ⟨_, h0⟩ | ⟨g, cap, cur, rfl, hg, hh, hr, hm, _⟩
      · exact absurd h0 (by omega)
      · refine ⟨g, cap, rfl, hr, hm, (Array.getElem?_eq_some_iff.1 hh).1, fun j u hu => ?_, hb⟩
        have := hown.cells (g := g) rfl j u hu
        rw [add_mid, Nat.zero_add] at this; exact this
end Go.Proofs.YtndabbepepbnmaaGreatDoor
