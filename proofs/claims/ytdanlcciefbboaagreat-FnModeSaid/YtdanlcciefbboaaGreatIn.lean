import Derived.Test.YtdanlcciefbboaaGreatListR
import Derived.Test.YtdanlcciefbboaaGreatMx
namespace Go.Proofs.YtdanlcciefbboaaGreat
open Go.RowKit
attribute [local go_sem] run_store_float

/-- a flat argument: kind, number, text -/
abbrev AV := Int × Nat × ByteArray
def avCells (a : AV) : List Value := [.int .i64 a.1, .float .f64 a.2.1, .string a.2.2, .slice none 0 0]
theorem avCells_len (a : AV) : (avCells a).length = 4 := rfl
def avI (a : AV) : Value := .iface 63 (fav a.1 a.2.1 a.2.2)
/-- an argument that is spoken of: no NaN, no rows -/
def avOk (a : AV) : Prop := (a.1 = 1 → fin a.2.1) ∧ a.1 ≠ 5

set_option maxHeartbeats 400000 in
theorem innerList_any (l : List AV) (v : Value) (w : World) (h : Sl w w.heap.size 4 v l.length (l.flatMap avCells)) (hok : ∀ a ∈ l, avOk a) (hlen : l.length ≤ 1000) :
    Calls Tryz.prog 25 #[v] w fun e w' => ∃ es, e = .returned (ptr w.heap.size) ∧ IsL w' w.heap.size es (l.map avI) ∧ Below w.heap.size w w' := by
  obtain ⟨A, c, rfl, hl, hc⟩ := h
  clear hl
  go_enter Tryz.func25, Tryz.ntmps25
  go_wp2_with fail
  refine (listNew_any _).mono ?_
  rintro e w1 ⟨rfl, hw1⟩
  have hL0 : Bk w1 w.heap.size 107 #[ptr w.heap.size, ptr w.heap.size, .pointer none, .nilIface, .int .i64 0] := by rw [hw1]; exact Bk.new _ _ _
  have hb0 : Below w.heap.size w w1 := by rw [hw1]; exact (Below.refl _ _).alloc (Nat.le_refl _) _
  clear hw1
  go_wp2_with fail
  go_loopw [9] (fun i wr => ∃ (k : Nat) (es : List Nat), k ≤ l.length ∧ i = .int .i64 k ∧ IsL wr w.heap.size es ((l.take k).map avI) ∧ Below w.heap.size w wr) (fun i _ => l.length - (intOf i).toNat)
  case atStart => exact ⟨0, [], Nat.zero_le _, rfl, IsL.nil hL0, hb0⟩
  case round =>
    obtain ⟨k, es, hk, rfl, hL, hb⟩ := hrel
    by_cases hlt : k < l.length
    · obtain ⟨b, o, rfl, hbB, hcell⟩ := hc (by omega)
      obtain ⟨a, ha⟩ : ∃ a, l[k]? = some a := ⟨l[k], List.getElem?_eq_getElem hlt⟩
      have hokA : Hid (avOk a) := hid (hok a (List.mem_of_getElem? ha))
      have f := fun j (hj : j < 4) => flat_at avCells 4 avCells_len l k a j ha hj
      have g0 : wr.cell? ⟨b, o + k * 4, none⟩ = some (.int .i64 a.1) := (hb.cell (p := ⟨b, o + k * 4, none⟩) hbB).trans (by have := hcell (k * 4 + 0) _ ((f 0 (by omega)).trans rfl); simpa using this)
      have g1 : wr.cell? ⟨b, o + k * 4 + 1, none⟩ = some (.float .f64 a.2.1) := (hb.cell (p := ⟨b, o + k * 4 + 1, none⟩) hbB).trans (hcell (k * 4 + 1) _ ((f 1 (by omega)).trans rfl))
      have g2 : wr.cell? ⟨b, o + k * 4 + 2, none⟩ = some (.string a.2.2) := (hb.cell (p := ⟨b, o + k * 4 + 2, none⟩) hbB).trans (hcell (k * 4 + 2) _ ((f 2 (by omega)).trans rfl))
      have g3 : wr.cell? ⟨b, o + k * 4 + 3, none⟩ = some (.slice none 0 0) := (hb.cell (p := ⟨b, o + k * 4 + 3, none⟩) hbB).trans (hcell (k * 4 + 3) _ ((f 3 (by omega)).trans rfl))
      have hmap : Hid ((l.take (k + 1)).map avI = (l.take k).map avI ++ [avI a]) := by
        show _ = _
        rw [List.take_add_one, ha]; simp
      clear f hcell hc hL0 hb0 ha hok
      go_wp2_with fail
      refine (innerArg_any a.1 a.2.1 a.2.2 _ hokA.out.1 hokA.out.2).mono ?_
      rintro e w2 ⟨rfl, hb2⟩
      have hL2 : IsL w2 w.heap.size es ((l.take k).map avI) := hL.keep ((Below.refl wr.heap.size wr).alloc (Nat.le_refl _) _ |>.trans (hb2.mono (by simp)))
      have hb3 : Below w.heap.size w w2 := Below.lift (hb.alloc hb.size _) (by have := hb.size; simp; omega) hb2
      clear hb2 hL hb g0 g1 g2 g3
      go_wp2_with fail
      refine (pushBack_any w.heap.size es _ _ _ w2 hL2 (by simp; omega)).mono ?_
      rintro e w3 ⟨rfl, hL3, hb4, _⟩
      have hb5 : Below w.heap.size w w3 := hb3.trans hb4
      rw [← show avI a = Value.iface 63 (fav a.1 a.2.1 a.2.2) from rfl, ← hmap.out] at hL3
      clear hb3 hb4 hL2
      go_wp2
      go_roundw
      case rel => exact ⟨k + 1, _, by omega, by go_num, hL3, hb5⟩
      case measure => simp [intOf]; omega
    · have hkl : k = l.length := by omega
      have hkm : Hid ((l.take k).map avI = l.map avI) := by show _ = _; rw [hkl, List.take_length]
      rw [hkm.out] at hL
      clear hkl hkm hc hL0 hb0 hok
      go_wp2
      go_ret
      exact ⟨es, rfl, hL, hb⟩
end Go.Proofs.YtdanlcciefbboaaGreat
