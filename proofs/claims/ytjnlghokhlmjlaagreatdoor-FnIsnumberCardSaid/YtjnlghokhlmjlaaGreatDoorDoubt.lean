import Derived.Test.YtjnlghokhlmjlaaGreatDoorFlat
namespace Go.Proofs.YtjnlghokhlmjlaaGreatDoor
open Go.RowKit
attribute [local go_sem] run_store_float

def unsure (a : SV) : Bool := a.1 == 6

theorem any_take_succ {l : List SV} {k : Nat} {a : SV} (ha : l[k]? = some a) : (l.take (k + 1)).any unsure = ((l.take k).any unsure || unsure a) := by
  rw [List.take_add_one, ha]; simp
theorem any_hit {l : List SV} {k : Nat} {a : SV} (ha : l[k]? = some a) (h : unsure a = true) : l.any unsure = true := by
  rw [List.any_eq_true]; exact ⟨a, List.mem_of_getElem? ha, h⟩

set_option maxHeartbeats 400000 in
/-- doubtful of a matrix of one row of flat values -/
theorem doubtful_table (l : List SV) (rb ro rc : Nat) (A : Option Addr) (c' : Nat) (w : World)
    (hrb : rb < w.heap.size) (gr : w.cell? ⟨rb, ro, none⟩ = some (.slice A l.length c'))
    (h : Sl w w.heap.size 5 (.slice A l.length c') l.length (l.flatMap svCells)) (hok : ∀ a ∈ l, a.1 ≠ 5) (hlen : l.length ≤ 1000) :
    Calls Tryz.prog 20 #[.agg #[.int .i64 5, .int .i64 0, .int .i64 0, .string es, .slice (some ⟨rb, ro, none⟩) 1 rc]] w fun e w' => e = .returned (.bool (l.any unsure)) ∧ Below w.heap.size w w' := by
  have HS := hid h
  have HO := hid hok
  clear h hok
  go_enter Tryz.func20, Tryz.ntmps20
  go_wp2_with fail
  have hbl : Below w.heap.size w ((w.alloc (.cells #[.int .i64 5, .int .i64 0, .int .i64 0, .string es, .slice (some ⟨rb, ro, none⟩) 1 rc] 27)).alloc (.cells #[.int .i64 5, .int .i64 0, .int .i64 0, .string es, .slice (some ⟨rb, ro, none⟩) 1 rc] 27)) := ((Below.refl _ _).alloc (Nat.le_refl _) _).alloc (by simp) _
  have hB := Bk.new (w.alloc (.cells #[.int .i64 5, .int .i64 0, .int .i64 0, .string es, .slice (some ⟨rb, ro, none⟩) 1 rc] 27)) 27 #[.int .i64 5, .int .i64 0, .int .i64 0, .string es, .slice (some ⟨rb, ro, none⟩) 1 rc]
  rw [show (w.alloc (.cells #[.int .i64 5, .int .i64 0, .int .i64 0, .string es, .slice (some ⟨rb, ro, none⟩) 1 rc] 27)).heap.size = w.heap.size + 1 by simp] at hB
  obtain ⟨p0, _, _, _, p4, _⟩ := hB.cells5
  have P0 := hid p0
  have P4 := hid p4
  clear p0 p4 hB
  refine (Flat_table l (w.heap.size + 1) 0 _ rb ro rc A c' _ (by simp) P0.out P4.out (by simp; omega) ((hbl.cell (p := ⟨rb, ro, none⟩) hrb).trans gr) ((HS.out.keep hbl).more (by simp; omega)) HO.out hlen).mono ?_
  rintro e wz ⟨v2, rfl, hS2, hb2⟩
  have hbz : Below w.heap.size w wz := Below.lift hbl (by simp; omega) hb2
  clear hb2 hbl P0 P4 HS HO gr hrb
  obtain ⟨A2, c2, rfl, hl2, hc2⟩ := hS2
  have hc := hid hc2
  clear hc2 hl2
  go_wp2_with fail
  go_loop [4] (fun i => ∃ (k : Nat), k ≤ l.length ∧ i = .int .i64 k ∧ (l.take k).any unsure = false) (fun i => l.length - (intOf i).toNat)
  case atStart => exact ⟨0, Nat.zero_le _, rfl, rfl⟩
  case round =>
    obtain ⟨k, hk, rfl, hall⟩ := hrel
    have Hall := hid hall
    clear hall
    by_cases hlt : k < l.length
    · obtain ⟨b', o', rfl, hbB, hcell⟩ := hc.out (by omega)
      obtain ⟨a', ha⟩ : ∃ a', l[k]? = some a' := ⟨l[k], List.getElem?_eq_getElem hlt⟩
      have f := fun j (hj : j < 5) => flat_at svCells 5 svCells_len l k a' j ha hj
      have q0 : wz.cell? ⟨b', o' + k * 5, none⟩ = some (.int .i64 a'.1) := by have := hcell (k * 5 + 0) _ ((f 0 (by omega)).trans rfl); simpa using this
      have hnext := hid (any_take_succ ha)
      have hstop := hid (fun h => any_hit ha h)
      clear f hcell hc ha
      cases hu : unsure a'
      · have hx : (a'.1 == 6) = false := hu
        have hs : Hid ((l.take (k + 1)).any unsure = false) := by show _ = _; rw [hnext.out, Hall.out, hu]; rfl
        clear hu hnext hstop
        go_wp2_with fail
        go_round
        case rel => exact ⟨k + 1, by omega, by go_num, hs.out⟩
        case measure => simp [intOf]; omega
      · have hx : (a'.1 == 6) = true := hu
        have hs := hid (hstop.out hu)
        clear hu hnext hstop
        go_wp2_with fail
        go_ret
        exact ⟨congrArg (fun b => Ending.returned (Value.bool b)) hs.out.symm, hbz⟩
    · have hkl : k = l.length := by omega
      have hall : Hid (l.any unsure = false) := by show _ = _; rw [← Hall.out, hkl, List.take_length]
      clear hkl hc
      go_wp2_with fail
      go_ret
      exact ⟨congrArg (fun b => Ending.returned (Value.bool b)) hall.out.symm, hbz⟩

set_option maxHeartbeats 400000 in
/-- doubtful of a flat value -/
theorem doubtful_flat (a : SV) (w : World) (h5 : a.1 ≠ 5) :
    Calls Tryz.prog 20 #[svV a] w fun e w' => e = .returned (.bool ([a].any unsure)) ∧ Below w.heap.size w w' := by
  obtain ⟨l, hl⟩ : ∃ l, l = [a] := ⟨_, rfl⟩
  have hlen : l.length = 1 := by rw [hl]; rfl
  rw [← hl]
  have HL := hid hl
  have Hlen := hid hlen
  have H5 := hid h5
  clear hl hlen h5
  unfold svV sv
  go_enter Tryz.func20, Tryz.ntmps20
  go_wp2_with fail
  have hbl : Below w.heap.size w ((w.alloc (.cells #[.int .i64 a.1, .int .i64 a.2.1, .int .i64 a.2.2.1, .string a.2.2.2, .slice none 0 0] 27)).alloc (.cells #[.int .i64 a.1, .int .i64 a.2.1, .int .i64 a.2.2.1, .string a.2.2.2, .slice none 0 0] 27)) := ((Below.refl _ _).alloc (Nat.le_refl _) _).alloc (by simp) _
  have hB := Bk.new (w.alloc (.cells #[.int .i64 a.1, .int .i64 a.2.1, .int .i64 a.2.2.1, .string a.2.2.2, .slice none 0 0] 27)) 27 #[.int .i64 a.1, .int .i64 a.2.1, .int .i64 a.2.2.1, .string a.2.2.2, .slice none 0 0]
  rw [show (w.alloc (.cells #[.int .i64 a.1, .int .i64 a.2.1, .int .i64 a.2.2.1, .string a.2.2.2, .slice none 0 0] 27)).heap.size = w.heap.size + 1 by simp] at hB
  have hS := Sl.lit (n := 1) (sz := 5) hB 1 rfl
  have HS := hid (hS.cast Hlen.out.symm (show _ = l.flatMap svCells by rw [HL.out]; rfl))
  clear hS hB
  refine (Flat_flat l _ _ HS.out (by rw [HL.out]; intro x hx; simp at hx; rw [hx]; exact H5.out) (by rw [Hlen.out]; omega)).mono ?_
  rintro e wz ⟨v2, rfl, hS2, hb2, _⟩
  have hbz : Below w.heap.size w wz := Below.lift hbl (by simp; omega) hb2
  clear hb2 hbl HS
  obtain ⟨A2, c2, rfl, hl2, hc2⟩ := hS2
  have hc := hid hc2
  have hlen : l.length ≤ 1000 := by rw [Hlen.out]; omega
  clear hc2 hl2
  go_wp2_with fail
  go_loop [4] (fun i => ∃ (k : Nat), k ≤ l.length ∧ i = .int .i64 k ∧ (l.take k).any unsure = false) (fun i => l.length - (intOf i).toNat)
  case atStart => exact ⟨0, Nat.zero_le _, rfl, rfl⟩
  case round =>
    obtain ⟨k, hk, rfl, hall⟩ := hrel
    have Hall := hid hall
    clear hall
    by_cases hlt : k < l.length
    · obtain ⟨b', o', rfl, hbB, hcell⟩ := hc.out (by omega)
      obtain ⟨a', ha⟩ : ∃ a', l[k]? = some a' := ⟨l[k], List.getElem?_eq_getElem hlt⟩
      have f := fun j (hj : j < 5) => flat_at svCells 5 svCells_len l k a' j ha hj
      have q0 : wz.cell? ⟨b', o' + k * 5, none⟩ = some (.int .i64 a'.1) := by have := hcell (k * 5 + 0) _ ((f 0 (by omega)).trans rfl); simpa using this
      have hnext := hid (any_take_succ ha)
      have hstop := hid (fun h => any_hit ha h)
      clear f hcell hc ha
      cases hu : unsure a'
      · have hx : (a'.1 == 6) = false := hu
        have hs : Hid ((l.take (k + 1)).any unsure = false) := by show _ = _; rw [hnext.out, Hall.out, hu]; rfl
        clear hu hnext hstop
        go_wp2_with fail
        go_round
        case rel => exact ⟨k + 1, by omega, by go_num, hs.out⟩
        case measure => simp [intOf]; omega
      · have hx : (a'.1 == 6) = true := hu
        have hs := hid (hstop.out hu)
        clear hu hnext hstop
        go_wp2_with fail
        go_ret
        exact ⟨congrArg (fun b => Ending.returned (Value.bool b)) hs.out.symm, hbz⟩
    · have hkl : k = l.length := by omega
      have hall : Hid (l.any unsure = false) := by show _ = _; rw [← Hall.out, hkl, List.take_length]
      clear hkl hc
      go_wp2_with fail
      go_ret
      exact ⟨congrArg (fun b => Ending.returned (Value.bool b)) hall.out.symm, hbz⟩
end Go.Proofs.YtjnlghokhlmjlaaGreatDoor
