import Derived.Test.YtjnlghokhlmjlaaGreatDoorOf
namespace Go.Proofs.YtjnlghokhlmjlaaGreatDoor
open Go.RowKit
attribute [local go_sem] run_store_float

theorem numeric_yes (k n d : Int) (t : ByteArray) (w : World) (h : k = 1 ∨ k = 3) : Calls Tryz.prog 152 #[sv k n d t] w fun e w' => e = .returned (.bool true) ∧ Below w.heap.size w w' := by
  unfold sv
  rcases h with rfl | rfl
  all_goals
    go_enter Tryz.func152, Tryz.ntmps152
    go_wp2_with fail
    go_ret
    exact ⟨rfl, (Below.refl _ _).alloc (Nat.le_refl _) _⟩
theorem numeric_no (k n d : Int) (t : ByteArray) (w : World) (h1 : (k == 1) = false) (h2 : (k == 2) = false) (h3 : (k == 3) = false) : Calls Tryz.prog 152 #[sv k n d t] w fun e w' => e = .returned (.bool false) ∧ Below w.heap.size w w' := by
  unfold sv
  go_enter Tryz.func152, Tryz.ntmps152
  go_wp2_with fail
  go_ret
  exact ⟨rfl, (Below.refl _ _).alloc (Nat.le_refl _) _⟩

/-- every over values of each of which the function f says p -/
theorem every_numeric (l : List SV) (p : SV → Bool) (v : Value) (w : World) (h : Sl w w.heap.size 5 v l.length (l.flatMap svCells)) (hlen : l.length ≤ 1000)
    (hf : ∀ a ∈ l, ∀ W, Calls Tryz.prog 152 #[svV a] W fun e w' => e = .returned (.bool (p a)) ∧ Below W.heap.size W w') :
    Calls Tryz.prog 151 #[v, .func (.func 152) #[] #[]] w fun e w' => e = .returned (.bool (l.all p)) ∧ Below w.heap.size w w' := by
  obtain ⟨A, c, rfl, hl, hc⟩ := h
  clear hl
  have HF := hid hf
  clear hf
  go_enter Tryz.func151, Tryz.ntmps151
  go_wp2_with fail
  go_loopw [5] (fun i wr => ∃ (k : Nat), k ≤ l.length ∧ i = .int .i64 k ∧ (l.take k).all p = true ∧ Below w.heap.size w wr) (fun i _ => l.length - (intOf i).toNat)
  case atStart => exact ⟨0, Nat.zero_le _, rfl, rfl, Below.refl _ _⟩
  case round =>
    obtain ⟨k, hk, rfl, hall, hb⟩ := hrel
    have Hall := hid hall
    clear hall
    by_cases hlt : k < l.length
    · obtain ⟨b, o, rfl, hbB, hcell⟩ := hc (by omega)
      obtain ⟨a, ha⟩ : ∃ a, l[k]? = some a := ⟨l[k], List.getElem?_eq_getElem hlt⟩
      have f := fun j (hj : j < 5) => flat_at svCells 5 svCells_len l k a j ha hj
      have g0 : wr.cell? ⟨b, o + k * 5, none⟩ = some (.int .i64 a.1) := (hb.cell (p := ⟨b, o + k * 5, none⟩) hbB).trans (by have := hcell (k * 5 + 0) _ ((f 0 (by omega)).trans rfl); simpa using this)
      have g1 : wr.cell? ⟨b, o + k * 5 + 1, none⟩ = some (.int .i64 a.2.1) := (hb.cell (p := ⟨b, o + k * 5 + 1, none⟩) hbB).trans (hcell (k * 5 + 1) _ ((f 1 (by omega)).trans rfl))
      have g2 : wr.cell? ⟨b, o + k * 5 + 2, none⟩ = some (.int .i64 a.2.2.1) := (hb.cell (p := ⟨b, o + k * 5 + 2, none⟩) hbB).trans (hcell (k * 5 + 2) _ ((f 2 (by omega)).trans rfl))
      have g3 : wr.cell? ⟨b, o + k * 5 + 3, none⟩ = some (.string a.2.2.2) := (hb.cell (p := ⟨b, o + k * 5 + 3, none⟩) hbB).trans (hcell (k * 5 + 3) _ ((f 3 (by omega)).trans rfl))
      have g4 : wr.cell? ⟨b, o + k * 5 + 4, none⟩ = some (.slice none 0 0) := (hb.cell (p := ⟨b, o + k * 5 + 4, none⟩) hbB).trans (hcell (k * 5 + 4) _ ((f 4 (by omega)).trans rfl))
      have hmem : Hid (a ∈ l) := hid (List.mem_of_getElem? ha)
      have hnext : Hid ((l.take (k + 1)).all p = ((l.take k).all p && p a)) := by
        show _ = _
        rw [List.take_add_one, ha]; simp
      have hstop : Hid (p a = false → l.all p = false) := fun hp => by
        rw [List.all_eq_false]; exact ⟨a, hmem.out, by simp [hp]⟩
      clear f hcell hc ha
      go_wp2_with fail
      refine (HF.out a hmem.out _).mono ?_
      rintro e w2 ⟨rfl, hb2⟩
      have hb3 : Below w.heap.size w w2 := Below.lift hb hb.size hb2
      clear hb hb2 g0 g1 g2 g3 g4
      cases hp : p a
      · have hs := hid (hstop.out hp)
        clear hp hnext hstop
        go_wp2_with fail
        go_ret
        exact ⟨congrArg (fun b => Ending.returned (Value.bool b)) hs.out.symm, hb3⟩
      · have hs : Hid ((l.take (k + 1)).all p = true) := by show _ = _; rw [hnext.out, Hall.out, hp]; rfl
        clear hp hnext hstop
        go_wp2_with fail
        go_roundw
        case rel => exact ⟨k + 1, by omega, by go_num, hs.out, hb3⟩
        case measure => simp [intOf]; omega
    · have hkl : k = l.length := by omega
      have hall : Hid (l.all p = true) := by show _ = _; rw [← Hall.out, hkl, List.take_length]
      clear hkl hc
      go_wp2_with fail
      go_ret
      exact ⟨congrArg (fun b => Ending.returned (Value.bool b)) hall.out.symm, hb⟩
end Go.Proofs.YtjnlghokhlmjlaaGreatDoor
