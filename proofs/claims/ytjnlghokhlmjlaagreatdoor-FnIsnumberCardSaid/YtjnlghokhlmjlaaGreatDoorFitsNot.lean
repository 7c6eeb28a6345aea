import Derived.Test.YtjnlghokhlmjlaaGreatDoorEvery
import Derived.Test.YtjnlghokhlmjlaaGreatDoorMiss
namespace Go.Proofs.YtjnlghokhlmjlaaGreatDoor
open Go.RowKit
attribute [local go_sem] run_store_float

set_option maxRecDepth 100000 in
theorem fitsChoices_NOT_yes (b o c : Nat) (k : Int) (w : World) (h : k = 1 ∨ k = 3) (hb : b < w.heap.size) (g0 : w.cell? ⟨b, o, none⟩ = some (.int .i64 k)) :
    Calls Tryz.prog 71 #[.string ⟨#[78, 79, 84]⟩, .slice (some ⟨b, o, none⟩) 1 c] w fun e w' => e = .returned (.tuple #[.bool true, .bool true]) ∧ Below w.heap.size w w' := by
  rcases h with rfl | rfl
  all_goals
    go_enter Tryz.func71, Tryz.ntmps71
    go_wp2_with fail
    go_ret2
    exact ⟨rfl, (Below.refl _ _).alloc (Nat.le_refl _) _⟩
set_option maxRecDepth 100000 in
theorem fitsChoices_NOT_no (b o c : Nat) (w : World) (hb : b < w.heap.size) (g0 : w.cell? ⟨b, o, none⟩ = some (.int .i64 6)) :
    Calls Tryz.prog 71 #[.string ⟨#[78, 79, 84]⟩, .slice (some ⟨b, o, none⟩) 1 c] w fun e w' => e = .returned (.tuple #[.bool false, .bool true]) ∧ Below w.heap.size w w' := by
  go_enter Tryz.func71, Tryz.ntmps71
  go_wp2_with fail
  go_ret2
  exact ⟨rfl, (Below.refl _ _).alloc (Nat.le_refl _) _⟩

set_option maxRecDepth 100000 in
/-- fitsNumbers knows no NOT; it asks every argument whether it is numeric ahead of that -/
theorem fitsNumbers_miss_NOT (l : List SV) (p : SV → Bool) (v : Value) (w : World) (h : Sl w w.heap.size 5 v l.length (l.flatMap svCells)) (hlen : l.length ≤ 1000)
    (hf : ∀ a ∈ l, ∀ W, Calls Tryz.prog 152 #[svV a] W fun e w' => e = .returned (.bool (p a)) ∧ Below W.heap.size W w') :
    Calls Tryz.prog 69 #[.string ⟨#[78, 79, 84]⟩, v] w fun e w' => e = .returned (.tuple #[.bool false, .bool false]) ∧ Below w.heap.size w w' := by
  have HV := hid h
  obtain ⟨A, c, rfl, hl, hc⟩ := h
  have HF := hid hf
  clear hf hl hc
  go_enter Tryz.func69, Tryz.ntmps69
  go_wp2_with fail
  refine (every_numeric l p _ w HV.out hlen HF.out).mono ?_
  rintro e w1 ⟨rfl, hb⟩
  go_wp2_with fail
  go_ret2
  exact ⟨rfl, hb⟩
set_option maxRecDepth 100000 in
/-- fitsNumbers knows no IFS; it asks every argument whether it is numeric ahead of that -/
theorem fitsNumbers_miss_IFS (l : List SV) (p : SV → Bool) (v : Value) (w : World) (h : Sl w w.heap.size 5 v l.length (l.flatMap svCells)) (hlen : l.length ≤ 1000)
    (hf : ∀ a ∈ l, ∀ W, Calls Tryz.prog 152 #[svV a] W fun e w' => e = .returned (.bool (p a)) ∧ Below W.heap.size W w') :
    Calls Tryz.prog 69 #[.string ⟨#[73, 70, 83]⟩, v] w fun e w' => e = .returned (.tuple #[.bool false, .bool false]) ∧ Below w.heap.size w w' := by
  have HV := hid h
  obtain ⟨A, c, rfl, hl, hc⟩ := h
  have HF := hid hf
  clear hf hl hc
  go_enter Tryz.func69, Tryz.ntmps69
  go_wp2_with fail
  refine (every_numeric l p _ w HV.out hlen HF.out).mono ?_
  rintro e w1 ⟨rfl, hb⟩
  go_wp2_with fail
  go_ret2
  exact ⟨rfl, hb⟩
set_option maxRecDepth 100000 in
/-- fitsNumbers knows no ISNUMBER; it asks every argument whether it is numeric ahead of that -/
theorem fitsNumbers_miss_ISNUMBER (l : List SV) (p : SV → Bool) (v : Value) (w : World) (h : Sl w w.heap.size 5 v l.length (l.flatMap svCells)) (hlen : l.length ≤ 1000)
    (hf : ∀ a ∈ l, ∀ W, Calls Tryz.prog 152 #[svV a] W fun e w' => e = .returned (.bool (p a)) ∧ Below W.heap.size W w') :
    Calls Tryz.prog 69 #[.string ⟨#[73, 83, 78, 85, 77, 66, 69, 82]⟩, v] w fun e w' => e = .returned (.tuple #[.bool false, .bool false]) ∧ Below w.heap.size w w' := by
  have HV := hid h
  obtain ⟨A, c, rfl, hl, hc⟩ := h
  have HF := hid hf
  clear hf hl hc
  go_enter Tryz.func69, Tryz.ntmps69
  go_wp2_with fail
  refine (every_numeric l p _ w HV.out hlen HF.out).mono ?_
  rintro e w1 ⟨rfl, hb⟩
  go_wp2_with fail
  go_ret2
  exact ⟨rfl, hb⟩
end Go.Proofs.YtjnlghokhlmjlaaGreatDoor
