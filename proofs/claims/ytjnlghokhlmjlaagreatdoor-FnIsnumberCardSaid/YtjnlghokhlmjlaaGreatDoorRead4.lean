import Derived.Test.YtjnlghokhlmjlaaGreatDoorRead3
import Derived.Test.YtjnlghokhlmjlaaGreatDoorFix2
import Derived.Test.YtjnlghokhlmjlaaGreatDoorDig
namespace Go.Proofs.YtjnlghokhlmjlaaGreatDoor
open Go.RowKit
attribute [local go_sem] run_store_float

/-- a number, whole or not, or nothing said, or no number -/
def Seen (v : SV) : Prop := (v = (6, 0, 0, es) ∨ v = (4, 0, 0, valS) ∨ ∃ a d : Int, v = (1, a, d, es) ∧ (d == 1) = false) ∨ ∃ a : Int, v = (1, a, 1, es) ∧ -99999999999 ≤ a ∧ a ≤ 99999999999
theorem seen_of {v : SV} (h : OkNum v ∨ Odd6 v) : Seen v := by
  rcases h with (h | ⟨a, d, h, hd, h1, h2⟩) | h | h
  · exact .inl (.inl h)
  · rcases hd with rfl | hd
    · exact .inr ⟨a, h, h1, h2⟩
    · exact .inl (.inr (.inr ⟨a, d, h, by rw [beq_eq_false_iff_ne]; omega⟩))
  · exact .inl (.inl h)
  · exact .inl (.inr (.inl h))

theorem isWhole_no (k n d : Int) (t : ByteArray) (w : World) (h : (k == 1) = false ∨ (d == 1) = false) : Calls Tryz.prog 176 #[sv k n d t] w fun e w' => e = .returned (.bool false) ∧ Below w.heap.size w w' := by
  unfold sv
  rcases h with h | h
  · go_enter Tryz.func176, Tryz.ntmps176
    go_wp2_with fail
    go_ret
    exact ⟨rfl, (Below.refl _ _).alloc (Nat.le_refl _) _⟩
  · by_cases hk : (k == 1) = true
    · go_enter Tryz.func176, Tryz.ntmps176
      go_wp2_with fail
      go_ret
      exact ⟨rfl, (Below.refl _ _).alloc (Nat.le_refl _) _⟩
    · have hk' : (k == 1) = false := by simpa using hk
      clear hk
      go_enter Tryz.func176, Tryz.ntmps176
      go_wp2_with fail
      go_ret
      exact ⟨rfl, (Below.refl _ _).alloc (Nat.le_refl _) _⟩
theorem isWhole_yes (n : Int) (t : ByteArray) (w : World) : Calls Tryz.prog 176 #[sv 1 n 1 t] w fun e w' => e = .returned (.bool true) ∧ Below w.heap.size w w' := by
  unfold sv
  go_enter Tryz.func176, Tryz.ntmps176
  go_wp2_with fail
  go_ret
  exact ⟨rfl, (Below.refl _ _).alloc (Nat.le_refl _) _⟩

theorem abs_fix (n : Int) (w : World) (h1 : -99999999999 ≤ n) (h2 : n ≤ 99999999999) : Calls Tryz.prog 242 #[.int .i64 n] w fun e w' => e = .returned (.int .i64 (n.natAbs : Int)) ∧ w = w' := by
  by_cases h0 : 0 ≤ n
  · have e : Hid ((n.natAbs : Int) = n) := by show _ = _; omega
    go_enter Tryz.func242, Tryz.ntmps242
    go_wp2_with fail
    go_ret
    exact ⟨by rw [e.out]; first | rfl | (congr 2; omega), rfl⟩
  · have e : Hid ((n.natAbs : Int) = -n) := by show _ = _; omega
    go_enter Tryz.func242, Tryz.ntmps242
    go_wp2_with fail
    go_ret
    exact ⟨by rw [e.out]; first | rfl | (congr 2; omega), rfl⟩

theorem same_fix (v : SV) (hv : Odd6 v) : ∃ b : Bool, ∀ w, Calls Tryz.prog 17 #[svV v, sv 4 0 0 valS] w fun e w' => e = .returned (.bool b) ∧ Below w.heap.size w w' := by
  rcases hv with rfl | rfl
  · refine ⟨false, fun w => ?_⟩
    unfold svV sv
    go_enter Tryz.func17, Tryz.ntmps17
    go_wp2_with fail
    go_ret
    exact ⟨rfl, ((Below.refl _ _).alloc (Nat.le_refl _) _).alloc (by simp) _⟩
  · exact ⟨true, fun w => self_yes (4, 0, 0, valS) w⟩

theorem letters_fix (s : ByteArray) (hs : s.size ≤ 1000) : ∃ b : Bool, ∀ w, Calls Tryz.prog 170 #[.string s] w fun e w' => e = .returned (.bool b) ∧ Below w.heap.size w w' := by
  obtain ⟨v, hv, ho⟩ := other_fix s hs
  obtain ⟨b, hb⟩ := same_fix v hv
  have HO := hid ho
  have HB := hid hb
  clear ho hb
  refine ⟨b, fun w => ?_⟩
  go_enter Tryz.func170, Tryz.ntmps170
  go_wp2_with fail
  refine (HO.out _).mono ?_
  rintro e w1 ⟨rfl, hb1⟩
  go_wp2_with fail
  refine (err_any _ _).mono ?_
  rintro e w2 ⟨rfl, hb2⟩
  have hd2 := Below.lift hb1 hb1.size hb2
  clear hb1 hb2
  go_wp2_with fail
  refine (HB.out _).mono ?_
  rintro e w3 ⟨rfl, hb3⟩
  go_wp2_with fail
  go_ret
  exact ⟨rfl, Below.lift hd2 hd2.size hb3⟩
end Go.Proofs.YtjnlghokhlmjlaaGreatDoor
