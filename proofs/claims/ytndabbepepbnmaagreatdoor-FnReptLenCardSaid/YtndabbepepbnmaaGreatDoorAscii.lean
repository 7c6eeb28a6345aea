import Derived.Test.YtndabbepepbnmaaGreatDoorSpec
import Derived.Lib.Strings
namespace Go.Proofs.YtndabbepepbnmaaGreatDoor
open Go.RowKit

def Plain (s : ByteArray) : Prop := ∀ (j : Nat) (b : UInt8), s.data.toList[j]? = some b → 32 ≤ b.toNat ∧ b.toNat ≤ 126

theorem ascii_any (s : ByteArray) (w : World) (hs : s.size ≤ 2147483647) :
    Calls Tryz.prog 47 #[.string s] w fun e w' => (e = .returned (.bool false) ∨ (e = .returned (.bool true) ∧ Plain s)) ∧ w = w' := by
  go_enter Tryz.func47, Tryz.ntmps47
  go_wp2
  go_loop [3] (fun i => ∃ k : Nat, k ≤ s.size ∧ i = .int .i64 k ∧ Hid (∀ (j : Nat) (b : UInt8), j < k → s.data.toList[j]? = some b → 32 ≤ b.toNat ∧ b.toNat ≤ 126)) (fun i => s.size - (intOf i).toNat)
  case atStart => exact ⟨0, Nat.zero_le _, rfl, fun j b hj => absurd hj (by omega)⟩
  case round =>
    obtain ⟨k, hk, rfl, hall⟩ := hrel
    by_cases hlt : k < s.size
    · have hb : Hid (s.data.toList[k]? = some (s[k]'hlt)) := by
        show _ = _
        rw [Array.getElem?_toList]
        exact Array.getElem?_eq_getElem hlt
      by_cases h1 : ((s[k]'hlt).toNat : Int) < 32
      · go_wp2
        go_ret
        exact ⟨.inl rfl, rfl⟩
      by_cases h2 : (126 : Int) < ((s[k]'hlt).toNat : Int)
      · go_wp2
        go_ret
        exact ⟨.inl rfl, rfl⟩
      · go_wp2
        go_round
        case rel =>
          refine ⟨k + 1, by omega, by go_num, fun j b hj hjb => ?_⟩
          by_cases hjk : j = k
          · subst hjk
            rw [hb.out] at hjb
            injection hjb with hjb
            subst hjb
            omega
          · exact hall.out j b (by omega) hjb
        case measure => simp [intOf]; omega
    · have hke : k = s.size := by omega
      subst hke
      go_wp2
      go_ret
      refine ⟨.inr ⟨rfl, fun j b hjb => hall.out j b ?_ hjb⟩, rfl⟩
      have := (List.getElem?_eq_some_iff.1 hjb).1
      rwa [Array.length_toList] at this

theorem short_yes (s : ByteArray) (b : Nat) (c : Nat) (w : World) (hc : w.cell? ⟨b, 0, none⟩ = some (.string s)) (hs : s.size ≤ 1000) :
    Calls Tryz.prog 46 #[.slice (some ⟨b, 0, none⟩) 1 c] w fun e w' => e = .returned (.bool true) ∧ w = w' := by
  go_enter Tryz.func46, Tryz.ntmps46
  go_wp2
  go_loop [3] (fun i => i = .int .i64 0 ∨ i = .int .i64 1) (fun i => 1 - (intOf i).toNat)
  case atStart => exact .inl rfl
  case round =>
    rcases hrel with rfl | rfl
    · go_wp2
      go_round
      case rel => exact .inr rfl
      case measure => decide
    · go_wp2
      go_ret
      exact ⟨rfl, rfl⟩
theorem short_no (s : ByteArray) (b : Nat) (c : Nat) (w : World) (hc : w.cell? ⟨b, 0, none⟩ = some (.string s)) (hs : 1000 < s.size) :
    Calls Tryz.prog 46 #[.slice (some ⟨b, 0, none⟩) 1 c] w fun e w' => e = .returned (.bool false) ∧ w = w' := by
  go_enter Tryz.func46, Tryz.ntmps46
  go_wp2
  go_loop [3] (fun i => i = .int .i64 0) (fun i => 1 - (intOf i).toNat)
  case atStart => rfl
  case round =>
    obtain rfl := hrel
    go_wp2
    go_ret
    exact ⟨rfl, rfl⟩
end Go.Proofs.YtndabbepepbnmaaGreatDoor
