import Derived.Test.YtdanlcciefbboaaGreatOf
import Derived.Test.YtdanlcciefbboaaGreatImpl
import Derived.Test.YtdanlcciefbboaaGreatDoorM
import Derived.Test.YtdanlcciefbboaaGreatToList
namespace Go.Proofs.YtdanlcciefbboaaGreat
open Go.RowKit

theorem order_zero (n : Int) (k : Nat) (hn : n.natAbs < 9007199254740992) (hk : k ≤ 1000) : FloatKind.f64.format.order (enc n k) 0 = some (compare n 0) := by
  have := order_enc n 0 k hn (by decide) hk
  rwa [enc_zero] at this
theorem enc_one : enc 1 0 = one64 := by decide
theorem order_one : FloatKind.f64.format.order one64 0 = some .gt := by decide
theorem order_zero0 : FloatKind.f64.format.order 0 0 = some .eq := by decide
theorem fin_zero : fin 0 := by show Ieee.double.order 0 0 = some .eq; decide

theorem fnum_whole (n : Int) : fnum (1, n, 1, es) = enc n 0 := by
  unfold fnum
  rw [if_pos rfl]
  show enc n ((1 : Int).toNat.log2) = _
  rw [show ((1 : Int).toNat.log2) = 0 from by decide]
theorem avOf_whole (n : Int) : avOf (1, n, 1, es) = (1, enc n 0, es) := by
  unfold avOf; rw [fnum_whole]
theorem svOk_whole (n : Int) (hn : n.natAbs < 9007199254740992) : svOk (1, n, 1, es) := ⟨fun _ => ⟨0, by omega, rfl, hn⟩, by simp⟩
theorem fav_num (x : Nat) (t : ByteArray) : fav 1 x t = fa (nz x) es false es 1 := by unfold fav; rw [if_pos rfl]
theorem fnum_log (b : Bool) : fnum (3, b2i b, 0, es) = if b then one64 else 0 := by
  unfold fnum
  rw [if_neg (by simp), if_pos rfl]
  cases b
  · exact enc_zero 0
  · exact enc_one
theorem avOf_log (b : Bool) : avOf (3, b2i b, 0, es) = (3, if b then one64 else 0, es) := by
  unfold avOf; rw [fnum_log]
theorem svOk_log (b : Bool) : svOk (3, b2i b, 0, es) := ⟨fun h => absurd h (by simp), by simp⟩
theorem fav_log (b : Bool) (t : ByteArray) : fav 3 (if b then one64 else 0) t = fa (if b then one64 else 0) es true es 1 := by
  cases b
  · simp [fav, order_zero0]
  · simp [fav, order_one]
theorem svOk_str (s : ByteArray) : svOk (2, 0, 0, s) := ⟨fun h => absurd h (by simp), by simp⟩
theorem avOf_str (s : ByteArray) : avOf (2, 0, 0, s) = (2, 0, s) := by
  unfold avOf fnum; rw [if_neg (by simp), if_neg (by simp)]
theorem fav_str (x : Nat) (s : ByteArray) : fav 2 x s = fa 0 s false es 2 := by unfold fav; rw [if_neg (by simp), if_pos rfl]
theorem nz_enc (n : Int) (k : Nat) (hn : n.natAbs < 9007199254740992) (hk : k ≤ 1000) : nz (enc n k) = enc n k := by
  unfold nz
  rw [order_zero n k hn hk]
  by_cases h0 : n = 0
  · subst h0; rw [enc_zero]; simp
  · rw [if_neg]
    intro hh; injection hh with hh; exact h0 (Int.compare_eq_eq.1 hh)
theorem nz_whole (n : Int) (hn : n.natAbs < 9007199254740992) : nz (enc n 0) = enc n 0 := nz_enc n 0 hn (by omega)
theorem test_enc (n : Int) (k : Nat) (hn : n.natAbs < 9007199254740992) (hk : k ≤ 1000) : (FloatKind.f64.format.order (enc n k) 0 != some .eq) = !(n == 0) := by
  rw [order_zero n k hn hk]
  by_cases h0 : n = 0
  · subst h0; rfl
  · have h1 : (n == 0) = false := by simpa using h0
    rw [h1]
    have : compare n 0 ≠ .eq := by intro hh; exact h0 (Int.compare_eq_eq.1 hh)
    simpa using this
theorem test_whole (n : Int) (hn : n.natAbs < 9007199254740992) : (FloatKind.f64.format.order (enc n 0) 0 != some .eq) = !(n == 0) := test_enc n 0 hn (by omega)
/-- a whole number as an argument -/
theorem avI_whole (n : Int) (hn : n.natAbs < 9007199254740992) : avI (avOf (1, n, 1, es)) = .iface 63 (fa (enc n 0) es false es 1) := by
  rw [avOf_whole]; unfold avI; rw [fav_num, nz_whole n hn]
theorem avI_log (b : Bool) : avI (avOf (3, b2i b, 0, es)) = .iface 63 (fa (if b then one64 else 0) es true es 1) := by
  rw [avOf_log]; unfold avI; rw [fav_log]
theorem avI_str (s : ByteArray) : avI (avOf (2, 0, 0, s)) = .iface 63 (fa 0 s false es 2) := by
  rw [avOf_str]; unfold avI; rw [fav_str]

/-! comparisons of whole numbers as floats -/
theorem lt_true {a b : Int} {k : Nat} (ha : a.natAbs < 9007199254740992) (hb : b.natAbs < 9007199254740992) (hk : k ≤ 1000) (h : a < b) : FloatKind.f64.format.order (enc a k) (enc b k) = some .lt := by
  show Ieee.double.order _ _ = _
  rw [order_enc a b k ha hb hk, Int.compare_eq_lt.2 h]
theorem gt_true {a b : Int} {k : Nat} (ha : a.natAbs < 9007199254740992) (hb : b.natAbs < 9007199254740992) (hk : k ≤ 1000) (h : b < a) : FloatKind.f64.format.order (enc a k) (enc b k) = some .gt := by
  show Ieee.double.order _ _ = _
  rw [order_enc a b k ha hb hk, Int.compare_eq_gt.2 h]
theorem eq_true' {a b : Int} {k : Nat} (ha : a.natAbs < 9007199254740992) (hb : b.natAbs < 9007199254740992) (hk : k ≤ 1000) (h : a = b) : FloatKind.f64.format.order (enc a k) (enc b k) = some .eq := by
  show Ieee.double.order _ _ = _
  rw [order_enc a b k ha hb hk, Int.compare_eq_eq.2 h]

theorem mul_whole (a b : Int) (ha : 0 ≤ a) (hb : 0 ≤ b) (ha2 : a.natAbs < 9007199254740992) (hb2 : b.natAbs < 9007199254740992) (hab : a.natAbs * b.natAbs < 9007199254740992) :
    floatBits .mul .f64 (enc a 0) (enc b 0) = some (enc (a * b) 0) := by
  show Ieee.double.mul _ _ = _
  rw [enc_E a, enc_E b, mul_E _ _ _ _ 0 0 ha2 hb2 hab (by omega)]
  have h : 0 ≤ a * b := Int.mul_nonneg ha hb
  have e1 : decide (a < 0) = false := by simp; omega
  have e2 : decide (b < 0) = false := by simp; omega
  have e3 : decide (a * b < 0) = false := by simp; omega
  rw [enc_E, e1, e2, e3, Int.natAbs_mul]; rfl
theorem add_whole (a b : Int) (k : Nat) (ha : a.natAbs < 9007199254740992) (hb : b.natAbs < 9007199254740992) (hab : (a + b).natAbs < 9007199254740992) (hk : k ≤ 1000) :
    floatBits .add .f64 (enc a k) (enc b k) = some (enc (a + b) k) := add_enc a b k ha hb hab hk
theorem sub_whole (a b : Int) (k : Nat) (ha : a.natAbs < 9007199254740992) (hb : b.natAbs < 9007199254740992) (hab : (a - b).natAbs < 9007199254740992) (hk : k ≤ 1000) :
    floatBits .sub .f64 (enc a k) (enc b k) = some (enc (a - b) k) := sub_enc a b k ha hb hab hk
end Go.Proofs.YtdanlcciefbboaaGreat
namespace Go.Proofs.YtdanlcciefbboaaGreat
open Go.RowKit
attribute [local go_sem] run_store_float

theorem IsL.at_ {w : World} {L : Nat} {el : List Nat} {vs : List Value} (h : IsL w L el vs) {i : Nat} {v : Value} (hv : vs[i]? = some v) : ∃ f, el[i]? = some f ∧ f < w.heap.size ∧ w.cell? ⟨f, 3, none⟩ = some v := by
  have hl := h.len
  have hi : i < el.length := by
    rw [hl]
    rcases Nat.lt_or_ge i vs.length with hh | hh
    · exact hh
    · rw [List.getElem?_eq_none hh] at hv; cases hv
  obtain ⟨x, hx, hk⟩ := h.elem i el[i] (List.getElem?_eq_getElem hi)
  rw [hv] at hx; injection hx with hx; subst hx
  exact ⟨el[i], List.getElem?_eq_getElem hi, hk.lt, hk.cell 3⟩

end Go.Proofs.YtdanlcciefbboaaGreat
namespace Go.Proofs.YtdanlcciefbboaaGreat
open Go.RowKit
attribute [local go_sem] run_store_float

/-- element k of a list, or nil behind the last one -/
def elN (el : List Nat) (k : Nat) : Value := match el[k]? with | some g => ptr g | none => .pointer none
theorem front_elN {L : Nat} {el : List Nat} {vs : List Value} {w : World} (h : IsL w L el vs) :
    Calls Tryz.prog 44 #[ptr L] w fun e w' => e = .returned (elN el 0) ∧ w = w' := by
  unfold elN
  cases el with
  | nil =>
    obtain rfl : vs = [] := List.eq_nil_of_length_eq_zero (by rw [← h.len]; rfl)
    exact front_nil h
  | cons f el => exact front_any h rfl
theorem next_elN {L k f : Nat} {el : List Nat} {vs : List Value} {w : World} (h : IsL w L el vs) (hf : el[k]? = some f) :
    Calls Tryz.prog 45 #[ptr f] w fun e w' => e = .returned (elN el (k + 1)) ∧ w = w' := by
  unfold elN
  rcases Nat.lt_or_ge (k + 1) el.length with hlt | hge
  · have h1 : el[k + 1]? = some (el[k + 1]'hlt) := List.getElem?_eq_getElem hlt
    rw [h1]
    exact next_some h hf h1
  · have := (List.getElem?_eq_some_iff.1 hf).1
    rw [List.getElem?_eq_none hge]
    exact next_none h hf (by omega)
/-- a cell that is a number (no truth), not the zero below zero -/
def numAv (a : AV) : Prop := a.1 = 1 ∧ nz a.2.1 = a.2.1
theorem fav_numAv {a : AV} (h : numAv a) : favC a = faL a.2.1 es false es 1 := by
  unfold favC; rw [if_pos h.1, h.2]
end Go.Proofs.YtdanlcciefbboaaGreat
