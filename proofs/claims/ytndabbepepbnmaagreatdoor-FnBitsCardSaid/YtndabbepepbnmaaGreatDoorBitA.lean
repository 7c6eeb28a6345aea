import Derived.Test.YtndabbepepbnmaaGreatDoorTwo
import Derived.Maps.Own
namespace Go.Proofs.YtndabbepepbnmaaGreatDoor
open Go.RowKit
open Go.Maps (Keyed)

/-! the sums of the bits -/
theorem and_add_or : ∀ (n a b : Nat), a < n → (a &&& b) + (a ||| b) = a + b
  | 0, _, _, h => absurd h (by omega)
  | n + 1, a, b, h => by
    by_cases h0 : a = 0
    · subst h0; simp
    · have ih := and_add_or n (a / 2) (b / 2) (by omega)
      have e1 : (a &&& b) / 2 = a / 2 &&& b / 2 := Nat.and_div_two
      have e2 : (a ||| b) / 2 = a / 2 ||| b / 2 := Nat.or_div_two
      have m1 : (a &&& b) % 2 = a % 2 &&& b % 2 := by simpa using Nat.and_mod_two_pow (a := a) (b := b) (n := 1)
      have m2 : (a ||| b) % 2 = a % 2 ||| b % 2 := by simpa using Nat.or_mod_two_pow (a := a) (b := b) (n := 1)
      have ma : a % 2 = 0 ∨ a % 2 = 1 := by omega
      have mb : b % 2 = 0 ∨ b % 2 = 1 := by omega
      have m3 : (a % 2 &&& b % 2) + (a % 2 ||| b % 2) = a % 2 + b % 2 := by
        rcases ma with ma | ma <;> rcases mb with mb | mb <;> rw [ma, mb] <;> decide
      omega
theorem xor_add_and : ∀ (n a b : Nat), a < n → (a ^^^ b) + (a &&& b) = (a ||| b)
  | 0, _, _, h => absurd h (by omega)
  | n + 1, a, b, h => by
    by_cases h0 : a = 0
    · subst h0; simp
    · have ih := xor_add_and n (a / 2) (b / 2) (by omega)
      have e1 : (a &&& b) / 2 = a / 2 &&& b / 2 := Nat.and_div_two
      have e2 : (a ||| b) / 2 = a / 2 ||| b / 2 := Nat.or_div_two
      have e3 : (a ^^^ b) / 2 = a / 2 ^^^ b / 2 := Nat.xor_div_two
      have m1 : (a &&& b) % 2 = a % 2 &&& b % 2 := by simpa using Nat.and_mod_two_pow (a := a) (b := b) (n := 1)
      have m2 : (a ||| b) % 2 = a % 2 ||| b % 2 := by simpa using Nat.or_mod_two_pow (a := a) (b := b) (n := 1)
      have m4 : (a ^^^ b) % 2 = a % 2 ^^^ b % 2 := by simpa using Nat.xor_mod_two_pow (a := a) (b := b) (n := 1)
      have ma : a % 2 = 0 ∨ a % 2 = 1 := by omega
      have mb : b % 2 = 0 ∨ b % 2 = 1 := by omega
      have m3 : (a % 2 ^^^ b % 2) + (a % 2 &&& b % 2) = (a % 2 ||| b % 2) := by
        rcases ma with ma | ma <;> rcases mb with mb | mb <;> rw [ma, mb] <;> decide
      omega
theorem ofInt_i64 (a : Nat) (ha : a < 2147483648) : (BitVec.ofInt 64 (a : Int)).toNat = a := by
  rw [BitVec.toNat_ofInt]; omega
theorem wrap_small (n : Nat) (h : n < 2147483648) : IntKind.i64.wrap (n : Int) = (n : Int) := by
  simp [IntKind.wrap, IntKind.bits, IntKind.signed]
  omega
theorem i64_and (a b : Nat) (ha : a < 2147483648) (hb : b < 2147483648) : bits .and .i64 (a : Int) (b : Int) = ((a &&& b : Nat) : Int) := by
  show IntKind.i64.wrap ((BitVec.ofInt 64 (a : Int) &&& BitVec.ofInt 64 (b : Int)).toNat : Int) = _
  rw [BitVec.toNat_and, ofInt_i64 a ha, ofInt_i64 b hb, wrap_small _ (Nat.and_lt_two_pow (n := 31) _ (by omega))]
theorem i64_or (a b : Nat) (ha : a < 2147483648) (hb : b < 2147483648) : bits .or .i64 (a : Int) (b : Int) = ((a ||| b : Nat) : Int) := by
  show IntKind.i64.wrap ((BitVec.ofInt 64 (a : Int) ||| BitVec.ofInt 64 (b : Int)).toNat : Int) = _
  rw [BitVec.toNat_or, ofInt_i64 a ha, ofInt_i64 b hb, wrap_small _ (Nat.or_lt_two_pow (n := 31) (by omega) (by omega))]
theorem i64_xor (a b : Nat) (ha : a < 2147483648) (hb : b < 2147483648) : bits .xor .i64 (a : Int) (b : Int) = ((a ^^^ b : Nat) : Int) := by
  show IntKind.i64.wrap ((BitVec.ofInt 64 (a : Int) ^^^ BitVec.ofInt 64 (b : Int)).toNat : Int) = _
  rw [BitVec.toNat_xor, ofInt_i64 a ha, ofInt_i64 b hb, wrap_small _ (Nat.xor_lt_two_pow (n := 31) (by omega) (by omega))]

/-! a map of functions: a function reads as its number -/
def fnElem (v : Value) : Option (DataW Unit × List MemPlace) :=
  match v with
  | .func (.func n) f c => if f.size = 0 ∧ c.size = 0 then some (.lit (.int .i64 (n : Int)), []) else some (.nil, [])
  | _ => some (.nil, [])
theorem fnElem_inv {v : Value} {n : Nat} {ps : List MemPlace} (h : fnElem v = some (.lit (.int .i64 (n : Int)), ps)) : v = .func (.func n) #[] #[] := by
  unfold fnElem at h
  split at h
  · split at h
    · rename_i m f c hs
      obtain ⟨h1, h2⟩ := hs
      have e1 : f = #[] := Array.eq_empty_of_size_eq_zero h1
      have e2 : c = #[] := Array.eq_empty_of_size_eq_zero h2
      subst e1; subst e2
      have h3 := congrArg (fun o => o.map (·.1)) h
      simp only [Option.map_some] at h3
      injection h3 with h3
      injection h3 with h3
      injection h3 with _ h3
      have h4 : m = n := Int.ofNat.inj h3
      rw [h4]
    · simp at h
  · simp at h

theorem ins_one (w : World) (b n : Nat) (D : DataW Unit) (h : w.ownsMap Tryz.prog 9 fnElem b n D) (hn : n < maxLen) (s : ByteArray) (kl : Lit) (hk : keyOf Tryz.prog 9 (.string s) = some kl) (g : Nat) :
    ∃ w', (Instr.mapUpdate 143 (.map (some b)) (.string s) (.func (.func g) #[] #[])).run Tryz.prog w = .ok () w' ∧ w'.ownsMap Tryz.prog 9 fnElem b (n + 1) (D.put kl (.lit (.int .i64 (g : Int)))) ∧ w.grownBy w' (some b) :=
  h.update (Maps.string_keyed Tryz.underlying9) Tryz.underlying143 hn hk (ps := []) (by simp [fnElem])

theorem zero_fn (w : World) : (zeroValue 37).run Tryz.prog w = .ok .nilFunc w := by
  have h : (Tryz.prog.info? 37).map (·.zero) = some (some .nilFunc) := by kernel_rfl
  cases hh : Tryz.prog.info? 37 with
  | none => rw [hh] at h; cases h
  | some j =>
    rw [hh] at h
    have h2 : j.zero = some .nilFunc := by simpa using h
    simp [zeroValue, typeInfo, hh, h2]
def kb (s : ByteArray) : Lit := .string s.data.toList
def five : DataW Unit := ((((DataW.map [] : DataW Unit).put (kb ⟨#[66, 73, 84, 65, 78, 68]⟩) (.lit (.int .i64 (174 : Nat)))).put (kb ⟨#[66, 73, 84, 76, 83, 72, 73, 70, 84]⟩) (.lit (.int .i64 (175 : Nat)))).put (kb ⟨#[66, 73, 84, 79, 82]⟩) (.lit (.int .i64 (176 : Nat)))).put (kb ⟨#[66, 73, 84, 82, 83, 72, 73, 70, 84]⟩) (.lit (.int .i64 (177 : Nat))) |>.put (kb ⟨#[66, 73, 84, 88, 79, 82]⟩) (.lit (.int .i64 (178 : Nat)))

theorem five_any (W : World) (B : Nat) (hB : B = W.heap.size) (key : ByteArray) (kl : Lit) (n : Nat) (hk : keyOf Tryz.prog 9 (.string key) = some kl) (hat : five.atKey kl .nil = .lit (.int .i64 (n : Int))) : ∃ w1 w2 w3 w4 w5,
    (Instr.mapUpdate 143 (.map (some B)) (.string ⟨#[66, 73, 84, 65, 78, 68]⟩) (.func (.func 174) #[] #[])).run Tryz.prog (W.alloc (.map #[] 0)) = .ok () w1 ∧
    (Instr.mapUpdate 143 (.map (some B)) (.string ⟨#[66, 73, 84, 76, 83, 72, 73, 70, 84]⟩) (.func (.func 175) #[] #[])).run Tryz.prog w1 = .ok () w2 ∧
    (Instr.mapUpdate 143 (.map (some B)) (.string ⟨#[66, 73, 84, 79, 82]⟩) (.func (.func 176) #[] #[])).run Tryz.prog w2 = .ok () w3 ∧
    (Instr.mapUpdate 143 (.map (some B)) (.string ⟨#[66, 73, 84, 82, 83, 72, 73, 70, 84]⟩) (.func (.func 177) #[] #[])).run Tryz.prog w3 = .ok () w4 ∧
    (Instr.mapUpdate 143 (.map (some B)) (.string ⟨#[66, 73, 84, 88, 79, 82]⟩) (.func (.func 178) #[] #[])).run Tryz.prog w4 = .ok () w5 ∧
    (Instr.lookup 143 (.map (some B)) (.string key) false).run Tryz.prog w5 = .ok (.func (.func n) #[] #[]) w5 ∧
    Below W.heap.size W w5 := by
  subst hB
  have h0 := World.ownsMap_made W Tryz.prog 9 fnElem
  have b0 : Below W.heap.size W (W.alloc (.map #[] 0)) := (Below.refl _ _).alloc (Nat.le_refl _) _
  obtain ⟨w1, r1, h1, g1⟩ := ins_one _ _ _ _ h0 (by decide) ⟨#[66, 73, 84, 65, 78, 68]⟩ (kb ⟨#[66, 73, 84, 65, 78, 68]⟩) (by kernel_rfl) 174
  have b1 := b0.grown g1 (by simp) (fun g hg => by injection hg with hg; omega)
  obtain ⟨w2, r2, h2, g2⟩ := ins_one _ _ _ _ h1 (by decide) ⟨#[66, 73, 84, 76, 83, 72, 73, 70, 84]⟩ (kb ⟨#[66, 73, 84, 76, 83, 72, 73, 70, 84]⟩) (by kernel_rfl) 175
  have b2 := b1.grown g2 b1.size (fun g hg => by injection hg with hg; omega)
  obtain ⟨w3, r3, h3, g3⟩ := ins_one _ _ _ _ h2 (by decide) ⟨#[66, 73, 84, 79, 82]⟩ (kb ⟨#[66, 73, 84, 79, 82]⟩) (by kernel_rfl) 176
  have b3 := b2.grown g3 b2.size (fun g hg => by injection hg with hg; omega)
  obtain ⟨w4, r4, h4, g4⟩ := ins_one _ _ _ _ h3 (by decide) ⟨#[66, 73, 84, 82, 83, 72, 73, 70, 84]⟩ (kb ⟨#[66, 73, 84, 82, 83, 72, 73, 70, 84]⟩) (by kernel_rfl) 177
  have b4 := b3.grown g4 b3.size (fun g hg => by injection hg with hg; omega)
  obtain ⟨w5, r5, h5, g5⟩ := ins_one _ _ _ _ h4 (by decide) ⟨#[66, 73, 84, 88, 79, 82]⟩ (kb ⟨#[66, 73, 84, 88, 79, 82]⟩) (by kernel_rfl) 178
  have b5 := b4.grown g5 b4.size (fun g hg => by injection hg with hg; omega)
  have hz : (zeroValue 37).run Tryz.prog w5 = .ok .nilFunc w5 := by
    exact zero_fn w5
  obtain ⟨v, ps, r6, h6⟩ := h5.lookup (Maps.string_keyed Tryz.underlying9) Tryz.underlying143 hz (zd := .nil) (zp := []) rfl (key := .string key) hk
  have e : DataW.atKey five kl .nil = _ := hat
  change fnElem v = some (five.atKey kl .nil, ps) at h6
  rw [hat] at h6
  obtain rfl := fnElem_inv h6
  exact ⟨w1, w2, w3, w4, w5, r1, r2, r3, r4, r5, r6, b5⟩

end Go.Proofs.YtndabbepepbnmaaGreatDoor
