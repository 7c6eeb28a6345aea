import Derived.Test.YtjnlghokhlmjlaaGreatDoorRead2
namespace Go.Proofs.YtjnlghokhlmjlaaGreatDoor
open Go.RowKit
attribute [local go_sem] run_store_float

def cst : ByteArray := ⟨#[48, 49, 50, 51, 52, 53, 54, 55, 56, 57, 65, 66, 67, 68, 69, 70, 71, 72, 73, 74, 75, 76, 77, 78, 79, 80, 81, 82, 83, 84, 85, 86, 87, 88, 89, 90]⟩
def digS (n : Nat) : ByteArray := if n < 10 then cst.extract (n % 10) (n % 10 + 1) else digS (n / 10) ++ cst.extract (n % 10) (n % 10 + 1)
termination_by n
decreasing_by omega
theorem ext_size (b : ByteArray) (r : Nat) : (b.extract r (r + 1)).size ≤ 1 := by rw [ByteArray.size_extract]; omega
theorem digS_size (k : Nat) : (digS k).size ≤ k + 1 := by
  induction k using Nat.strongRecOn with
  | _ k ih =>
    rw [digS]
    split
    · have := ext_size cst (k % 10); omega
    · rw [ByteArray.size_append]
      have := ext_size cst (k % 10)
      have := ih (k / 10) (by omega)
      omega

set_option maxRecDepth 100000 in
theorem Digits_fix : ∀ (k : Nat) (n : Int), 0 ≤ n → n.toNat = k → n ≤ 9999999999999 → ∀ w : World, Calls Tryz.prog 192 #[.int .i64 n, .int .i64 10] w fun e w' => e = .returned (.string (digS k)) ∧ Below w.heap.size w w' := by
  intro k
  induction k using Nat.strongRecOn with
  | _ k ih =>
    intro n h0 hk h1 w
    have hm := Int.tdiv_mul_add_tmod n 10
    have hr0 : 0 ≤ n.tmod 10 := Int.tmod_nonneg _ h0
    have hr1 : n.tmod 10 < 10 := Int.tmod_lt_of_pos _ (by omega)
    have hq0 : 0 ≤ n.tdiv 10 := Int.tdiv_nonneg h0 (by omega)
    obtain ⟨r, hr⟩ : ∃ r : Nat, n.tmod 10 = (r : Int) := ⟨(n.tmod 10).toNat, by omega⟩
    have IH := hid ih
    have Hk := hid hk
    have Hm := hid hm
    clear ih hk hm
    rw [hr] at hr0 hr1
    obtain ⟨q, hq⟩ : ∃ q : Int, n.tdiv 10 = q := ⟨_, rfl⟩
    have Hq := hid hq
    rw [hq] at hq0
    clear hq
    have hq1 : q ≤ 9999999999999 := by have := Hm.out; have := Hq.out; omega
    have hrs : (r : Int) < 36 := by omega
    have hr6 : (r : Int) + 1 ≤ 36 := by omega
    have hr7 : (r : Int) ≤ (r : Int) + 1 := by omega
    have hr5 : (0 : Int) ≤ (r : Int) + 1 := by omega
    have hw1 : IntKind.i64.wrap ((r : Int) + 1) = (r : Int) + 1 := IntWalk.i64_in _ (by omega)
    have hr2 : ((r : Int) + 1).toNat = r + 1 := by omega
    have hkr : Hid (k % 10 = r) := by show _ = _; have := Hm.out; have := Hk.out; omega
    have hkq : Hid (k / 10 = q.toNat) := by show _ = _; have := Hm.out; have := Hk.out; have := Hq.out; omega
    have hext : Hid (∀ b : ByteArray, (b.extract r (r + 1)).size ≤ 1) := fun b => by rw [ByteArray.size_extract]; omega
    by_cases hlt : n < 10
    · go_enter Tryz.func192, Tryz.ntmps192
      go_wp2_with fail
      go_region_held3 (fun _ => True) (exact trivial) (fail)
      clear hw1 hr2 hr5 hr6 hr7 hrs
      have hu := hid (hext.out ⟨#[48, 49, 50, 51, 52, 53, 54, 55, 56, 57, 65, 66, 67, 68, 69, 70, 71, 72, 73, 74, 75, 76, 77, 78, 79, 80, 81, 82, 83, 84, 85, 86, 87, 88, 89, 90]⟩)
      obtain ⟨u, hue⟩ : ∃ u, ByteArray.extract ⟨#[48, 49, 50, 51, 52, 53, 54, 55, 56, 57, 65, 66, 67, 68, 69, 70, 71, 72, 73, 74, 75, 76, 77, 78, 79, 80, 81, 82, 83, 84, 85, 86, 87, 88, 89, 90]⟩ r (r + 1) = u := ⟨_, rfl⟩
      rw [hue] at hu ⊢
      have HU := hid hue
      clear hue
      go_wp2_with fail
      go_ret
      refine ⟨?_, Below.drew (Below.refl _ _)⟩
      have e : digS k = u := by
        rw [digS, if_pos (by have := Hk.out; omega), hkr.out]; exact HU.out
      rw [e]; rfl
    · have hlk : q.toNat < k := by have := Hm.out; have := Hq.out; have := Hk.out; omega
      have hk1 : q.toNat + 1 ≤ k := hlk
      go_enter Tryz.func192, Tryz.ntmps192
      go_wp2_with fail
      go_region_held3 (fun _ => True) (exact trivial) (fail)
      clear hw1 hr2 hr5 hr6 hr7 hrs
      have hu := hid (hext.out ⟨#[48, 49, 50, 51, 52, 53, 54, 55, 56, 57, 65, 66, 67, 68, 69, 70, 71, 72, 73, 74, 75, 76, 77, 78, 79, 80, 81, 82, 83, 84, 85, 86, 87, 88, 89, 90]⟩)
      obtain ⟨u, hue⟩ : ∃ u, ByteArray.extract ⟨#[48, 49, 50, 51, 52, 53, 54, 55, 56, 57, 65, 66, 67, 68, 69, 70, 71, 72, 73, 74, 75, 76, 77, 78, 79, 80, 81, 82, 83, 84, 85, 86, 87, 88, 89, 90]⟩ r (r + 1) = u := ⟨_, rfl⟩
      rw [hue] at hu ⊢
      have HU := hid hue
      clear hue
      have hq' := Hq.out
      go_wp2_with fail
      clear hq'
      refine (IH.out q.toNat hlk q hq0 rfl hq1 _).mono ?_
      rintro e w1 ⟨rfl, hb⟩
      have ht := digS_size q.toNat
      obtain ⟨t, hte⟩ : ∃ t, digS q.toNat = t := ⟨_, rfl⟩
      rw [hte] at ht ⊢
      have HT := hid hte
      clear hte
      have hb2 : Below w.heap.size w w1 := Below.lift (Below.drew (Below.refl _ _)) (Nat.le_refl _) hb
      have hkb : k ≤ 9999999999999 := by have := Hk.out; omega
      have hts : t.size + u.size ≤ 9223372036854775807 := by have := hu.out; omega
      have hts2 : (t.size : Int) + (u.size : Int) ≤ 9223372036854775807 := by omega
      go_wp2_with fail
      go_ret
      refine ⟨?_, hb2⟩
      have e : digS k = t ++ u := by
        rw [digS, if_neg (by have := Hk.out; omega), hkr.out, hkq.out, HT.out]; exact congrArg _ HU.out
      rw [e]; first | rfl | simp

def plainS (n : Int) : ByteArray := if 0 ≤ n then digS n.toNat else ⟨#[45]⟩ ++ digS (-n).toNat

set_option maxRecDepth 100000 in
theorem Plain_fix (n : Int) (w : World) (h1 : -99999999999 ≤ n) (h2 : n ≤ 99999999999) : Calls Tryz.prog 241 #[sv 1 n 1 es] w fun e w' => e = .returned (.string (plainS n)) ∧ Below w.heap.size w w' := by
  unfold sv
  by_cases h0 : 0 ≤ n
  · go_enter Tryz.func241, Tryz.ntmps241
    go_wp2_with fail
    refine (Digits_fix n.toNat n h0 rfl (by omega) _).mono ?_
    rintro e w1 ⟨rfl, hb⟩
    have ht := digS_size n.toNat
    obtain ⟨t, hte⟩ : ∃ t, digS n.toNat = t := ⟨_, rfl⟩
    rw [hte] at ht ⊢
    have HT := hid hte
    clear hte
    have hB := Bk.below (Bk.new w 27 #[.int .i64 1, .int .i64 n, .int .i64 1, .string es, .slice none 0 0]) hb (by simp)
    have hd := Below.lift ((Below.refl w.heap.size w).alloc (Nat.le_refl _) _) (by simp) hb
    obtain ⟨q0, q1, q2, q3, q4, qf⟩ := hB.cells5
    have hts : t.size ≤ 999999999999 := by omega
    have hts2 : (t.size : Int) ≤ 999999999999 := by omega
    have hts3 : 1 + t.size ≤ 9223372036854775807 := by omega
    have hts4 : 1 + (t.size : Int) ≤ 9223372036854775807 := by omega
    clear hb ht
    go_wp2_with fail
    go_ret
    refine ⟨?_, hd⟩
    have e : plainS n = t := by unfold plainS; rw [if_pos h0, HT.out]
    rw [e]; first | rfl | simp
  · have h0' : n < 0 := by omega
    have hneg : (0 : Int) ≤ -n := by omega
    go_enter Tryz.func241, Tryz.ntmps241
    go_wp2_with fail
    refine (Digits_fix (-n).toNat (-n) hneg rfl (by omega) _).mono ?_
    rintro e w1 ⟨rfl, hb⟩
    have ht := digS_size (-n).toNat
    obtain ⟨t, hte⟩ : ∃ t, digS (-n).toNat = t := ⟨_, rfl⟩
    rw [hte] at ht ⊢
    have HT := hid hte
    clear hte
    have hB := Bk.below (Bk.new w 27 #[.int .i64 1, .int .i64 n, .int .i64 1, .string es, .slice none 0 0]) hb (by simp)
    have hd := Below.lift ((Below.refl w.heap.size w).alloc (Nat.le_refl _) _) (by simp) hb
    obtain ⟨q0, q1, q2, q3, q4, qf⟩ := hB.cells5
    have hts : t.size ≤ 999999999999 := by omega
    have hts2 : (t.size : Int) ≤ 999999999999 := by omega
    have hts3 : 1 + t.size ≤ 9223372036854775807 := by omega
    have hts4 : 1 + (t.size : Int) ≤ 9223372036854775807 := by omega
    clear hb ht
    go_wp2_with fail
    go_ret
    refine ⟨?_, hd⟩
    have e : plainS n = ⟨#[45]⟩ ++ t := by unfold plainS; rw [if_neg (by omega), HT.out]
    rw [e]; first | rfl | simp

end Go.Proofs.YtjnlghokhlmjlaaGreatDoor
