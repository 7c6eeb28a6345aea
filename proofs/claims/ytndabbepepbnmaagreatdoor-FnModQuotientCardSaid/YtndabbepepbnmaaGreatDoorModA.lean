import Derived.Test.YtndabbepepbnmaaGreatDoorMod
namespace Go.Proofs.YtndabbepepbnmaaGreatDoor
open Go.RowKit Ieee

theorem order_zero_E (s : Bool) (r K : Nat) (hr : r < 9007199254740992) (hK : K ≤ 1000) : FloatKind.f64.format.order (E s r K) 0 = some (compare (sg s r) 0) := by
  have h := order_E2 s false r 0 K 0 hr (by omega) hK (by omega)
  have e1 : sg s r * 2 ^ 0 = sg s r := by simp
  have e2 : sg false 0 * 2 ^ K = 0 := by simp [sg]
  rw [e1, e2, show E false 0 0 = 0 by decide] at h
  exact h
theorem order_lt_zero (s : Bool) (r K : Nat) (hr : r < 9007199254740992) (hK : K ≤ 1000) : (FloatKind.f64.format.order (E s r K) 0 == some .lt) = (s && decide (r ≠ 0)) := by
  rw [order_zero_E s r K hr hK]
  cases s
  · rcases Nat.eq_zero_or_pos r with h | h
    · subst h; rfl
    · rw [Int.compare_eq_gt.2 (show (0 : Int) < sg false r by show (0 : Int) < (r : Int); omega)]; rfl
  · rcases Nat.eq_zero_or_pos r with h | h
    · subst h; rfl
    · rw [Int.compare_eq_lt.2 (show sg true r < 0 by show -(r : Int) < 0; omega), decide_eq_true (by omega : r ≠ 0)]; rfl

theorem sg_sub (s : Bool) (a b : Nat) : sg s a - sg s b = if s then (b : Int) - a else (a : Int) - b := by
  cases s
  · rfl
  · show -(a : Int) - -(b : Int) = (b : Int) - a; omega

theorem MOD_num (n k : Int) (hn : n.natAbs ≤ 1000000000) (hk : k.natAbs ≤ 1000000000) (hk0 : k ≠ 0) :
    ∃ d : Int, Fn 107 ([((1, n, 1, es) : SV), (1, k, 1, es)].map avOf) (.num (enc d 0)) ∧ (n - d).tmod k = 0 ∧ (0 < k → 0 ≤ d ∧ d < k) ∧ (k < 0 → d ≤ 0 ∧ k < d) := by
  obtain ⟨sk, hsk⟩ : ∃ sk, decide (k < 0) = sk := ⟨_, rfl⟩
  obtain ⟨sn, hsn⟩ : ∃ sn, decide (n < 0) = sn := ⟨_, rfl⟩
  have en : enc n 0 = E sn n.natAbs 0 := by rw [enc_E, hsn]
  have ek : enc k 0 = E sk k.natAbs 0 := by rw [enc_E, hsk]
  have hb0 : k.natAbs ≠ 0 := by omega
  -- the quotient
  obtain ⟨M, K, hM, hK, hq, hMK⟩ : ∃ M K, M < 9007199254740992 ∧ K ≤ 100 ∧ Ieee.double.div (E sn n.natAbs 0) (E sk k.natAbs 0) = some (E (sn ^^ sk) M K) ∧
      ((n.natAbs % k.natAbs = 0 ∧ M = n.natAbs / k.natAbs ∧ K = 0) ∨ (n.natAbs % k.natAbs ≠ 0 ∧ n.natAbs / k.natAbs * 2 ^ K < M ∧ M < (n.natAbs / k.natAbs + 1) * 2 ^ K)) := by
    by_cases hn0 : n.natAbs = 0
    · refine ⟨0, 0, by omega, by omega, ?_, .inl ⟨by rw [hn0]; exact Nat.zero_mod _, by rw [hn0]; exact (Nat.zero_div _).symm, rfl⟩⟩
      rw [hn0]
      exact div_E sn sk 0 k.natAbs 0 0 0 0 (by omega) (by omega) (by omega) hb0 (by simp) (by omega) (by omega) (by omega)
    · exact div_whole sn sk n.natAbs k.natAbs hn0 hb0 (by omega) (by omega)
  have hQ : M / 2 ^ K = n.natAbs / k.natAbs := by
    rcases hMK with ⟨_, h, rfl⟩ | ⟨_, h1, h2⟩
    · rw [h]; simp
    · exact Nat.div_eq_of_lt_le (by omega) (by omega)
  have hR : decide (M % 2 ^ K ≠ 0) = decide (n.natAbs % k.natAbs ≠ 0) := by
    rcases hMK with ⟨h0, h, rfl⟩ | ⟨h0, h1, h2⟩
    · rw [h0, Nat.pow_zero, Nat.mod_one]
    · rw [decide_eq_decide]
      refine ⟨fun _ => h0, fun _ hz => ?_⟩
      have := Nat.div_add_mod M (2 ^ K)
      rw [hz, hQ, Nat.mul_comm] at this; omega
  have hR2 : M % 2 ^ K < 9007199254740992 := Nat.lt_of_le_of_lt (Nat.mod_le _ _) hM
  have hqr := Nat.div_add_mod n.natAbs k.natAbs
  have hrlt := Nat.mod_lt n.natAbs (Nat.pos_of_ne_zero hb0)
  have hQle : n.natAbs / k.natAbs ≤ n.natAbs := Nat.div_le_self _ _
  generalize hQd : n.natAbs / k.natAbs = Q at *
  generalize hrd : n.natAbs % k.natAbs = r at *
  generalize ha : n.natAbs = a at *
  generalize hb : k.natAbs = b at *
  obtain ⟨Q2, hQ2⟩ : ∃ Q2 : Nat, Q2 = if ((sn ^^ sk) && decide (r ≠ 0)) then Q + 1 else Q := ⟨_, rfl⟩
  have hX : b * (Q + 1) = b * Q + b := Nat.mul_succ b Q
  have hbQ2 : b * Q2 ≤ a + b := by
    rw [hQ2]
    split
    · omega
    · omega
  have hT : E (sn ^^ sk) (M / 2 ^ K) 0 = E (sn ^^ sk) Q 0 := by rw [hQ]
  have hp : Ieee.double.mul (E sk b 0) (E (sn ^^ sk) Q2 0) = some (E sn (b * Q2) 0) := by
    have := mul_E sk (sn ^^ sk) b Q2 0 0 (by omega) (by rw [hQ2]; split <;> omega) (by omega) (by omega)
    rwa [show (sk ^^ (sn ^^ sk)) = sn by cases sk <;> cases sn <;> rfl] at this
  have hD := sub_E sn sn a (b * Q2) 0 (by omega) (by omega) (by rw [sg_sub]; split <;> omega) (by omega)
  have hDe : E (if sg sn a - sg sn (b * Q2) = 0 then sn && !sn else decide (sg sn a - sg sn (b * Q2) < 0)) (sg sn a - sg sn (b * Q2)).natAbs 0 = enc (sg sn a - sg sn (b * Q2)) 0 := by
    rw [enc_E]
    by_cases h : sg sn a - sg sn (b * Q2) = 0
    · rw [h, if_pos rfl]; cases sn <;> rfl
    · rw [if_neg h]
  rw [hDe] at hD
  have hnv : n = sg sn a := by rw [← hsn, ← ha, sg_natAbs]
  have hkv : k = sg sk b := by rw [← hsk, ← hb, sg_natAbs]
  have hdv : (sg sn a - sg sn (b * Q2)).natAbs < 9007199254740992 := by rw [sg_sub]; split <;> omega
  refine ⟨sg sn a - sg sn (b * Q2), ?_, ?_, ?_, ?_⟩
  · intro w g L el h
    simp only [List.map_cons, List.map_nil] at h
    rw [avI_whole _ (by omega), avI_whole _ (by omega)] at h
    have hw := MOD_walk (enc n 0) (enc k 0) (E (sn ^^ sk) M K) (E (sn ^^ sk) (M / 2 ^ K) 0) (E (sn ^^ sk) (M % 2 ^ K) K) (E (sn ^^ sk) Q2 0) (E sn (b * Q2) 0) (enc (sg sn a - sg sn (b * Q2)) 0)
      ((sn ^^ sk) && decide (r ≠ 0)) (fin_enc n 0 (by omega) (by omega)) (fin_enc k 0 (by omega) (by omega)) (nz_whole n (by omega)) (nz_whole k (by omega))
      (by have := test_whole k (by omega); rw [show (k == 0) = false by simpa using hk0] at this; simpa using this)
      (by rw [en, ek]; exact hq) (fun w => Modf_E _ M K hM (by omega) w) (by rw [order_lt_zero _ _ _ hR2 (by omega), hR])
      (by
        by_cases hc : ((sn ^^ sk) && decide (r ≠ 0)) = true
        · rw [if_pos hc]
          rw [if_pos hc] at hQ2
          have hs' : (sn ^^ sk) = true := by cases h : (sn ^^ sk) <;> simp_all
          have := sub_E (sn ^^ sk) false Q 1 0 (by omega) (by omega) (by rw [hs']; show (-(Q : Int) - (1 : Int)).natAbs < _; omega) (by omega)
          rw [hT, show one64 = E false 1 0 from by decide]
          refine this.trans ?_
          rw [hs', hQ2]
          have e : sg true Q - sg false 1 = -((Q + 1 : Nat) : Int) := by show -(Q : Int) - (1 : Int) = _; omega
          rw [e, if_neg (by omega), decide_eq_true (by omega)]
          congr 2
        · rw [if_neg hc]
          rw [if_neg hc] at hQ2
          rw [hT, hQ2])
      (by rw [ek]; exact hp) (by rw [en]; exact hD) (fin_enc _ 0 hdv (by omega)) w g L el h
    rwa [nz_whole _ hdv] at hw
  · have e : n - (sg sn a - sg sn (b * Q2)) = sg sn (b * Q2) := by rw [hnv]; omega
    rw [e]
    apply Int.tmod_eq_zero_of_dvd
    rw [← Int.natAbs_dvd_natAbs, natAbs_sg, hb]
    exact Nat.dvd_mul_right _ _
  · intro hkp
    have hsk' : sk = false := by rw [← hsk]; simp; omega
    subst hsk'
    have hkb : k = (b : Int) := hkv
    rw [hkb, sg_sub]
    cases sn
    · have h2 : Q2 = Q := hQ2.trans (if_neg (by simp))
      rw [if_neg (by decide), h2]
      generalize b * Q = X at *
      omega
    · rw [if_pos rfl]
      by_cases hr : r = 0
      · have h2 : Q2 = Q := hQ2.trans (if_neg (by simp [hr]))
        rw [h2]; generalize b * Q = X at *
        omega
      · have h2 : Q2 = Q + 1 := hQ2.trans (if_pos (by simp [hr]))
        rw [h2, hX]; generalize b * Q = X at *
        omega
  · intro hkp
    have hsk' : sk = true := by rw [← hsk]; simp; omega
    subst hsk'
    have hkb : k = -(b : Int) := hkv
    rw [hkb, sg_sub]
    cases sn
    · rw [if_neg (by decide)]
      by_cases hr : r = 0
      · have h2 : Q2 = Q := hQ2.trans (if_neg (by simp [hr]))
        rw [h2]; generalize b * Q = X at *
        omega
      · have h2 : Q2 = Q + 1 := hQ2.trans (if_pos (by simp [hr]))
        rw [h2, hX]; generalize b * Q = X at *
        omega
    · have h2 : Q2 = Q := hQ2.trans (if_neg (by simp))
      rw [if_pos rfl, h2]
      generalize b * Q = X at *
      omega
end Go.Proofs.YtndabbepepbnmaaGreatDoor
