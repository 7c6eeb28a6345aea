import Derived.Test.YtndabbepepbnmaaGreatDoorOdd
import Derived.Test.YtndabbepepbnmaaGreatDoorFrac
namespace Go.Proofs.YtndabbepepbnmaaGreatDoor
open Go.RowKit Ieee

/-! a number of sixteenths as an argument -/
theorem fnum_part {n a d : Int} (h : Part n a d) (hn : n.natAbs < 9007199254740992) : fnum (1, a, d, es) = enc n 4 := by
  unfold fnum
  rw [if_pos rfl]
  show enc a d.toNat.log2 = enc n 4
  unfold Part at h
  rcases h with ⟨rfl, rfl⟩ | ⟨rfl, rfl⟩ | ⟨rfl, rfl⟩ | ⟨rfl, rfl⟩ | ⟨rfl, rfl⟩
  · rw [show (16 : Int).toNat.log2 = 4 from by decide]
  · rw [show (8 : Int).toNat.log2 = 3 from by decide]; exact (enc_shift a 3 1 (by omega) (by omega)).symm
  · rw [show (4 : Int).toNat.log2 = 2 from by decide]; exact (enc_shift a 2 2 (by omega) (by omega)).symm
  · rw [show (2 : Int).toNat.log2 = 1 from by decide]; exact (enc_shift a 1 3 (by omega) (by omega)).symm
  · rw [show (1 : Int).toNat.log2 = 0 from by decide]; exact (enc_shift a 0 4 (by omega) (by omega)).symm
theorem svOk_part {n a d : Int} (h : Part n a d) (hn : n.natAbs < 9007199254740992) : svOk (1, a, d, es) := by
  refine ⟨fun _ => ?_, by simp⟩
  unfold Part at h
  rcases h with ⟨rfl, rfl⟩ | ⟨rfl, rfl⟩ | ⟨rfl, rfl⟩ | ⟨rfl, rfl⟩ | ⟨rfl, rfl⟩
  · exact ⟨4, by omega, rfl, hn⟩
  · exact ⟨3, by omega, rfl, by show a.natAbs < _; omega⟩
  · exact ⟨2, by omega, rfl, by show a.natAbs < _; omega⟩
  · exact ⟨1, by omega, rfl, by show a.natAbs < _; omega⟩
  · exact ⟨0, by omega, rfl, by show a.natAbs < _; omega⟩
theorem avI_part {n a d : Int} (h : Part n a d) (hn : n.natAbs < 9007199254740992) : avI (avOf (1, a, d, es)) = .iface 78 (fa (enc n 4) es false es 1) := by
  have e : avOf (1, a, d, es) = (1, enc n 4, es) := by unfold avOf; rw [fnum_part h hn]
  rw [e]; unfold avI; rw [fav_num, nz_enc n 4 hn (by omega)]

theorem two_E : E false 2 0 = 4611686018427387904 := by decide
theorem two_enc : enc 2 0 = 4611686018427387904 := by decide
theorem one_enc4 : enc 16 4 = 4607182418800017408 := by decide
theorem rest_test (s : Bool) (r K : Nat) (hr : r < 9007199254740992) (hK : K ≤ 1000) : (FloatKind.f64.format.order (E s r K) 0 != some .eq) = decide (r ≠ 0) := by
  rw [order_zero_E s r K hr hK]
  by_cases h : r = 0
  · subst h; cases s <;> rfl
  · rw [decide_eq_true h]
    have hs : sg s r ≠ 0 := by
      intro hz
      have := natAbs_sg s r
      rw [hz] at this; simp at this; omega
    have : compare (sg s r) 0 ≠ .eq := fun hh => hs (Int.compare_eq_eq.1 hh)
    simpa using this
theorem half_E (s : Bool) (m k : Nat) (hm : m < 9007199254740992) (hk : k ≤ 100) : floatBits .quo .f64 (E s m k) 4611686018427387904 = some (E s m (k + 1)) := by
  rw [← two_E]
  have := div_E s false m 2 m k 0 (k + 1) hm (by omega) hm (by omega) (by rw [Nat.add_zero, Nat.pow_succ, Nat.mul_assoc, Nat.mul_comm 2]) (by omega) (by omega) (by omega)
  rw [Bool.xor_false] at this
  exact this
theorem double_E (s : Bool) (m : Nat) (hm : m < 281474976710656) : floatBits .mul .f64 (E s m 0) 4611686018427387904 = some (E s (m * 2) 0) := by
  rw [← two_E]
  have := mul_E s false m 2 0 0 (by omega) (by omega) (by omega) (by omega)
  rw [Bool.xor_false] at this
  exact this

theorem EVEN_num (n : Int) (hn : n.natAbs ≤ 1000000000) :
    ∃ N : Int, (∀ a d, Part n a d → Fn 113 ([((1, a, d, es) : SV)].map avOf) (.num (enc N 0))) ∧ N.tmod 2 = 0 ∧ n.natAbs ≤ 16 * N.natAbs ∧ N.natAbs ≤ 200000000 := by
  obtain ⟨s, hs⟩ : ∃ s, decide (n < 0) = s := ⟨_, rfl⟩
  have en : enc n 4 = E s n.natAbs 4 := by rw [enc_E, hs]
  obtain ⟨m, hm⟩ : ∃ m, n.natAbs = m := ⟨_, rfl⟩
  have hnv : n = sg s m := by rw [← hs, ← hm, sg_natAbs]
  rw [hm] at en
  obtain ⟨M, hM⟩ : ∃ M : Nat, M = if m % 32 ≠ 0 then m / 32 * 2 + 2 else m / 32 * 2 := ⟨_, rfl⟩
  have hM2 : M % 2 = 0 := by rw [hM]; split <;> omega
  have hM3 : m ≤ 16 * M := by rw [hM]; split <;> omega
  have hM4 : M ≤ 200000000 := by rw [hM]; split <;> omega
  have hM0 : M = 0 → s = false := fun h0 => by
    have : m = 0 := by omega
    rw [← hs]; simp; omega
  refine ⟨sg s M, ?_, ?_, ?_, ?_⟩
  · intro a d hp w g L el h
    simp only [List.map_cons, List.map_nil] at h
    rw [avI_part hp (by omega)] at h
    have hN : (sg s M).natAbs < 9007199254740992 := by rw [natAbs_sg]; omega
    have hw := EVEN_walk (enc n 4) (E s m 5) (E s (m / 2 ^ 5) 0) (E s (m % 2 ^ 5) 5) (E s (m / 32 * 2) 0) (enc (sg s M) 0) s (decide (m % 32 ≠ 0)) (fin_enc n 4 (by omega) (by omega)) (nz_enc n 4 (by omega) (by omega))
      (fun wx => by rw [en]; exact signbit_E s m 4 (by omega) (by omega) wx)
      (by rw [en]; exact half_E s m 4 (by omega) (by omega)) (fun wx => Modf_E s m 5 (by omega) (by omega) wx)
      (double_E s (m / 32) (by omega)) (rest_test s (m % 2 ^ 5) 5 (by have := Nat.mod_lt m (show 0 < 2 ^ 5 by decide); omega) (by omega))
      (by
        rw [← E_enc s M 0 hM0]
        by_cases hr : m % 32 = 0
        · rw [if_neg (by simpa using hr)]
          rw [if_neg (by simpa using hr)] at hM
          rw [hM]
        · rw [if_pos (by simpa using hr)]
          rw [if_pos hr] at hM
          rw [← two_E]
          cases s
          · rw [if_neg (by decide)]
            refine (add_E false false (m / 32 * 2) 2 0 (by omega) (by omega) (by show ((m / 32 * 2 : Nat) + (2 : Nat) : Int).natAbs < _; omega) (by omega)).trans ?_
            have e : sg false (m / 32 * 2) + sg false 2 = (M : Int) := by show ((m / 32 * 2 : Nat) : Int) + ((2 : Nat) : Int) = _; omega
            rw [e, if_neg (by omega), decide_eq_false (by omega)]; rfl
          · rw [if_pos rfl]
            refine (sub_E true false (m / 32 * 2) 2 0 (by omega) (by omega) (by show (-((m / 32 * 2 : Nat) : Int) - ((2 : Nat) : Int)).natAbs < _; omega) (by omega)).trans ?_
            have e : sg true (m / 32 * 2) - sg false 2 = -(M : Int) := by show -((m / 32 * 2 : Nat) : Int) - ((2 : Nat) : Int) = _; omega
            rw [e, if_neg (by omega), decide_eq_true (by omega), Int.natAbs_neg]; rfl)
      (fin_enc _ 0 hN (by omega)) w g L el h
    rwa [nz_whole _ hN] at hw
  · apply Int.tmod_eq_zero_of_dvd
    have : sg s M = (M : Int) ∨ sg s M = -(M : Int) := by cases s; exact .inl rfl; exact .inr rfl
    omega
  · rw [natAbs_sg]; omega
  · rw [natAbs_sg]; omega

theorem ODD_num (n : Int) (hn : n.natAbs ≤ 1000000000) :
    ∃ N : Int, (∀ a d, Part n a d → Fn 114 ([((1, a, d, es) : SV)].map avOf) (.num (enc N 0))) ∧ N.tmod 2 ≠ 0 ∧ n.natAbs ≤ 16 * N.natAbs ∧ N.natAbs ≤ 200000000 := by
  by_cases hn0 : n = 0
  · subst hn0
    refine ⟨1, ?_, by decide, by decide, by decide⟩
    intro a d hp w g L el h
    simp only [List.map_cons, List.map_nil] at h
    rw [avI_part hp (by decide), enc_zero] at h
    rw [enc_one]
    exact ODD_zero w g L el h
  obtain ⟨s, hs⟩ : ∃ s, decide (n < 0) = s := ⟨_, rfl⟩
  have en : enc n 4 = E s n.natAbs 4 := by rw [enc_E, hs]
  obtain ⟨t, ht⟩ : ∃ t, decide (n - 16 < 0) = t := ⟨_, rfl⟩
  obtain ⟨k, hk⟩ : ∃ k, (n - 16).natAbs = k := ⟨_, rfl⟩
  have ek : enc (n - 16) 4 = E t k 4 := by rw [enc_E, ht, hk]
  have hnv : n - 16 = sg t k := by rw [← ht, ← hk, sg_natAbs]
  obtain ⟨S, hS⟩ : ∃ S : Int, S = sg t (k / 32 * 2) + 1 := ⟨_, rfl⟩
  obtain ⟨N, hN⟩ : ∃ N : Int, N = if k % 32 ≠ 0 then (if s then S - 2 else S + 2) else S := ⟨_, rfl⟩
  have hs2 : (s = true ∧ n < 0) ∨ (s = false ∧ 0 < n) := by
    cases s
    · right; refine ⟨rfl, ?_⟩; have : ¬ n < 0 := by simpa using hs
      omega
    · left; exact ⟨rfl, by simpa using hs⟩
  have ht2 : (t = true ∧ n - 16 = -(k : Int) ∧ S = -((k / 32 * 2 : Nat) : Int) + 1) ∨ (t = false ∧ n - 16 = (k : Int) ∧ S = ((k / 32 * 2 : Nat) : Int) + 1) := by
    cases t
    · right; exact ⟨rfl, hnv, hS⟩
    · left; exact ⟨rfl, hnv, hS⟩
  have hNS : (k % 32 = 0 ∧ N = S) ∨ (k % 32 ≠ 0 ∧ s = true ∧ N = S - 2) ∨ (k % 32 ≠ 0 ∧ s = false ∧ N = S + 2) := by
    by_cases hr : k % 32 = 0
    · left; exact ⟨hr, by rw [hN, if_neg (by simpa using hr)]⟩
    · right
      rw [if_pos hr] at hN
      cases s
      · right; exact ⟨hr, rfl, by rw [hN, if_neg (by decide)]⟩
      · left; exact ⟨hr, rfl, by rw [hN, if_pos rfl]⟩
  have hS3 : S.natAbs ≤ 180000000 := by
    rcases ht2 with ⟨_, h1, h2⟩ | ⟨_, h1, h2⟩ <;> omega
  have hSne : S ≠ 0 := by
    rcases ht2 with ⟨_, h1, h2⟩ | ⟨_, h1, h2⟩ <;> omega
  have hN3 : N.natAbs ≤ 200000000 := by
    rcases hNS with ⟨_, h2⟩ | ⟨_, _, h2⟩ | ⟨_, _, h2⟩ <;> omega
  refine ⟨N, ?_, ?_, ?_, hN3⟩
  · intro a d hp w g L el h
    simp only [List.map_cons, List.map_nil] at h
    rw [avI_part hp (by omega)] at h
    have hw := ODD_walk (enc n 4) (enc (n - 16) 4) (E t k 5) (E t (k / 2 ^ 5) 0) (E t (k % 2 ^ 5) 5) (E t (k / 32 * 2) 0) (enc S 0) (enc N 0) s (decide (k % 32 ≠ 0)) (fin_enc n 4 (by omega) (by omega)) (nz_enc n 4 (by omega) (by omega))
      (fun wx => by rw [en]; exact signbit_E s n.natAbs 4 (by omega) (by omega) wx)
      (by have := test_enc n 4 (by omega) (by omega); rw [show (n == 0) = false by simpa using hn0] at this; simpa using this)
      (by rw [← one_enc4]; exact sub_enc n 16 4 (by omega) (by omega) (by omega) (by omega))
      (by rw [ek]; exact half_E t k 4 (by omega) (by omega)) (fun wx => Modf_E t k 5 (by omega) (by omega) wx)
      (double_E t (k / 32) (by omega))
      (by
        have hone : E false 1 0 = 4607182418800017408 := E_one
        rw [← hone]
        refine (add_E t false (k / 32 * 2) 1 0 (by omega) (by omega) (by show (sg t (k / 32 * 2) + 1).natAbs < _; rw [← hS]; omega) (by omega)).trans ?_
        have e : sg t (k / 32 * 2) + sg false 1 = S := hS.symm
        rw [e, if_neg hSne, ← enc_E])
      (rest_test t (k % 2 ^ 5) 5 (by have := Nat.mod_lt k (show 0 < 2 ^ 5 by decide); omega) (by omega))
      (by
        rcases hNS with ⟨hr, h2⟩ | ⟨hr, h1, h2⟩ | ⟨hr, h1, h2⟩
        · rw [if_neg (by simpa using hr), h2]
        · rw [if_pos (by simpa using hr), if_pos h1, h2, ← two_enc]
          exact sub_enc S 2 0 (by omega) (by omega) (by omega) (by omega)
        · rw [if_pos (by simpa using hr), if_neg (by rw [h1]; decide), h2, ← two_enc]
          exact add_enc S 2 0 (by omega) (by omega) (by omega) (by omega))
      (fin_enc _ 0 (by omega) (by omega)) w g L el h
    rwa [nz_whole _ (by omega)] at hw
  · intro hz
    have := Int.dvd_of_tmod_eq_zero hz
    rcases ht2 with ⟨_, h1, h2⟩ | ⟨_, h1, h2⟩ <;> rcases hNS with ⟨_, h3⟩ | ⟨_, _, h3⟩ | ⟨_, _, h3⟩ <;> omega
  · rcases hs2 with ⟨e1, h4⟩ | ⟨e1, h4⟩ <;> rcases ht2 with ⟨_, h1, h2⟩ | ⟨_, h1, h2⟩ <;> rcases hNS with ⟨h5, h3⟩ | ⟨h5, e2, h3⟩ | ⟨h5, e2, h3⟩ <;> first | omega | (rw [e1] at e2; cases e2)
end Go.Proofs.YtndabbepepbnmaaGreatDoor
