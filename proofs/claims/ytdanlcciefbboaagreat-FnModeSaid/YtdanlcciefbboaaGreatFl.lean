import Derived.Laws.FloatArith
namespace Go.Proofs.YtdanlcciefbboaaGreat
open Ieee

/-- n / 2^k as a float64 (exact for |n| < 2^53, k ≤ 1000). -/
def enc (n : Int) (k : Nat) : Nat := Ieee.double.nearest (decide (n < 0)) n.natAbs (-(k : Int))

theorem log2_shift (c a : Nat) (hc : c ≠ 0) : (c * 2 ^ a).log2 = c.log2 + a := by
  have h2 : 0 < 2 ^ a := Nat.two_pow_pos a
  rw [Nat.log2_eq_iff (by have := Nat.mul_pos (Nat.pos_of_ne_zero hc) h2; omega)]
  constructor
  · rw [Nat.pow_add]; exact Nat.mul_le_mul_right _ (Nat.log2_self_le hc)
  · rw [show c.log2 + a + 1 = (c.log2 + 1) + a by omega, Nat.pow_add]
    exact Nat.mul_lt_mul_of_pos_right Nat.lt_log2_self h2

theorem cut_even_exact (neg : Bool) (m d : Nat) (hd : d ≤ (m * 2 ^ d).log2 + 2) : Toward.even.cut neg (m * 2 ^ d) d = m := by
  have h2 : 0 < 2 ^ d := Nat.two_pow_pos d
  unfold Toward.cut
  simp only [Nat.min_eq_left hd, Nat.shiftLeft_eq, Nat.one_mul]
  rw [Nat.mul_div_cancel _ h2, Nat.mul_mod_left]
  simp

theorem double_leastPlace : Ieee.double.leastPlace = -1074 := by decide
theorem double_binade : Ieee.double.binade = 4503599627370496 := by decide
theorem double_infRung : Ieee.double.infRung = 9218868437227405312 := by decide
theorem double_signWeight : Ieee.double.signWeight = 9223372036854775808 := by decide
theorem double_fb : (Ieee.double.fractionBits : Nat) = 52 := rfl

/-- the rung of c * 2^e at last place e (normal numbers) -/
theorem nearest_norm (neg : Bool) (c a : Nat) (place : Int) (hc : c ≠ 0) (hc2 : c < 9007199254740992) (hlo : -1074 ≤ place + a + c.log2 - 52) :
    Ieee.double.nearest neg (c * 2 ^ a) place =
      Ieee.double.word neg (min ((place + a + c.log2 - 52 + 1074).toNat * 4503599627370496 + c * 2 ^ (52 - c.log2)) 9218868437227405312) := by
  have h2 : 0 < 2 ^ a := Nat.two_pow_pos a
  have hL : c.log2 < 53 := (Nat.log2_lt hc).2 hc2
  have hm : c * 2 ^ a ≠ 0 := by have := Nat.mul_pos (Nat.pos_of_ne_zero hc) h2; omega
  unfold Format.nearest
  rw [if_neg hm]
  simp only [double_leastPlace, double_binade, double_infRung, double_fb]
  rw [log2_shift c a hc]
  have hlast : max (place + ((c.log2 + a : Nat) : Int) - ((52 : Nat) : Int)) (-1074) = place + a + c.log2 - 52 := by omega
  rw [hlast]
  rw [show (place + a + c.log2 - 52 - -1074 : Int) = place + a + c.log2 - 52 + 1074 by omega]
  congr 3
  rcases Nat.lt_or_ge 52 (c.log2 + a) with hd | hd
  · -- digits dropped
    obtain ⟨d, hd'⟩ : ∃ d, a + c.log2 = 52 + d := ⟨a + c.log2 - 52, by omega⟩
    rw [show (place - (place + a + c.log2 - 52)).toNat = 0 by omega, show (place + a + c.log2 - 52 - place).toNat = d by omega]
    rw [Nat.shiftLeft_zero, show c * 2 ^ a = (c * 2 ^ (52 - c.log2)) * 2 ^ d by rw [Nat.mul_assoc, ← Nat.pow_add]; congr 2; omega]
    apply cut_even_exact
    rw [Nat.mul_assoc, ← Nat.pow_add, log2_shift c _ hc]; omega
  · rw [show (place + a + c.log2 - 52 - place).toNat = 0 by omega, show (place - (place + a + c.log2 - 52)).toNat = 52 - c.log2 - a by omega]
    rw [Nat.shiftLeft_eq, show c * 2 ^ a * 2 ^ (52 - c.log2 - a) = (c * 2 ^ (52 - c.log2)) * 2 ^ 0 by rw [Nat.mul_assoc, ← Nat.pow_add, Nat.pow_zero, Nat.mul_one]; congr 2; omega]
    apply cut_even_exact; omega

theorem nearest_shift (neg : Bool) (c a : Nat) (place : Int) (hc2 : c < 9007199254740992) (hlo : c ≠ 0 → -1074 ≤ place + a + c.log2 - 52) :
    Ieee.double.nearest neg (c * 2 ^ a) place = Ieee.double.nearest neg c (place + a) := by
  by_cases hc : c = 0
  · subst hc; simp [Format.nearest]
  · have h1 := nearest_norm neg c a place hc hc2 (hlo hc)
    have h2 := nearest_norm neg c 0 (place + a) hc hc2 (by have := hlo hc; omega)
    rw [Nat.pow_zero, Nat.mul_one] at h2
    rw [h1, h2]; simp


/-- what the word of n / 2^k reads as -/
theorem read_enc (n : Int) (k : Nat) (hn : n.natAbs < 9007199254740992) (hk : k ≤ 1000) :
    ∃ e : Nat, Ieee.double.read (enc n k) = .number (decide (n < 0)) (n.natAbs * 2 ^ e) (-(k : Int) - e) := by
  by_cases h0 : n = 0
  · subst h0
    refine ⟨1074 - k, ?_⟩
    have : enc 0 k = 0 := by simp [enc, Format.nearest, Format.word]
    rw [this]
    rw [show Ieee.double.read 0 = .number false 0 (-1074) by decide]
    simp; omega
  · have hc : n.natAbs ≠ 0 := by omega
    have hL : n.natAbs.log2 < 53 := (Nat.log2_lt hc).2 hn
    refine ⟨52 - n.natAbs.log2, ?_⟩
    have hw := nearest_norm (decide (n < 0)) n.natAbs 0 (-(k : Int)) hc hn (by omega)
    rw [Nat.pow_zero, Nat.mul_one] at hw
    unfold enc; rw [hw]
    generalize hM : n.natAbs * 2 ^ (52 - n.natAbs.log2) = M
    have hM1 : 4503599627370496 ≤ M := by
      have := Nat.mul_le_mul_right (2 ^ (52 - n.natAbs.log2)) (Nat.log2_self_le hc)
      rw [← Nat.pow_add, show n.natAbs.log2 + (52 - n.natAbs.log2) = 52 by omega, hM] at this
      simpa using this
    have hM2 : M < 9007199254740992 := by
      have := Nat.mul_lt_mul_of_pos_right (Nat.lt_log2_self (n := n.natAbs)) (Nat.two_pow_pos (52 - n.natAbs.log2))
      rw [← Nat.pow_add, show n.natAbs.log2 + 1 + (52 - n.natAbs.log2) = 53 by omega, hM] at this
      simpa using this
    obtain ⟨q, hq⟩ : ∃ q : Nat, (-(k : Int) + ((0 : Nat) : Int) + n.natAbs.log2 - 52 + 1074).toNat = q ∧ -(k : Int) + n.natAbs.log2 - 52 + 1074 = q ∧ 22 ≤ q ∧ q ≤ 1074 := ⟨_, rfl, by omega, by omega, by omega⟩
    rw [hq.1]
    have hmin : min (q * 4503599627370496 + M) 9218868437227405312 = q * 4503599627370496 + M := by omega
    rw [hmin]
    have hword : Ieee.double.word (decide (n < 0)) (q * 4503599627370496 + M) / 9223372036854775808 % 2 = if n < 0 then 1 else 0 := by
      unfold Format.word; rw [double_signWeight]; by_cases h : n < 0 <;> simp [h] <;> omega
    have hmod : Ieee.double.word (decide (n < 0)) (q * 4503599627370496 + M) % 9223372036854775808 = q * 4503599627370496 + M := by
      unfold Format.word; rw [double_signWeight]; by_cases h : n < 0 <;> simp [h] <;> omega
    unfold Format.read
    simp only [double_signWeight, double_binade, double_infRung, double_leastPlace, hword, hmod]
    rw [if_neg (by omega), if_pos (by omega)]
    rw [show (q * 4503599627370496 + M) % 4503599627370496 = M - 4503599627370496 by omega, show (q * 4503599627370496 + M) / 4503599627370496 = q + 1 by omega]
    rw [show 4503599627370496 + (M - 4503599627370496) = M by omega]
    congr 1
    · by_cases h : n < 0 <;> simp [h]
    · omega

theorem enc_zero (k : Nat) : enc 0 k = 0 := by simp [enc, Format.nearest, Format.word]

/-- the same number, written over a greater power -/
theorem enc_shift (n : Int) (k j : Nat) (hn : n.natAbs < 9007199254740992) (hk : k + j ≤ 1000) : enc (n * 2 ^ j) (k + j) = enc n k := by
  unfold enc
  have h2 : (0 : Int) < 2 ^ j := Int.pow_pos (by decide)
  have hs : decide (n * 2 ^ j < 0) = decide (n < 0) := by
    rw [decide_eq_decide]
    constructor
    · intro h; apply Int.not_le.1; intro h3; exact absurd (Int.mul_nonneg h3 (Int.le_of_lt h2)) (by omega)
    · intro h; exact Int.mul_neg_of_neg_of_pos h h2
  have ha : (n * 2 ^ j).natAbs = n.natAbs * 2 ^ j := by rw [Int.natAbs_mul, Int.natAbs_pow]; rfl
  rw [hs, ha, nearest_shift _ _ _ _ hn (by intro h; omega)]
  congr 1; omega

theorem signed_eq (n : Int) (e u : Nat) : Ieee.signed (decide (n < 0)) (n.natAbs * 2 ^ e) u = n * 2 ^ (e + u) := by
  unfold Ieee.signed
  rw [Nat.shiftLeft_eq, Nat.mul_assoc, ← Nat.pow_add]
  by_cases h : n < 0
  · simp only [h, decide_true, if_true]
    rw [Int.natCast_mul, Int.natCast_pow, ← Int.neg_mul]
    congr 1; omega
  · simp only [h, decide_false, Bool.false_eq_true, if_false]
    rw [Int.natCast_mul, Int.natCast_pow]
    congr 1; omega

/-- writing a sum of numbers over 2^k, at a place below -/
theorem write_total (t : Int) (k E : Nat) (ht : t.natAbs < 9007199254740992) (hk : k ≤ 1000) :
    Ieee.double.write (.number (decide (t * 2 ^ E < 0)) (t * 2 ^ E).natAbs (-(k : Int) - E)) = enc t k := by
  have h2 : (0 : Int) < 2 ^ E := Int.pow_pos (by decide)
  have hs : decide (t * 2 ^ E < 0) = decide (t < 0) := by
    rw [decide_eq_decide]
    constructor
    · intro h; apply Int.not_le.1; intro h3; exact absurd (Int.mul_nonneg h3 (Int.le_of_lt h2)) (by omega)
    · intro h; exact Int.mul_neg_of_neg_of_pos h h2
  have ha : (t * 2 ^ E).natAbs = t.natAbs * 2 ^ E := by rw [Int.natAbs_mul, Int.natAbs_pow]; rfl
  show Ieee.double.nearest _ _ _ = _
  rw [hs, ha, nearest_shift _ _ _ _ ht (by intro h; omega)]
  unfold enc; congr 1; omega

theorem sum_num (s t : Bool) (m n : Nat) (i j : Int) :
    Datum.sum (.number s m i) (.number t n j) = some (.number (if signed s m (i - min i j).toNat + signed t n (j - min i j).toNat = 0 then s && t else signed s m (i - min i j).toNat + signed t n (j - min i j).toNat < 0) (signed s m (i - min i j).toNat + signed t n (j - min i j).toNat).natAbs (min i j)) := rfl

theorem add_enc (a b : Int) (k : Nat) (ha : a.natAbs < 9007199254740992) (hb : b.natAbs < 9007199254740992) (hab : (a + b).natAbs < 9007199254740992) (hk : k ≤ 1000) :
    Ieee.double.add (enc a k) (enc b k) = some (enc (a + b) k) := by
  obtain ⟨e, he⟩ := read_enc a k ha hk
  obtain ⟨f, hf⟩ := read_enc b k hb hk
  unfold Format.add
  rw [he, hf, sum_num, Option.map_some]
  have hmin : min (-(k : Int) - e) (-(k : Int) - f) = -(k : Int) - (max e f : Nat) := by omega
  rw [hmin, signed_eq, signed_eq]
  rw [show e + (-(k : Int) - e - (-(k : Int) - (max e f : Nat))).toNat = max e f by omega, show f + (-(k : Int) - f - (-(k : Int) - (max e f : Nat))).toNat = max e f by omega]
  rw [← Int.add_mul]
  have h2 : (0 : Int) < 2 ^ (max e f) := Int.pow_pos (by decide)
  by_cases h0 : a + b = 0
  · rw [h0]
    simp only [Int.zero_mul, if_true]
    have : (decide (a < 0) && decide (b < 0)) = false := by simp; omega
    rw [this]
    rw [enc_zero]; simp [Format.write, Format.nearest, Format.word]
  · have hne : (a + b) * 2 ^ (max e f) ≠ 0 := Int.mul_ne_zero h0 (by omega)
    rw [if_neg hne, write_total _ _ _ hab hk]

theorem opposite_read (b : Int) (k : Nat) (hb : b.natAbs < 9007199254740992) (hk : k ≤ 1000) :
    ∃ e : Nat, (Ieee.double.read (enc b k)).opposite = .number (!decide (b < 0)) (b.natAbs * 2 ^ e) (-(k : Int) - e) := by
  obtain ⟨f, hf⟩ := read_enc b k hb hk
  exact ⟨f, by rw [hf]; rfl⟩

theorem signed_opp (n : Int) (e u : Nat) : Ieee.signed (!decide (n < 0)) (n.natAbs * 2 ^ e) u = (-n) * 2 ^ (e + u) := by
  rw [← signed_eq (-n) e u]
  by_cases h0 : n = 0
  · subst h0; simp [Ieee.signed]
  · have : (!decide (n < 0)) = decide (-n < 0) := by by_cases h : n < 0 <;> simp [h] <;> omega
    rw [this, Int.natAbs_neg]

theorem sub_enc (a b : Int) (k : Nat) (ha : a.natAbs < 9007199254740992) (hb : b.natAbs < 9007199254740992) (hab : (a - b).natAbs < 9007199254740992) (hk : k ≤ 1000) :
    Ieee.double.sub (enc a k) (enc b k) = some (enc (a - b) k) := by
  obtain ⟨e, he⟩ := read_enc a k ha hk
  obtain ⟨f, hf⟩ := opposite_read b k hb hk
  unfold Format.sub
  rw [he, hf, sum_num, Option.map_some]
  have hmin : min (-(k : Int) - e) (-(k : Int) - f) = -(k : Int) - (max e f : Nat) := by omega
  rw [hmin, signed_eq, signed_opp]
  rw [show e + (-(k : Int) - e - (-(k : Int) - (max e f : Nat))).toNat = max e f by omega, show f + (-(k : Int) - f - (-(k : Int) - (max e f : Nat))).toNat = max e f by omega]
  rw [← Int.add_mul, ← Int.sub_eq_add_neg]
  have h2 : (0 : Int) < 2 ^ (max e f) := Int.pow_pos (by decide)
  by_cases h0 : a - b = 0
  · rw [h0]
    simp only [Int.zero_mul, if_true]
    have : (decide (a < 0) && !decide (b < 0)) = false := by simp; omega
    rw [this]
    rw [enc_zero]; simp [Format.write, Format.nearest, Format.word]
  · have hne : (a - b) * 2 ^ (max e f) ≠ 0 := Int.mul_ne_zero h0 (by omega)
    rw [if_neg hne, write_total _ _ _ hab hk]

theorem compare_mul (x y : Int) (E : Nat) : compare (x * 2 ^ E) (y * 2 ^ E) = compare x y := by
  have h2 : (0 : Int) < 2 ^ E := Int.pow_pos (by decide)
  rcases Int.lt_trichotomy x y with h | h | h
  · rw [Int.compare_eq_lt.2 h, Int.compare_eq_lt.2 (Int.mul_lt_mul_of_pos_right h h2)]
  · rw [h, Int.compare_eq_eq.2 rfl, Int.compare_eq_eq.2 rfl]
  · rw [Int.compare_eq_gt.2 h, Int.compare_eq_gt.2 (Int.mul_lt_mul_of_pos_right h h2)]

theorem order_enc (a b : Int) (k : Nat) (ha : a.natAbs < 9007199254740992) (hb : b.natAbs < 9007199254740992) (hk : k ≤ 1000) :
    Ieee.double.order (enc a k) (enc b k) = some (compare a b) := by
  obtain ⟨e, he⟩ := read_enc a k ha hk
  obtain ⟨f, hf⟩ := read_enc b k hb hk
  unfold Format.order
  rw [he, hf]
  show some (compare (signed _ _ _) (signed _ _ _)) = _
  have hmin : min (-(k : Int) - e) (-(k : Int) - f) = -(k : Int) - (max e f : Nat) := by omega
  rw [hmin, signed_eq, signed_eq]
  rw [show e + (-(k : Int) - e - (-(k : Int) - (max e f : Nat))).toNat = max e f by omega, show f + (-(k : Int) - f - (-(k : Int) - (max e f : Nat))).toNat = max e f by omega]
  rw [compare_mul]


/-! numbers by sign and magnitude: a zero has a sign too -/
def E (s : Bool) (m k : Nat) : Nat := Ieee.double.nearest s m (-(k : Int))
def sg (s : Bool) (m : Nat) : Int := if s then -(m : Int) else m
theorem enc_E (n : Int) (k : Nat) : enc n k = E (decide (n < 0)) n.natAbs k := rfl
theorem sg_natAbs (n : Int) : sg (decide (n < 0)) n.natAbs = n := by unfold sg; by_cases h : n < 0 <;> simp [h] <;> omega
theorem natAbs_sg (s : Bool) (m : Nat) : (sg s m).natAbs = m := by unfold sg; cases s <;> simp
theorem E_enc (s : Bool) (m k : Nat) (h : m = 0 → s = false) : E s m k = enc (sg s m) k := by
  unfold enc E; rw [natAbs_sg]; congr 1
  unfold sg; cases s <;> simp <;> simp at h <;> omega
theorem E_negzero (k : Nat) : E true 0 k = 9223372036854775808 := by simp [E, Format.nearest, Format.word, double_signWeight]

theorem log2_norm (m : Nat) (h0 : m ≠ 0) (h : m < 9007199254740992) : (m * 2 ^ (52 - m.log2)).log2 = 52 := by
  have hL : m.log2 < 53 := (Nat.log2_lt h0).2 h
  rw [log2_shift _ _ h0]; omega

/-- what the word reads as; its magnitude has 53 digits, if it is not zero -/
theorem read_E (s : Bool) (m k : Nat) (hn : m < 9007199254740992) (hk : k ≤ 1000) :
    ∃ e : Nat, Ieee.double.read (E s m k) = .number s (m * 2 ^ e) (-(k : Int) - e) ∧ (m ≠ 0 → e = 52 - m.log2) := by
  by_cases h0 : m = 0
  · subst h0
    refine ⟨1074 - k, ?_, fun h => absurd rfl h⟩
    have h1 : E s 0 k = if s then 9223372036854775808 else 0 := by cases s <;> simp [E, Format.nearest, Format.word, double_signWeight]
    rw [h1]
    cases s
    · rw [show (if false = true then 9223372036854775808 else 0) = 0 from rfl, show Ieee.double.read 0 = .number false 0 (-1074) by decide]
      simp; omega
    · rw [show (if true = true then 9223372036854775808 else 0) = 9223372036854775808 from rfl, show Ieee.double.read 9223372036854775808 = .number true 0 (-1074) by decide]
      simp; omega
  · have hL : m.log2 < 53 := (Nat.log2_lt h0).2 hn
    refine ⟨52 - m.log2, ?_, fun _ => rfl⟩
    have hw := nearest_norm s m 0 (-(k : Int)) h0 hn (by omega)
    rw [Nat.pow_zero, Nat.mul_one] at hw
    unfold E; rw [hw]
    generalize hM : m * 2 ^ (52 - m.log2) = M
    have hM1 : 4503599627370496 ≤ M := by
      have := Nat.mul_le_mul_right (2 ^ (52 - m.log2)) (Nat.log2_self_le h0)
      rw [← Nat.pow_add, show m.log2 + (52 - m.log2) = 52 by omega, hM] at this
      simpa using this
    have hM2 : M < 9007199254740992 := by
      have := Nat.mul_lt_mul_of_pos_right (Nat.lt_log2_self (n := m)) (Nat.two_pow_pos (52 - m.log2))
      rw [← Nat.pow_add, show m.log2 + 1 + (52 - m.log2) = 53 by omega, hM] at this
      simpa using this
    obtain ⟨q, hq⟩ : ∃ q : Nat, (-(k : Int) + ((0 : Nat) : Int) + m.log2 - 52 + 1074).toNat = q ∧ -(k : Int) + m.log2 - 52 + 1074 = q ∧ 22 ≤ q ∧ q ≤ 1074 := ⟨_, rfl, by omega, by omega, by omega⟩
    rw [hq.1]
    have hmin : min (q * 4503599627370496 + M) 9218868437227405312 = q * 4503599627370496 + M := by omega
    rw [hmin]
    have hword : Ieee.double.word s (q * 4503599627370496 + M) / 9223372036854775808 % 2 = if s then 1 else 0 := by
      unfold Format.word; rw [double_signWeight]; cases s <;> simp <;> omega
    have hmod : Ieee.double.word s (q * 4503599627370496 + M) % 9223372036854775808 = q * 4503599627370496 + M := by
      unfold Format.word; rw [double_signWeight]; cases s <;> simp <;> omega
    unfold Format.read
    simp only [double_signWeight, double_binade, double_infRung, double_leastPlace, hword, hmod]
    rw [if_neg (by omega), if_pos (by omega)]
    rw [show (q * 4503599627370496 + M) % 4503599627370496 = M - 4503599627370496 by omega, show (q * 4503599627370496 + M) / 4503599627370496 = q + 1 by omega]
    rw [show 4503599627370496 + (M - 4503599627370496) = M by omega]
    congr 1
    · cases s <;> rfl
    · omega

theorem signed_sg (s : Bool) (m e u : Nat) : Ieee.signed s (m * 2 ^ e) u = sg s m * 2 ^ (e + u) := by
  unfold Ieee.signed sg
  rw [Nat.shiftLeft_eq, Nat.mul_assoc, ← Nat.pow_add]
  cases s
  · simp only [Bool.false_eq_true, if_false]; rw [Int.natCast_mul, Int.natCast_pow]; rfl
  · simp only [if_true]; rw [Int.natCast_mul, Int.natCast_pow, ← Int.neg_mul]; rfl

theorem add_E (s t : Bool) (m n k : Nat) (hm : m < 9007199254740992) (hn : n < 9007199254740992) (hab : (sg s m + sg t n).natAbs < 9007199254740992) (hk : k ≤ 1000) :
    Ieee.double.add (E s m k) (E t n k) = some (E (if sg s m + sg t n = 0 then s && t else decide (sg s m + sg t n < 0)) (sg s m + sg t n).natAbs k) := by
  obtain ⟨e, he, _⟩ := read_E s m k hm hk
  obtain ⟨f, hf, _⟩ := read_E t n k hn hk
  unfold Format.add
  rw [he, hf, sum_num, Option.map_some]
  have hmin : min (-(k : Int) - e) (-(k : Int) - f) = -(k : Int) - (max e f : Nat) := by omega
  rw [hmin, signed_sg, signed_sg]
  rw [show e + (-(k : Int) - e - (-(k : Int) - (max e f : Nat))).toNat = max e f by omega, show f + (-(k : Int) - f - (-(k : Int) - (max e f : Nat))).toNat = max e f by omega]
  rw [← Int.add_mul]
  have h2 : (0 : Int) < 2 ^ (max e f) := Int.pow_pos (by decide)
  by_cases h0 : sg s m + sg t n = 0
  · rw [h0]
    simp only [Int.zero_mul, if_true]
    simp [Format.write, Format.nearest, E]
  · have hne : (sg s m + sg t n) * 2 ^ (max e f) ≠ 0 := Int.mul_ne_zero h0 (by omega)
    rw [if_neg hne, if_neg h0, write_total _ _ _ hab hk]; rfl

theorem sub_E (s t : Bool) (m n k : Nat) (hm : m < 9007199254740992) (hn : n < 9007199254740992) (hab : (sg s m - sg t n).natAbs < 9007199254740992) (hk : k ≤ 1000) :
    Ieee.double.sub (E s m k) (E t n k) = some (E (if sg s m - sg t n = 0 then s && !t else decide (sg s m - sg t n < 0)) (sg s m - sg t n).natAbs k) := by
  obtain ⟨e, he, _⟩ := read_E t n k hn hk
  obtain ⟨f, hf, h⟩ := read_E (!t) n k hn hk
  have hop : (Ieee.double.read (E t n k)).opposite = Ieee.double.read (E (!t) n k) := by
    by_cases h0 : n = 0
    · subst h0
      have h1 : ∀ b, E b 0 k = if b then 9223372036854775808 else 0 := fun b => by cases b <;> simp [E, Format.nearest, Format.word, double_signWeight]
      rw [h1, h1]; cases t <;> decide
    · obtain ⟨e, he, he'⟩ := read_E t n k hn hk
      rw [he, hf, he' h0, h h0]; rfl
  have := add_E s (!t) m n k hm hn (by unfold sg at hab ⊢; cases t <;> cases s <;> simp at hab ⊢ <;> omega) hk
  unfold Format.sub
  unfold Format.add at this
  rw [hop, this]
  have hs : sg s m + sg (!t) n = sg s m - sg t n := by unfold sg; cases t <;> simp <;> omega
  rw [hs]

theorem mul_E (s t : Bool) (m n k l : Nat) (hm : m < 9007199254740992) (hn : n < 9007199254740992) (hmn : m * n < 9007199254740992) (hk : k + l ≤ 1000) :
    Ieee.double.mul (E s m k) (E t n l) = some (E (s ^^ t) (m * n) (k + l)) := by
  obtain ⟨e, he, _⟩ := read_E s m k hm (by omega)
  obtain ⟨f, hf, _⟩ := read_E t n l hn (by omega)
  unfold Format.mul
  rw [he, hf]
  show some (Ieee.double.nearest _ _ _) = _
  rw [show m * 2 ^ e * (n * 2 ^ f) = (m * n) * 2 ^ (e + f) by rw [Nat.pow_add]; ac_rfl]
  rw [nearest_shift _ _ _ _ hmn (by intro h; omega)]
  unfold E; congr 2; omega

theorem order_E (s t : Bool) (m n k : Nat) (ha : m < 9007199254740992) (hb : n < 9007199254740992) (hk : k ≤ 1000) :
    Ieee.double.order (E s m k) (E t n k) = some (compare (sg s m) (sg t n)) := by
  obtain ⟨e, he, _⟩ := read_E s m k ha hk
  obtain ⟨f, hf, _⟩ := read_E t n k hb hk
  unfold Format.order
  rw [he, hf]
  show some (compare (signed _ _ _) (signed _ _ _)) = _
  have hmin : min (-(k : Int) - e) (-(k : Int) - f) = -(k : Int) - (max e f : Nat) := by omega
  rw [hmin, signed_sg, signed_sg]
  rw [show e + (-(k : Int) - e - (-(k : Int) - (max e f : Nat))).toNat = max e f by omega, show f + (-(k : Int) - f - (-(k : Int) - (max e f : Nat))).toNat = max e f by omega]
  rw [compare_mul]

theorem cut_zero (s : Bool) (m e k : Nat) : Toward.zero.cut s (m * 2 ^ e) (k + e) = m / 2 ^ k := by
  unfold Toward.cut
  simp only [Nat.shiftLeft_eq, Nat.one_mul, Bool.toNat_false, Nat.add_zero]
  rcases Nat.le_total (k + e) ((m * 2 ^ e).log2 + 2) with h | h
  · rw [Nat.min_eq_left h, Nat.pow_add, Nat.mul_div_mul_right _ _ (Nat.two_pow_pos e)]
  · rw [Nat.min_eq_right h]
    have h1 : m * 2 ^ e < 2 ^ ((m * 2 ^ e).log2 + 2) := Nat.lt_of_lt_of_le Nat.lt_log2_self (Nat.pow_le_pow_right (by decide) (by omega))
    rw [Nat.div_eq_of_lt h1]
    have h2 : m * 2 ^ e < 2 ^ (k + e) := Nat.lt_of_lt_of_le h1 (Nat.pow_le_pow_right (by decide) h)
    rw [Nat.pow_add] at h2
    rw [Nat.div_eq_of_lt (Nat.lt_of_mul_lt_mul_right h2)]

theorem integral_E (s : Bool) (m k : Nat) (hm : m < 9007199254740992) (hk : k ≤ 1000) :
    (Ieee.double.read (E s m k)).integral .zero = .number s (m / 2 ^ k) 0 := by
  obtain ⟨e, he, _⟩ := read_E s m k hm hk
  rw [he]
  show Datum.number s (Toward.zero.cut s ((m * 2 ^ e) <<< (-(k : Int) - e).toNat) (-(-(k : Int) - e)).toNat) 0 = _
  rw [show (-(k : Int) - e).toNat = 0 by omega, Nat.shiftLeft_zero, show (-(-(k : Int) - (e : Int))).toNat = k + e by omega, cut_zero]

theorem toInt_E (s : Bool) (m k : Nat) (hm : m < 9007199254740992) (hk : k ≤ 1000) :
    (Ieee.double.read (E s m k)).toInt .zero = some (sg s (m / 2 ^ k)) := by
  unfold Datum.toInt
  rw [integral_E s m k hm hk]
  show some (signed s _ 0) = _
  have := signed_sg s (m / 2 ^ k) 0 0
  simpa using this

/-- an exact quotient -/
theorem div_E (s t : Bool) (m n c k l r : Nat) (hm : m < 9007199254740992) (hn : n < 9007199254740992) (hc : c < 9007199254740992) (hn0 : n ≠ 0)
    (hx : m * 2 ^ (r + l) = c * n * 2 ^ k) (hk : k ≤ 200) (hl : l ≤ 200) (_hr : r ≤ 200) :
    Ieee.double.div (E s m k) (E t n l) = some (E (s ^^ t) c r) := by
  obtain ⟨e, he, he'⟩ := read_E s m k hm (by omega)
  obtain ⟨f, hf, hf'⟩ := read_E t n l hn (by omega)
  unfold Format.div
  rw [he, hf]
  have hnz : n * 2 ^ f ≠ 0 := by have := Nat.mul_pos (Nat.pos_of_ne_zero hn0) (Nat.two_pow_pos f); omega
  show Option.map _ (if n * 2 ^ f = 0 then _ else _) = _
  rw [if_neg hnz, Option.map_some]
  show some (Ieee.double.nearest _ _ _) = _
  congr 1
  by_cases hm0 : m = 0
  · subst hm0
    have hc0 : c = 0 := by
      rw [Nat.zero_mul] at hx
      have := Nat.mul_eq_zero.1 hx.symm
      have h2 := Nat.two_pow_pos k
      rcases this with h | h
      · rcases Nat.mul_eq_zero.1 h with h | h
        · exact h
        · exact absurd h hn0
      · omega
    subst hc0
    simp [Nat.zero_shiftLeft, Format.nearest, E]
  · have hc0 : c ≠ 0 := by
      rintro rfl
      rw [Nat.zero_mul, Nat.zero_mul] at hx
      rcases Nat.mul_eq_zero.1 hx with h | h
      · exact hm0 h
      · have := Nat.two_pow_pos (r + l); omega
    have hLm : m.log2 < 53 := (Nat.log2_lt hm0).2 hm
    have hLn : n.log2 < 53 := (Nat.log2_lt hn0).2 hn
    have hLc : c.log2 < 53 := (Nat.log2_lt hc0).2 hc
    have hlm : (m * 2 ^ e).log2 = 52 := by rw [he' hm0]; exact log2_norm m hm0 hm
    have hln : (n * 2 ^ f).log2 = 52 := by rw [hf' hn0]; exact log2_norm n hn0 hn
    rw [hlm, hln]
    have hl2 : m.log2 + (r + l) ≤ c.log2 + n.log2 + 1 + k := by
      have h1 : (m * 2 ^ (r + l)).log2 = m.log2 + (r + l) := log2_shift _ _ hm0
      have h2 : (c * n * 2 ^ k).log2 = (c * n).log2 + k := log2_shift _ _ (Nat.mul_ne_zero hc0 hn0)
      have h3 : (c * n).log2 < c.log2 + n.log2 + 2 := by
        rw [Nat.log2_lt (Nat.mul_ne_zero hc0 hn0)]
        have h4 : c * n < 2 ^ (c.log2 + 1) * 2 ^ (n.log2 + 1) := Nat.mul_lt_mul'' Nat.lt_log2_self Nat.lt_log2_self
        rw [← Nat.pow_add] at h4
        rw [show c.log2 + n.log2 + 2 = c.log2 + 1 + (n.log2 + 1) by omega]; exact h4
      rw [hx, h2] at h1; omega
    have hE := he' hm0
    have hF := hf' hn0
    obtain ⟨X, hX⟩ : ∃ X : Nat, e + 54 + k = X + (r + l) + f := ⟨e + 54 + k - (r + l) - f, by omega⟩
    have hq : (m * 2 ^ e) <<< (Ieee.double.fractionBits + 2 + 52 - 52) = c * 2 ^ X * (n * 2 ^ f) := by
      rw [Nat.shiftLeft_eq, show Ieee.double.fractionBits + 2 + 52 - 52 = 54 from rfl]
      apply Nat.eq_of_mul_eq_mul_right (Nat.two_pow_pos (r + l))
      calc m * 2 ^ e * 2 ^ 54 * 2 ^ (r + l) = m * 2 ^ (r + l) * 2 ^ (e + 54) := by rw [Nat.pow_add 2 e 54]; ac_rfl
        _ = c * n * 2 ^ k * 2 ^ (e + 54) := by rw [hx]
        _ = c * n * 2 ^ (X + (r + l) + f) := by rw [Nat.mul_assoc (c * n), ← Nat.pow_add]; congr 2; omega
        _ = c * 2 ^ X * (n * 2 ^ f) * 2 ^ (r + l) := by rw [Nat.pow_add, Nat.pow_add]; ac_rfl
    rw [hq, Nat.mul_div_cancel _ (Nat.pos_of_ne_zero hnz), Nat.mul_mod_left]
    rw [show 2 * (c * 2 ^ X) + ((0 : Nat) != 0).toNat = c * 2 ^ (X + 1) by rw [Nat.pow_succ]; simp; ac_rfl]
    rw [nearest_shift _ _ _ _ hc (by intro _; simp only [double_fb]; omega)]
    have hp : (-(k : Int) - e - (-(l : Int) - f) - ((Ieee.double.fractionBits + 2 + 52 - 52 : Nat) : Int) - 1 + ((X + 1 : Nat) : Int)) = -(r : Int) := by simp only [double_fb]; omega
    rw [hp]; rfl

theorem cut_near (way : Toward) (neg : Bool) (n d : Nat) (hd : d ≤ n.log2 + 2) : ∃ b : Nat, b ≤ 1 ∧ way.cut neg n d = n / 2 ^ d + b := by
  unfold Toward.cut
  simp only [Nat.min_eq_left hd, Nat.shiftLeft_eq, Nat.one_mul]
  exact ⟨_, Bool.toNat_le _, rfl⟩

theorem nearest_word (neg : Bool) (c : Nat) (K : Nat) (hc : 4503599627370496 ≤ c) (hc2 : c ≤ 9007199254740992) (hK : K ≤ 900) (hK1 : 1 ≤ K) :
    ∃ M K', Ieee.double.word neg (min ((-(K : Int) + 1074).toNat * 4503599627370496 + c) 9218868437227405312) = E neg M K' ∧ M < 9007199254740992 ∧
      ((M = c ∧ K' = K) ∨ (2 * M = c ∧ K = K' + 1)) := by
  rcases Nat.lt_or_ge c 9007199254740992 with h | h
  · refine ⟨c, K, ?_, h, .inl ⟨rfl, rfl⟩⟩
    have h0 : c ≠ 0 := by omega
    have hl : c.log2 = 52 := by rw [Nat.log2_eq_iff h0]; exact ⟨by simpa using hc, by simpa using h⟩
    have := nearest_norm neg c 0 (-(K : Int)) h0 h (by omega)
    rw [Nat.pow_zero, Nat.mul_one, hl] at this
    unfold E; rw [this, Nat.pow_zero, Nat.mul_one]
    rw [show (-(K : Int) + ((0 : Nat) : Int) + ((52 : Nat) : Int) - 52 + 1074).toNat = (-(K : Int) + 1074).toNat by omega]
  · obtain rfl : c = 9007199254740992 := by omega
    refine ⟨4503599627370496, K - 1, ?_, by omega, .inr ⟨rfl, by omega⟩⟩
    have hl : (4503599627370496 : Nat).log2 = 52 := by rw [Nat.log2_eq_iff (by omega)]; decide
    have := nearest_norm neg 4503599627370496 0 (-((K - 1 : Nat) : Int)) (by omega) (by omega) (by omega)
    rw [Nat.pow_zero, Nat.mul_one, hl] at this
    unfold E; rw [this, Nat.pow_zero, Nat.mul_one]
    have e1 : (-(K : Int) + 1074).toNat * 4503599627370496 + 9007199254740992 = (-((K - 1 : Nat) : Int) + ((0 : Nat) : Int) + ((52 : Nat) : Int) - 52 + 1074).toNat * 4503599627370496 + 4503599627370496 := by omega
    rw [e1]

theorem div_mod_bounds (m n K : Nat) (hn : 0 < n) (hK : 2 * n ≤ 2 ^ K) (hnd : m % n ≠ 0) :
    m / n * 2 ^ K < m * 2 ^ K / n ∧ m * 2 ^ K / n + 1 < (m / n + 1) * 2 ^ K := by
  have h2 : 0 < 2 ^ K := Nat.two_pow_pos K
  generalize 2 ^ K = T at *
  have hm : m = n * (m / n) + m % n := (Nat.div_add_mod m n).symm
  generalize m / n = q at *
  generalize hr : m % n = r at *
  have hrn : r < n := by rw [← hr]; exact Nat.mod_lt _ hn
  have e : m * T / n = q * T + r * T / n := by
    rw [hm, Nat.add_mul, Nat.mul_assoc, Nat.add_comm, Nat.add_mul_div_left _ _ hn, Nat.add_comm]
  rw [e]
  have h1 : 1 ≤ r * T / n := by
    rw [Nat.le_div_iff_mul_le hn]
    have := Nat.mul_le_mul (show 1 ≤ r by omega) (show n ≤ T by omega)
    omega
  have h3 : r * T / n + 2 ≤ T := by
    have : r * T / n ≤ (n - 1) * T / n := Nat.div_le_div_right (Nat.mul_le_mul_right _ (by omega))
    have h4 : (n - 1) * T / n < T - 1 := by
      rw [Nat.div_lt_iff_lt_mul hn, Nat.sub_mul, Nat.sub_mul, Nat.mul_comm n T]
      have : T ≤ T * n := Nat.le_mul_of_pos_right T hn
      omega
    omega
  rw [Nat.add_mul]; omega

/-- A quotient of whole numbers: exact, or strictly between its whole part and the next number. -/
theorem div_whole (s t : Bool) (m n : Nat) (hm0 : m ≠ 0) (hn0 : n ≠ 0) (hm : m < 2147483648) (hn : n < 2147483648) :
    ∃ M K, M < 9007199254740992 ∧ K ≤ 100 ∧ Ieee.double.div (E s m 0) (E t n 0) = some (E (s ^^ t) M K) ∧
      ((m % n = 0 ∧ M = m / n ∧ K = 0) ∨ (m % n ≠ 0 ∧ m / n * 2 ^ K < M ∧ M < (m / n + 1) * 2 ^ K)) := by
  by_cases hd : m % n = 0
  · refine ⟨m / n, 0, ?_, by omega, ?_, .inl ⟨hd, rfl, rfl⟩⟩
    · exact Nat.lt_of_le_of_lt (Nat.div_le_self m n) (by omega)
    · refine div_E s t m n (m / n) 0 0 0 (by omega) (by omega) (Nat.lt_of_le_of_lt (Nat.div_le_self m n) (by omega)) hn0 ?_ (by omega) (by omega) (by omega)
      rw [Nat.div_mul_cancel (Nat.dvd_of_mod_eq_zero hd)]
  · obtain ⟨e, he, he'⟩ := read_E s m 0 (by omega) (by omega)
    obtain ⟨f, hf, hf'⟩ := read_E t n 0 (by omega) (by omega)
    have hnz : n * 2 ^ f ≠ 0 := by have := Nat.mul_pos (Nat.pos_of_ne_zero hn0) (Nat.two_pow_pos f); omega
    have hLm : m.log2 < 31 := (Nat.log2_lt hm0).2 (by omega)
    have hLn : n.log2 < 31 := (Nat.log2_lt hn0).2 (by omega)
    have hlm : (m * 2 ^ e).log2 = 52 := by rw [he' hm0]; exact log2_norm m hm0 (by omega)
    have hln : (n * 2 ^ f).log2 = 52 := by rw [hf' hn0]; exact log2_norm n hn0 (by omega)
    have hmz : m * 2 ^ e ≠ 0 := by have := Nat.mul_pos (Nat.pos_of_ne_zero hm0) (Nat.two_pow_pos e); omega
    have bm := (Nat.log2_eq_iff hmz).1 hlm
    have bn := (Nat.log2_eq_iff hnz).1 hln
    have hE := he' hm0
    have hF := hf' hn0
    -- the words
    have hdiv : Ieee.double.div (E s m 0) (E t n 0) = some (Ieee.double.nearest (s ^^ t) (2 * (m * 2 ^ e * 2 ^ 54 / (n * 2 ^ f)) + (m * 2 ^ e * 2 ^ 54 % (n * 2 ^ f) != 0).toNat) ((f : Int) - e - 55)) := by
      unfold Format.div
      rw [he, hf]
      show Option.map _ (if n * 2 ^ f = 0 then _ else _) = _
      rw [if_neg hnz, Option.map_some]
      show some (Ieee.double.nearest _ _ _) = _
      rw [hlm, hln, show Ieee.double.fractionBits + 2 + 52 - 52 = 54 from rfl, Nat.shiftLeft_eq]
      congr 2; omega
    -- the numbers
    generalize hA : m * 2 ^ e = A at *
    generalize hB : n * 2 ^ f = B at *
    have hAY : A * 2 ^ 54 = A * 18014398509481984 := rfl
    generalize hQ : A * 2 ^ 54 / B = Q at *
    have hBpos : 0 < B := by omega
    have hQ1 : 9007199254740992 ≤ Q := by
      rw [← hQ, Nat.le_div_iff_mul_le hBpos]
      have : B < 9007199254740992 := by simpa using bn.2
      have : 4503599627370496 ≤ A := by simpa using bm.1
      omega
    have hQ2 : Q < 36028797018963968 := by
      rw [← hQ, Nat.div_lt_iff_lt_mul hBpos]
      have : 4503599627370496 ≤ B := by simpa using bn.1
      have : A < 9007199254740992 := by simpa using bm.2
      omega
    obtain ⟨st, hst, hst1⟩ : ∃ st : Nat, (A * 2 ^ 54 % B != 0).toNat = st ∧ st ≤ 1 := ⟨_, rfl, Bool.toNat_le _⟩
    rw [hst] at hdiv
    have hG0 : 2 * Q + st ≠ 0 := by omega
    obtain ⟨d, hd2, hL⟩ : ∃ d, (d = 2 ∨ d = 3) ∧ (2 * Q + st).log2 = d + 52 := by
      rcases Nat.lt_or_ge (2 * Q + st) 36028797018963968 with h | h
      · exact ⟨2, .inl rfl, (Nat.log2_eq_iff hG0).2 ⟨by omega, by omega⟩⟩
      · exact ⟨3, .inr rfl, (Nat.log2_eq_iff hG0).2 ⟨by omega, by omega⟩⟩
    obtain ⟨K, hK⟩ : ∃ K : Nat, (K : Int) = (e : Int) - f + 55 - d := ⟨((e : Int) - f + 55 - d).toNat, by omega⟩
    obtain ⟨b, hb, hcut⟩ := cut_near .even (s ^^ t) (2 * Q + st) d (by omega)
    have hlow : (2 * Q + st) / 2 ^ d = m * 2 ^ K / n := by
      have h1 : (2 * Q + st) / 2 ^ d = Q / 2 ^ (d - 1) := by
        rcases hd2 with rfl | rfl
        · show (2 * Q + st) / 4 = Q / 2; omega
        · show (2 * Q + st) / 8 = Q / 4; omega
      rw [h1, ← hQ, Nat.div_div_eq_div_mul, ← hA, ← hB]
      rw [show m * 2 ^ e * 2 ^ 54 = m * 2 ^ K * 2 ^ (f + (d - 1)) by rw [Nat.mul_assoc, Nat.mul_assoc, ← Nat.pow_add, ← Nat.pow_add]; congr 2; omega]
      rw [show n * 2 ^ f * 2 ^ (d - 1) = n * 2 ^ (f + (d - 1)) by rw [Nat.mul_assoc, ← Nat.pow_add]]
      exact Nat.mul_div_mul_right _ _ (Nat.two_pow_pos _)
    have hc1 : 4503599627370496 ≤ m * 2 ^ K / n := by
      rw [← hlow]
      have := (Nat.log2_eq_iff hG0).1 hL
      rcases hd2 with rfl | rfl
      · have := this.1; show _ ≤ (2 * Q + st) / 4; omega
      · have := this.1; show _ ≤ (2 * Q + st) / 8; omega
    have hc2 : m * 2 ^ K / n < 9007199254740992 := by
      rw [← hlow]
      have := (Nat.log2_eq_iff hG0).1 hL
      rcases hd2 with rfl | rfl
      · have := this.2; show (2 * Q + st) / 4 < _; omega
      · have := this.2; show (2 * Q + st) / 8 < _; omega
    have hnear : Ieee.double.nearest (s ^^ t) (2 * Q + st) ((f : Int) - e - 55) = Ieee.double.word (s ^^ t) (min ((-(K : Int) + 1074).toNat * 4503599627370496 + (m * 2 ^ K / n + b)) 9218868437227405312) := by
      unfold Format.nearest
      rw [if_neg hG0]
      simp only [double_leastPlace, double_binade, double_infRung, double_fb]
      rw [hL]
      have hlast : max ((f : Int) - e - 55 + ((d + 52 : Nat) : Int) - ((52 : Nat) : Int)) (-1074) = -(K : Int) := by omega
      rw [hlast]
      rw [show ((f : Int) - e - 55 - -(K : Int)).toNat = 0 by omega, show (-(K : Int) - ((f : Int) - e - 55)).toNat = d by omega, Nat.shiftLeft_zero, hcut, hlow]
      rw [show (-(K : Int) - -1074) = -(K : Int) + 1074 by omega]
    obtain ⟨M, K', hw, hM, hMK⟩ := nearest_word (s ^^ t) (m * 2 ^ K / n + b) K (by omega) (by omega) (by omega) (by omega)
    have h2n : 2 * n ≤ 2 ^ K := by
      have h1 : n < 2 ^ (n.log2 + 1) := Nat.lt_log2_self
      have h2 : 2 ^ (n.log2 + 2) ≤ 2 ^ K := Nat.pow_le_pow_right (by decide) (by omega)
      rw [show n.log2 + 2 = (n.log2 + 1) + 1 by omega, Nat.pow_succ] at h2
      omega
    have hbd := div_mod_bounds m n K (by omega) h2n hd
    refine ⟨M, K', hM, by omega, by rw [hdiv, hnear, hw], .inr ⟨hd, ?_⟩⟩
    rcases hMK with ⟨rfl, rfl⟩ | ⟨h2M, rfl⟩
    · omega
    · generalize m * 2 ^ (K' + 1) / n = z at *
      rw [Nat.pow_succ] at hbd
      rw [← Nat.mul_assoc, ← Nat.mul_assoc] at hbd
      omega

end Go.Proofs.YtdanlcciefbboaaGreat
