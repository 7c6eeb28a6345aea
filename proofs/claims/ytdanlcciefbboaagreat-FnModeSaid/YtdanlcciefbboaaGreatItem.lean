import Derived.Test.YtdanlcciefbboaaGreatIsL
import Derived.Test.YtdanlcciefbboaaGreatTab
namespace Go.Proofs.YtdanlcciefbboaaGreat
open Go.RowKit
attribute [local go_sem] run_store_float

theorem str_any (s : ByteArray) (w : World) : Calls Tryz.prog 29 #[.string s] w fun e w' => e = .returned (sv 2 0 0 s) ∧ Below w.heap.size w w' := by
  go_enter Tryz.func29, Tryz.ntmps29
  go_wp2
  exact end_cell Tryz.results29 rfl (Bk.new w _ _) Tryz.underlying34 rfl info_sv rfl ⟨rfl, (Below.refl _ _).alloc (Nat.le_refl _) _⟩
theorem err_any (s : ByteArray) (w : World) : Calls Tryz.prog 31 #[.string s] w fun e w' => e = .returned (sv 4 0 0 s) ∧ Below w.heap.size w w' := by
  go_enter Tryz.func31, Tryz.ntmps31
  go_wp2
  exact end_cell Tryz.results31 rfl (Bk.new w _ _) Tryz.underlying34 rfl info_sv rfl ⟨rfl, (Below.refl _ _).alloc (Nat.le_refl _) _⟩

/-- a / d is n / 16 -/
def Part (n a d : Int) : Prop := (d = 16 ∧ a = n) ∨ (d = 8 ∧ a * 2 = n) ∨ (d = 4 ∧ a * 4 = n) ∨ (d = 2 ∧ a * 8 = n) ∨ (d = 1 ∧ a * 16 = n)
def Lowest (n a d : Int) : Prop := Part n a d ∧ (d = 1 ∨ a.tmod 2 ≠ 0)

theorem part_half {n a d : Int} (h : Part n a d) (hd : 1 < d) (ha : a.tmod 2 = 0) : Part n (a.tdiv 2) (d / 2) := by
  have e : a.tdiv 2 * 2 = a := by have := Int.tdiv_mul_add_tmod a 2; omega
  unfold Part at *
  rcases h with ⟨rfl, h⟩ | ⟨rfl, h⟩ | ⟨rfl, h⟩ | ⟨rfl, h⟩ | ⟨rfl, h⟩
  · right; left; exact ⟨rfl, by omega⟩
  · right; right; left; exact ⟨rfl, by omega⟩
  · right; right; right; left; exact ⟨rfl, by omega⟩
  · right; right; right; right; exact ⟨rfl, by omega⟩
  · omega
theorem lowest_whole {N a d : Int} (h : Lowest (N * 16) a d) : a = N ∧ d = 1 := by
  obtain ⟨h, h2⟩ := h
  have e := Int.tdiv_mul_add_tmod a 2
  unfold Part at h
  rcases h with ⟨rfl, h⟩ | ⟨rfl, h⟩ | ⟨rfl, h⟩ | ⟨rfl, h⟩ | ⟨rfl, h⟩
  · rcases h2 with h2 | h2
    · omega
    · exact absurd (by rw [h, show N * 16 = N * 8 * 2 by omega]; exact Int.mul_tmod_left _ _) h2
  · rcases h2 with h2 | h2
    · omega
    · exact absurd (by rw [show a = N * 4 * 2 by omega]; exact Int.mul_tmod_left _ _) h2
  · rcases h2 with h2 | h2
    · omega
    · exact absurd (by rw [show a = N * 2 * 2 by omega]; exact Int.mul_tmod_left _ _) h2
  · rcases h2 with h2 | h2
    · omega
    · exact absurd (by rw [show a = N * 2 by omega]; exact Int.mul_tmod_left _ _) h2
  · exact ⟨by omega, rfl⟩

set_option maxRecDepth 100000 in
theorem frac_any (n : Int) (w : World) (h1 : -1599999999984 ≤ n) (h2 : n ≤ 1599999999984) (hg : ∀ a d, Lowest n a d → -99999999999 ≤ a ∧ a ≤ 99999999999) :
    Calls Tryz.prog 28 #[.int .i64 n, .int .i64 16] w fun e w' => ∃ a d, e = .returned (sv 1 a d es) ∧ Lowest n a d ∧ Below w.heap.size w w' := by
  have hm : (n * 16).tmod 16 = 0 := Int.mul_tmod_left n 16
  have hq : (n * 16).tdiv 16 = n := Int.mul_tdiv_cancel n (by omega)
  have HG := hid hg
  clear hg
  go_enter Tryz.func28, Tryz.ntmps28
  go_wp2_with fail
  go_loop [0, 1] (fun x y => ∃ a d : Int, x = .int .i64 a ∧ y = .int .i64 d ∧ Part n a d) (fun _ y => (intOf y).toNat)
  case atStart => exact ⟨n, 16, rfl, rfl, .inl ⟨rfl, rfl⟩⟩
  case round =>
    clear hm hq
    obtain ⟨a, d, rfl, rfl, hp⟩ := hrel
    have hd1 : 1 ≤ d := by unfold Part at hp; omega
    have hd2 : d ≤ 16 := by unfold Part at hp; omega
    have ha1 : -1599999999984 ≤ a := by unfold Part at hp; omega
    have ha2 : a ≤ 1599999999984 := by unfold Part at hp; omega
    have HP := hid hp
    clear hp
    by_cases c1 : 1 < d
    · by_cases c2 : a.tmod 2 = 0
      · have hb : (a.tmod 2 == 0) = true := by simpa using c2
        have HN := hid (part_half HP.out c1 c2)
        clear c2
        go_wp2_with fail
        go_round
        case rel => exact ⟨_, _, rfl, rfl, HN.out⟩
        case measure => simp [intOf]; omega
      · have hb : (a.tmod 2 == 0) = false := by simpa using c2
        have HL : Hid (Lowest n a d) := ⟨HP.out, .inr c2⟩
        obtain ⟨a1, a2⟩ := HG.out a d HL.out
        clear c2
        go_wp2_with fail
        exact end_cell Tryz.results28 rfl (Bk.new_at rfl) Tryz.underlying34 rfl info_sv rfl ⟨a, d, rfl, HL.out, (Below.refl _ _).alloc (Nat.le_refl _) _⟩
    · have hd : d = 1 := by omega
      subst hd
      have HL : Hid (Lowest n a 1) := ⟨HP.out, .inl rfl⟩
      obtain ⟨a1, a2⟩ := HG.out a 1 HL.out
      clear c1
      go_wp2_with fail
      exact end_cell Tryz.results28 rfl (Bk.new_at rfl) Tryz.underlying34 rfl info_sv rfl ⟨a, 1, rfl, HL.out, (Below.refl _ _).alloc (Nat.le_refl _) _⟩

/-- a whole number, in sixteenths -/
theorem frac_whole (N : Int) (w : World) (h1 : -99999999999 ≤ N) (h2 : N ≤ 99999999999) :
    Calls Tryz.prog 28 #[.int .i64 (N * 16), .int .i64 16] w fun e w' => e = .returned (sv 1 N 1 es) ∧ Below w.heap.size w w' :=
  (frac_any (N * 16) w (by omega) (by omega) (fun a d h => by obtain ⟨rfl, _⟩ := lowest_whole h; exact ⟨h1, h2⟩)).mono fun e w' ⟨a, d, he, hl, hb⟩ => by
    obtain ⟨rfl, rfl⟩ := lowest_whole hl
    exact ⟨he, hb⟩
end Go.Proofs.YtdanlcciefbboaaGreat
namespace Go.Proofs.YtdanlcciefbboaaGreat
open Go.RowKit
attribute [local go_sem] run_store_float

/-- a number of the reference, in its lowest form: quarters at most -/
def numG (a : SV) : Prop := a.1 = 1 ∧ (a.2.2.1 = 1 ∨ ((a.2.2.1 = 2 ∨ a.2.2.1 = 4) ∧ a.2.1 % 2 ≠ 0)) ∧ (-99999999999 ≤ a.2.1 ∧ a.2.1 ≤ 99999999999) ∧ a.2.2.2 = es
/-- a value of a cell -/
def valG (a : SV) : Prop := numG a ∨ a.1 = 6 ∨ (a.1 = 0 ∨ a.1 = 3 ∨ a.1 = 4) ∨ (a.1 = 2 ∧ a.2.2.2.size ≤ 2147483647)

/-- n / 4 in its lowest form -/
def fr4 (n : Int) : SV :=
  let v : SV := if n % 2 ≠ 0 then (1, n, 4, es) else if n % 4 ≠ 0 then (1, n / 2, 2, es) else (1, n / 4, 1, es)
  if v.2.1 < -99999999999 ∨ 99999999999 < v.2.1 then (6, 0, 0, es) else v
theorem fr4_good (n : Int) : valG (fr4 n) := by
  have key : ∀ v : SV, (¬(v.2.1 < -99999999999 ∨ 99999999999 < v.2.1) → numG v) → valG (if v.2.1 < -99999999999 ∨ 99999999999 < v.2.1 then (6, 0, 0, es) else v) := fun v hv => by
    by_cases h : v.2.1 < -99999999999 ∨ 99999999999 < v.2.1
    · rw [if_pos h]; exact .inr (.inl rfl)
    · rw [if_neg h]; exact .inl (hv h)
  unfold fr4
  refine key _ fun h => ?_
  by_cases h2 : n % 2 ≠ 0
  · rw [if_pos h2] at *
    exact ⟨rfl, .inr ⟨.inr rfl, h2⟩, by dsimp only at *; omega, rfl⟩
  · rw [if_neg h2] at *
    by_cases h4 : n % 4 ≠ 0
    · rw [if_pos h4] at *
      exact ⟨rfl, .inr ⟨.inl rfl, by dsimp only; omega⟩, by dsimp only at *; omega, rfl⟩
    · rw [if_neg h4] at *
      exact ⟨rfl, .inl rfl, by dsimp only at *; omega, rfl⟩
theorem fr4_lowest {n a d : Int} (h : Lowest (n * 4) a d) (h1 : -99999999999 ≤ a) (h2 : a ≤ 99999999999) : fr4 n = (1, a, d, es) := by
  obtain ⟨hp, hl⟩ := h
  have e := Int.tdiv_mul_add_tmod a 2
  have e2 : a.tmod 2 = 0 → a % 2 = 0 := fun h => by omega
  have e3 : a % 2 = 0 → a.tmod 2 = 0 := fun h => by
    have : (2 : Int) ∣ a := Int.dvd_of_emod_eq_zero h
    exact Int.tmod_eq_zero_of_dvd this
  unfold Part at hp
  unfold fr4
  dsimp only
  rcases hp with ⟨rfl, h⟩ | ⟨rfl, h⟩ | ⟨rfl, h⟩ | ⟨rfl, h⟩ | ⟨rfl, h⟩
  · rcases hl with hl | hl
    · omega
    · exact absurd (e3 (by omega)) hl
  · rcases hl with hl | hl
    · omega
    · exact absurd (e3 (by omega)) hl
  · rcases hl with hl | hl
    · omega
    · have : n % 2 ≠ 0 := fun hh => hl (e3 (by omega))
      have ha : a = n := by omega
      subst ha
      rw [if_pos this, if_neg (by dsimp only; omega)]
  · rcases hl with hl | hl
    · omega
    · have hb : ¬ a % 2 = 0 := fun hh => hl (e3 hh)
      have : ¬ n % 2 ≠ 0 := by omega
      have h4 : n % 4 ≠ 0 := by omega
      have ha : n / 2 = a := by omega
      rw [if_neg this, if_pos h4, ha, if_neg (by dsimp only; omega)]
  · have : ¬ n % 2 ≠ 0 := by omega
    have h4 : ¬ n % 4 ≠ 0 := by omega
    have ha : n / 4 = a := by omega
    rw [if_neg this, if_neg h4, ha, if_neg (by dsimp only; omega)]
theorem fr4_great {n a d : Int} (h : Lowest (n * 4) a d) (h1 : a < -99999999999 ∨ 99999999999 < a) : fr4 n = (6, 0, 0, es) := by
  obtain ⟨hp, hl⟩ := h
  have e := Int.tdiv_mul_add_tmod a 2
  have e3 : a % 2 = 0 → a.tmod 2 = 0 := fun h => by
    have : (2 : Int) ∣ a := Int.dvd_of_emod_eq_zero h
    exact Int.tmod_eq_zero_of_dvd this
  unfold Part at hp
  unfold fr4
  dsimp only
  rcases hp with ⟨rfl, h⟩ | ⟨rfl, h⟩ | ⟨rfl, h⟩ | ⟨rfl, h⟩ | ⟨rfl, h⟩
  · rcases hl with hl | hl
    · omega
    · exact absurd (e3 (by omega)) hl
  · rcases hl with hl | hl
    · omega
    · exact absurd (e3 (by omega)) hl
  · rcases hl with hl | hl
    · omega
    · have : n % 2 ≠ 0 := fun hh => hl (e3 (by omega))
      have ha : a = n := by omega
      subst ha
      rw [if_pos this, if_pos (by dsimp only; omega)]
  · rcases hl with hl | hl
    · omega
    · have hb : ¬ a % 2 = 0 := fun hh => hl (e3 hh)
      have : ¬ n % 2 ≠ 0 := by omega
      have h4 : n % 4 ≠ 0 := by omega
      have ha : n / 2 = a := by omega
      rw [if_neg this, if_pos h4, ha, if_pos (by dsimp only; omega)]
  · have : ¬ n % 2 ≠ 0 := by omega
    have h4 : ¬ n % 4 ≠ 0 := by omega
    have ha : n / 4 = a := by omega
    rw [if_neg this, if_neg h4, ha, if_pos (by dsimp only; omega)]

set_option maxRecDepth 100000 in
/-- Frac of quarters -/
theorem frac4 (n : Int) (w : World) (h1 : -1099511627776 ≤ n) (h2 : n ≤ 1099511627776) :
    Calls Tryz.prog 28 #[.int .i64 n, .int .i64 4] w fun e w' => e = .returned (svV (fr4 n)) ∧ Below w.heap.size w w' := by
  have hm : (n * 16).tmod 4 = 0 := by rw [show n * 16 = n * 4 * 4 by omega]; exact Int.mul_tmod_left _ 4
  have hq : (n * 16).tdiv 4 = n * 4 := by rw [show n * 16 = n * 4 * 4 by omega]; exact Int.mul_tdiv_cancel _ (by omega)
  have HL0 := hid (fun a d h g1 g2 => @fr4_lowest n a d h g1 g2)
  have HG0 := hid (fun a d h g => @fr4_great n a d h g)
  go_enter Tryz.func28, Tryz.ntmps28
  go_wp2_with fail
  go_loop [0, 1] (fun x y => ∃ a d : Int, x = .int .i64 a ∧ y = .int .i64 d ∧ Part (n * 4) a d) (fun _ y => (intOf y).toNat)
  case atStart => exact ⟨n * 4, 16, rfl, rfl, .inl ⟨rfl, rfl⟩⟩
  case round =>
    clear hm hq
    obtain ⟨a, d, rfl, rfl, hp⟩ := hrel
    have hd1 : 1 ≤ d := by unfold Part at hp; omega
    have hd2 : d ≤ 16 := by unfold Part at hp; omega
    have ha1 : -4398046511104 ≤ a := by unfold Part at hp; omega
    have ha2 : a ≤ 4398046511104 := by unfold Part at hp; omega
    have HP := hid hp
    clear hp
    by_cases c1 : 1 < d
    · by_cases c2 : a.tmod 2 = 0
      · have hb : (a.tmod 2 == 0) = true := by simpa using c2
        have HN := hid (part_half HP.out c1 c2)
        clear c2
        go_wp2_with fail
        go_round
        case rel => exact ⟨_, _, rfl, rfl, HN.out⟩
        case measure => simp [intOf]; omega
      · have hb : (a.tmod 2 == 0) = false := by simpa using c2
        have HL : Hid (Lowest (n * 4) a d) := ⟨HP.out, .inr c2⟩
        have hb2 : (a % 2 == 0) = false := by
          rw [beq_eq_false_iff_ne]
          exact fun h => c2 (Int.tmod_eq_zero_of_dvd (Int.dvd_of_emod_eq_zero h))
        clear c2
        by_cases g : a < -99999999999 ∨ 99999999999 < a
        · have hr := hid (HG0.out a d HL.out g)
          rcases g with g | g
          all_goals
            go_wp2_with fail
            refine (doubt_any _).mono ?_
            rintro e w1 ⟨rfl, hb⟩
            obtain ⟨hc, hf⟩ := bcell hb
            unfold sv
            go_wp2
            exact end_cell Tryz.results28 rfl (Bk.set5 ((Bk.new w _ _).below hb (by simp)) _ _ _ _ _) Tryz.underlying34 rfl info_sv rfl
              ⟨by rw [hr.out]; rfl, Below.set5 (Below.lift ((Below.refl _ _).alloc (Nat.le_refl _) _) (by simp) hb) (Nat.le_refl _) _ _ _ _ _⟩
        · have hr := hid (HL0.out a d HL.out (by omega) (by omega))
          have g1 : -99999999999 ≤ a := by omega
          have g2 : a ≤ 99999999999 := by omega
          go_wp2_with fail
          exact end_cell Tryz.results28 rfl (Bk.new_at rfl) Tryz.underlying34 rfl info_sv rfl ⟨by rw [hr.out]; rfl, (Below.refl _ _).alloc (Nat.le_refl _) _⟩
    · have hd : d = 1 := by omega
      subst hd
      have HL : Hid (Lowest (n * 4) a 1) := ⟨HP.out, .inl rfl⟩
      clear c1
      by_cases g : a < -99999999999 ∨ 99999999999 < a
      · have hr := hid (HG0.out a 1 HL.out g)
        rcases g with g | g
        all_goals
          go_wp2_with fail
          refine (doubt_any _).mono ?_
          rintro e w1 ⟨rfl, hb⟩
          obtain ⟨hc, hf⟩ := bcell hb
          unfold sv
          go_wp2
          exact end_cell Tryz.results28 rfl (Bk.set5 ((Bk.new w _ _).below hb (by simp)) _ _ _ _ _) Tryz.underlying34 rfl info_sv rfl
            ⟨by rw [hr.out]; rfl, Below.set5 (Below.lift ((Below.refl _ _).alloc (Nat.le_refl _) _) (by simp) hb) (Nat.le_refl _) _ _ _ _ _⟩
      · have hr := hid (HL0.out a 1 HL.out (by omega) (by omega))
        have g1 : -99999999999 ≤ a := by omega
        have g2 : a ≤ 99999999999 := by omega
        go_wp2_with fail
        exact end_cell Tryz.results28 rfl (Bk.new_at rfl) Tryz.underlying34 rfl info_sv rfl ⟨by rw [hr.out]; rfl, (Below.refl _ _).alloc (Nat.le_refl _) _⟩

/-- the errors of cells -/
def errS (k : Int) : ByteArray := if k = 0 then ⟨#[35, 68, 73, 86, 47, 48, 33]⟩ else if k = 1 then ⟨#[35, 78, 47, 65]⟩ else if k = 2 then ⟨#[35, 86, 65, 76, 85, 69, 33]⟩ else if k = 3 then ⟨#[35, 82, 69, 70, 33]⟩ else if k = 4 then ⟨#[35, 78, 65, 77, 69, 63]⟩ else if k = 5 then ⟨#[35, 78, 85, 77, 33]⟩ else ⟨#[35, 78, 85, 76, 76, 33]⟩
/-- a cell's value -/
def ival (a : IT) : SV :=
  if a.1 % 6 = 1 then (if a.2.1 < -99999999999 ∨ 99999999999 < a.2.1 then (6, 0, 0, es) else (1, a.2.1, 1, es))
  else if a.1 % 6 = 2 then fr4 (a.2.1.tmod 1099511627776)
  else if a.1 % 6 = 3 then (2, 0, 0, a.2.2)
  else if a.1 % 6 = 4 then (3, b2i (a.2.1.tmod 2 != 0), 0, es)
  else if a.1 % 6 = 5 then (4, 0, 0, errS (a.2.1 % 7))
  else (0, 0, 0, es)
theorem ival_good (a : IT) (h : a.2.2.size ≤ 2147483647) : valG (ival a) := by
  unfold ival
  split
  · split
    · exact .inr (.inl rfl)
    · exact .inl ⟨rfl, .inl rfl, by dsimp only; omega, rfl⟩
  split
  · exact fr4_good _
  split
  · exact .inr (.inr (.inr ⟨rfl, h⟩))
  split
  · exact .inr (.inr (.inl (.inr (.inl rfl))))
  split
  · exact .inr (.inr (.inl (.inr (.inr rfl))))
  · exact .inr (.inr (.inl (.inl rfl)))

set_option maxRecDepth 100000 in
set_option maxHeartbeats 4000000 in
theorem val_any (a : IT) (w : World) : Calls Tryz.prog 18 #[itV a] w fun e w' => e = .returned (svV (ival a)) ∧ Below w.heap.size w w' := by
  obtain ⟨k, n, t⟩ := a
  obtain ⟨r, hr⟩ : ∃ r, k % 6 = r := ⟨_, rfl⟩
  have hcase : r = 0 ∨ r = 1 ∨ r = 2 ∨ r = 3 ∨ r = 4 ∨ r = 5 := by omega
  have HP := hid (fun wx => part_any k 6 (by omega) (by omega) wx)
  rw [hr] at HP
  unfold itV ival
  dsimp only
  rw [hr]
  clear hr
  rcases hcase with rfl | rfl | rfl | rfl | rfl | rfl
  · -- nothing
    rw [if_neg (by decide), if_neg (by decide), if_neg (by decide), if_neg (by decide), if_neg (by decide)]
    go_enter Tryz.func18, Tryz.ntmps18
    go_wp2_with fail
    refine (HP.out _).mono ?_
    rintro e w1 ⟨rfl, rfl⟩
    go_wp2_with fail
    exact end_cell Tryz.results18 rfl (Bk.new_at (by simp)) Tryz.underlying34 rfl info_sv rfl ⟨rfl, ((Below.refl _ _).alloc (Nat.le_refl _) _).alloc (by simp) _⟩
  · rw [if_pos (by decide)]
    by_cases g : n < -99999999999 ∨ 99999999999 < n
    · rw [if_pos g]
      have HI := hid (fun wx => int_no n wx g)
      clear g
      go_enter Tryz.func18, Tryz.ntmps18
      go_wp2_with fail
      refine (HP.out _).mono ?_
      rintro e w1 ⟨rfl, rfl⟩
      go_wp2_with fail
      refine (HI.out _).mono ?_
      rintro e w1 ⟨rfl, hb⟩
      have hB := Bk.below (Bk.new_at (w := w.alloc (.cells #[.int .i64 k, .int .i64 n, .string t] 30)) (t := 34) (cs := #[.int .i64 0, .int .i64 0, .int .i64 0, .string ⟨#[]⟩, .slice none 0 0]) (g := w.heap.size + 1) (by simp)) hb (by simp)
      have hd := Below.lift (((Below.refl w.heap.size w).alloc (Nat.le_refl _) (.cells #[.int .i64 k, .int .i64 n, .string t] 30)).alloc (by simp) (.cells #[.int .i64 0, .int .i64 0, .int .i64 0, .string ⟨#[]⟩, .slice none 0 0] 34)) (by simp; omega) hb
      obtain ⟨q0, q1, q2, q3, q4, qf⟩ := hB.cells5
      have hz := hB.lt
      clear hb
      try unfold svV
      unfold sv
      go_wp2_with fail
      exact end_cell Tryz.results18 rfl (Bk.set5 hB _ _ _ _ _) Tryz.underlying34 rfl info_sv rfl ⟨rfl, Below.set5 hd (by omega) _ _ _ _ _⟩
    · rw [if_neg g]
      have HI := hid (fun wx => int_ok n wx (by omega) (by omega))
      clear g
      go_enter Tryz.func18, Tryz.ntmps18
      go_wp2_with fail
      refine (HP.out _).mono ?_
      rintro e w1 ⟨rfl, rfl⟩
      go_wp2_with fail
      refine (HI.out _).mono ?_
      rintro e w1 ⟨rfl, hb⟩
      have hB := Bk.below (Bk.new_at (w := w.alloc (.cells #[.int .i64 k, .int .i64 n, .string t] 30)) (t := 34) (cs := #[.int .i64 0, .int .i64 0, .int .i64 0, .string ⟨#[]⟩, .slice none 0 0]) (g := w.heap.size + 1) (by simp)) hb (by simp)
      have hd := Below.lift (((Below.refl w.heap.size w).alloc (Nat.le_refl _) (.cells #[.int .i64 k, .int .i64 n, .string t] 30)).alloc (by simp) (.cells #[.int .i64 0, .int .i64 0, .int .i64 0, .string ⟨#[]⟩, .slice none 0 0] 34)) (by simp; omega) hb
      obtain ⟨q0, q1, q2, q3, q4, qf⟩ := hB.cells5
      have hz := hB.lt
      clear hb
      try unfold svV
      unfold sv
      go_wp2_with fail
      exact end_cell Tryz.results18 rfl (Bk.set5 hB _ _ _ _ _) Tryz.underlying34 rfl info_sv rfl ⟨rfl, Below.set5 hd (by omega) _ _ _ _ _⟩
  · rw [if_neg (by decide), if_pos (by decide)]
    obtain ⟨q, hq⟩ : ∃ q, n.tmod 1099511627776 = q := ⟨_, rfl⟩
    have hq1 : n % 1099511627776 = q ∨ n < 0 := by
      rcases Int.lt_or_le n 0 with h | h
      · exact .inr h
      · left; rw [← hq, Int.tmod_eq_emod_of_nonneg h]
    have HI := hid (fun wx => frac4 q wx (by have := Int.tmod_lt_of_pos n (show (0 : Int) < 1099511627776 by decide); have := Int.lt_tmod_of_pos n (show (0 : Int) < 1099511627776 by decide); omega) (by have := Int.tmod_lt_of_pos n (show (0 : Int) < 1099511627776 by decide); omega))
    rw [hq]
    rcases hq1 with hq1 | hq1
    all_goals
      go_enter Tryz.func18, Tryz.ntmps18
      go_wp2_with fail
      refine (HP.out _).mono ?_
      rintro e w1 ⟨rfl, rfl⟩
      go_wp2_with fail
      refine (HI.out _).mono ?_
      rintro e w1 ⟨rfl, hb⟩
      have hB := Bk.below (Bk.new_at (w := w.alloc (.cells #[.int .i64 k, .int .i64 n, .string t] 30)) (t := 34) (cs := #[.int .i64 0, .int .i64 0, .int .i64 0, .string ⟨#[]⟩, .slice none 0 0]) (g := w.heap.size + 1) (by simp)) hb (by simp)
      have hd := Below.lift (((Below.refl w.heap.size w).alloc (Nat.le_refl _) (.cells #[.int .i64 k, .int .i64 n, .string t] 30)).alloc (by simp) (.cells #[.int .i64 0, .int .i64 0, .int .i64 0, .string ⟨#[]⟩, .slice none 0 0] 34)) (by simp; omega) hb
      obtain ⟨q0, q1, q2, q3, q4, qf⟩ := hB.cells5
      have hz := hB.lt
      clear hb
      try unfold svV
      unfold sv
      go_wp2_with fail
      exact end_cell Tryz.results18 rfl (Bk.set5 hB _ _ _ _ _) Tryz.underlying34 rfl info_sv rfl ⟨rfl, Below.set5 hd (by omega) _ _ _ _ _⟩
  · rw [if_neg (by decide), if_neg (by decide), if_pos (by decide)]
    go_enter Tryz.func18, Tryz.ntmps18
    go_wp2_with fail
    refine (HP.out _).mono ?_
    rintro e w1 ⟨rfl, rfl⟩
    go_wp2_with fail
    refine (str_any t _).mono ?_
    rintro e w1 ⟨rfl, hb⟩
    have hB := Bk.below (Bk.new_at (w := w.alloc (.cells #[.int .i64 k, .int .i64 n, .string t] 30)) (t := 34) (cs := #[.int .i64 0, .int .i64 0, .int .i64 0, .string ⟨#[]⟩, .slice none 0 0]) (g := w.heap.size + 1) (by simp)) hb (by simp)
    have hd := Below.lift (((Below.refl w.heap.size w).alloc (Nat.le_refl _) (.cells #[.int .i64 k, .int .i64 n, .string t] 30)).alloc (by simp) (.cells #[.int .i64 0, .int .i64 0, .int .i64 0, .string ⟨#[]⟩, .slice none 0 0] 34)) (by simp; omega) hb
    obtain ⟨q0, q1, q2, q3, q4, qf⟩ := hB.cells5
    have hz := hB.lt
    clear hb
    try unfold svV
    unfold sv
    go_wp2_with fail
    exact end_cell Tryz.results18 rfl (Bk.set5 hB _ _ _ _ _) Tryz.underlying34 rfl info_sv rfl ⟨rfl, Below.set5 hd (by omega) _ _ _ _ _⟩
  · rw [if_neg (by decide), if_neg (by decide), if_neg (by decide), if_pos (by decide)]
    obtain ⟨b, hb⟩ : ∃ b, (n.tmod 2 != 0) = b := ⟨_, rfl⟩
    rw [hb]
    go_enter Tryz.func18, Tryz.ntmps18
    go_wp2_with fail
    refine (HP.out _).mono ?_
    rintro e w1 ⟨rfl, rfl⟩
    go_wp2_with fail
    refine (bool_any b _).mono ?_
    rintro e w1 ⟨rfl, hb⟩
    have hB := Bk.below (Bk.new_at (w := w.alloc (.cells #[.int .i64 k, .int .i64 n, .string t] 30)) (t := 34) (cs := #[.int .i64 0, .int .i64 0, .int .i64 0, .string ⟨#[]⟩, .slice none 0 0]) (g := w.heap.size + 1) (by simp)) hb (by simp)
    have hd := Below.lift (((Below.refl w.heap.size w).alloc (Nat.le_refl _) (.cells #[.int .i64 k, .int .i64 n, .string t] 30)).alloc (by simp) (.cells #[.int .i64 0, .int .i64 0, .int .i64 0, .string ⟨#[]⟩, .slice none 0 0] 34)) (by simp; omega) hb
    obtain ⟨q0, q1, q2, q3, q4, qf⟩ := hB.cells5
    have hz := hB.lt
    clear hb
    try unfold svV
    unfold sv
    go_wp2_with fail
    exact end_cell Tryz.results18 rfl (Bk.set5 hB _ _ _ _ _) Tryz.underlying34 rfl info_sv rfl ⟨rfl, Below.set5 hd (by omega) _ _ _ _ _⟩
  · rw [if_neg (by decide), if_neg (by decide), if_neg (by decide), if_neg (by decide), if_pos (by decide)]
    obtain ⟨q, hq⟩ : ∃ q, n % 7 = q := ⟨_, rfl⟩
    have HQ := hid (fun wx => part_any n 7 (by omega) (by omega) wx)
    rw [hq] at HQ
    rw [hq]
    have hqc : q = 0 ∨ q = 1 ∨ q = 2 ∨ q = 3 ∨ q = 4 ∨ q = 5 ∨ q = 6 := by omega
    clear hq
    rcases hqc with rfl | rfl | rfl | rfl | rfl | rfl | rfl
    all_goals
      go_enter Tryz.func18, Tryz.ntmps18
      go_wp2_with fail
      refine (HP.out _).mono ?_
      rintro e w1 ⟨rfl, rfl⟩
      go_wp2_with fail
      refine (HQ.out _).mono ?_
      rintro e w1 ⟨rfl, rfl⟩
      go_wp2_with fail
      refine (err_any _ _).mono ?_
      rintro e w1 ⟨rfl, hb⟩
      have hB := Bk.below (Bk.alloc (Bk.new_at (w := w.alloc (.cells #[.int .i64 k, .int .i64 n, .string t] 30)) (t := 34) (cs := #[.int .i64 0, .int .i64 0, .int .i64 0, .string ⟨#[]⟩, .slice none 0 0]) (g := w.heap.size + 1) (by simp)) _) hb (by first | (simp; done) | (simp; omega))
      have hd := Below.lift ((((Below.refl w.heap.size w).alloc (Nat.le_refl _) (.cells #[.int .i64 k, .int .i64 n, .string t] 30)).alloc (by simp) (.cells #[.int .i64 0, .int .i64 0, .int .i64 0, .string ⟨#[]⟩, .slice none 0 0] 34)).alloc (by first | (simp; done) | (simp; omega)) _) (by first | (simp; done) | (simp; omega)) hb
      obtain ⟨q0, q1, q2, q3, q4, qf⟩ := hB.cells5
      have hz := hB.lt
      clear hb
      unfold sv
      go_wp2_with fail
      exact end_cell Tryz.results18 rfl (Bk.set5 hB _ _ _ _ _) Tryz.underlying34 rfl info_sv rfl ⟨rfl, Below.set5 hd (by omega) _ _ _ _ _⟩
end Go.Proofs.YtdanlcciefbboaaGreat
