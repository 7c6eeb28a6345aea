import Derived.Test.YtndabbepepbnmaaGreatDoorIsL
namespace Go.Proofs.YtndabbepepbnmaaGreatDoor
open Go.RowKit
attribute [local go_sem] run_store_float

theorem str_any (s : ByteArray) (w : World) : Calls Tryz.prog 49 #[.string s] w fun e w' => e = .returned (sv 2 0 0 s) ∧ Below w.heap.size w w' := by
  go_enter Tryz.func49, Tryz.ntmps49
  go_wp2
  exact end_cell Tryz.results49 rfl (Bk.new w _ _) Tryz.underlying24 rfl info_sv rfl ⟨rfl, (Below.refl _ _).alloc (Nat.le_refl _) _⟩
theorem err_any (s : ByteArray) (w : World) : Calls Tryz.prog 65 #[.string s] w fun e w' => e = .returned (sv 4 0 0 s) ∧ Below w.heap.size w w' := by
  go_enter Tryz.func65, Tryz.ntmps65
  go_wp2
  exact end_cell Tryz.results65 rfl (Bk.new w _ _) Tryz.underlying24 rfl info_sv rfl ⟨rfl, (Below.refl _ _).alloc (Nat.le_refl _) _⟩

/-- a / d is n / 16 -/
def Part (n a d : Int) : Prop := (d = 16 ∧ a = n) ∨ (d = 8 ∧ a * 2 = n) ∨ (d = 4 ∧ a * 4 = n) ∨ (d = 2 ∧ a * 8 = n) ∨ (d = 1 ∧ a * 16 = n)
def Lowest (n a d : Int) : Prop := Part n a d ∧ (d = 1 ∨ a.tmod 2 ≠ 0)

theorem part_half {n a d : Int} (h : Part n a d) (hd : 1 < d) (ha : a.tmod 2 = 0) : Part n (a.tdiv 2) (d / 2) := by
  have e : a.tdiv 2 * 2 = a := by have := Int.tdiv_mul_add_tmod a 2; omega
  unfold Part at *
  rcases h with ⟨rfl, h⟩ | ⟨rfl, h⟩ | ⟨rfl, h⟩ | ⟨rfl, h⟩ | ⟨rfl, h⟩
  · right; left; exact ⟨rfl, by omega⟩
  · right; right; left; exact ⟨rfl, by omega⟩
  · right; right; right; left; exact ⟨rfl, by omega⟩
  · right; right; right; right; exact ⟨rfl, by omega⟩
  · omega
theorem lowest_whole {N a d : Int} (h : Lowest (N * 16) a d) : a = N ∧ d = 1 := by
  obtain ⟨h, h2⟩ := h
  have e := Int.tdiv_mul_add_tmod a 2
  unfold Part at h
  rcases h with ⟨rfl, h⟩ | ⟨rfl, h⟩ | ⟨rfl, h⟩ | ⟨rfl, h⟩ | ⟨rfl, h⟩
  · rcases h2 with h2 | h2
    · omega
    · exact absurd (by rw [h, show N * 16 = N * 8 * 2 by omega]; exact Int.mul_tmod_left _ _) h2
  · rcases h2 with h2 | h2
    · omega
    · exact absurd (by rw [show a = N * 4 * 2 by omega]; exact Int.mul_tmod_left _ _) h2
  · rcases h2 with h2 | h2
    · omega
    · exact absurd (by rw [show a = N * 2 * 2 by omega]; exact Int.mul_tmod_left _ _) h2
  · rcases h2 with h2 | h2
    · omega
    · exact absurd (by rw [show a = N * 2 by omega]; exact Int.mul_tmod_left _ _) h2
  · exact ⟨by omega, rfl⟩

set_option maxRecDepth 100000 in
theorem frac_any (n : Int) (w : World) (h1 : -1599999999984 ≤ n) (h2 : n ≤ 1599999999984) (hg : ∀ a d, Lowest n a d → -99999999999 ≤ a ∧ a ≤ 99999999999) :
    Calls Tryz.prog 64 #[.int .i64 n, .int .i64 16] w fun e w' => ∃ a d, e = .returned (sv 1 a d es) ∧ Lowest n a d ∧ Below w.heap.size w w' := by
  have hm : (n * 16).tmod 16 = 0 := Int.mul_tmod_left n 16
  have hq : (n * 16).tdiv 16 = n := Int.mul_tdiv_cancel n (by omega)
  have HG := hid hg
  clear hg
  go_enter Tryz.func64, Tryz.ntmps64
  go_wp2_with fail
  go_loop [0, 1] (fun x y => ∃ a d : Int, x = .int .i64 a ∧ y = .int .i64 d ∧ Part n a d) (fun _ y => (intOf y).toNat)
  case atStart => exact ⟨n, 16, rfl, rfl, .inl ⟨rfl, rfl⟩⟩
  case round =>
    clear hm hq
    obtain ⟨a, d, rfl, rfl, hp⟩ := hrel
    have hd1 : 1 ≤ d := by unfold Part at hp; omega
    have hd2 : d ≤ 16 := by unfold Part at hp; omega
    have ha1 : -1599999999984 ≤ a := by unfold Part at hp; omega
    have ha2 : a ≤ 1599999999984 := by unfold Part at hp; omega
    have HP := hid hp
    clear hp
    by_cases c1 : 1 < d
    · by_cases c2 : a.tmod 2 = 0
      · have hb : (a.tmod 2 == 0) = true := by simpa using c2
        have HN := hid (part_half HP.out c1 c2)
        clear c2
        go_wp2_with fail
        go_round
        case rel => exact ⟨_, _, rfl, rfl, HN.out⟩
        case measure => simp [intOf]; omega
      · have hb : (a.tmod 2 == 0) = false := by simpa using c2
        have HL : Hid (Lowest n a d) := ⟨HP.out, .inr c2⟩
        obtain ⟨a1, a2⟩ := HG.out a d HL.out
        clear c2
        go_wp2_with fail
        exact end_cell Tryz.results64 rfl (Bk.new_at rfl) Tryz.underlying24 rfl info_sv rfl ⟨a, d, rfl, HL.out, (Below.refl _ _).alloc (Nat.le_refl _) _⟩
    · have hd : d = 1 := by omega
      subst hd
      have HL : Hid (Lowest n a 1) := ⟨HP.out, .inl rfl⟩
      obtain ⟨a1, a2⟩ := HG.out a 1 HL.out
      clear c1
      go_wp2_with fail
      exact end_cell Tryz.results64 rfl (Bk.new_at rfl) Tryz.underlying24 rfl info_sv rfl ⟨a, 1, rfl, HL.out, (Below.refl _ _).alloc (Nat.le_refl _) _⟩

/-- a whole number, in sixteenths -/
theorem frac_whole (N : Int) (w : World) (h1 : -99999999999 ≤ N) (h2 : N ≤ 99999999999) :
    Calls Tryz.prog 64 #[.int .i64 (N * 16), .int .i64 16] w fun e w' => e = .returned (sv 1 N 1 es) ∧ Below w.heap.size w w' :=
  (frac_any (N * 16) w (by omega) (by omega) (fun a d h => by obtain ⟨rfl, _⟩ := lowest_whole h; exact ⟨h1, h2⟩)).mono fun e w' ⟨a, d, he, hl, hb⟩ => by
    obtain ⟨rfl, rfl⟩ := lowest_whole hl
    exact ⟨he, hb⟩
end Go.Proofs.YtndabbepepbnmaaGreatDoor
