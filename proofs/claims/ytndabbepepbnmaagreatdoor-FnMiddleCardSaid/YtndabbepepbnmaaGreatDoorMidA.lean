import Derived.Test.YtndabbepepbnmaaGreatDoorKth
namespace Go.Proofs.YtndabbepepbnmaaGreatDoor
open Go.RowKit
attribute [local go_sem] run_store_float

/-- a column and a place -/
def kthA (zs : List Int) (k : Nat) : List AM := [amOf (colM zs), ((1, enc (k : Int) 0, es), [])]

set_option maxRecDepth 100000 in
theorem LARGE_col (zs : List Int) (hne : zs ≠ []) (hl : zs.length ≤ 40) (hz : ∀ z ∈ zs, z.natAbs ≤ 9999) (k : Nat) (hk : 1 ≤ k ∧ k ≤ zs.length) (a : Int) (ha : (srt zs)[atLARGE zs.length k]? = some a) :
    FnM 124 (kthA zs k) (.num (enc a 0)) := by
  intro w g L el vs hL hA
  obtain ⟨hvl, hAA⟩ := hA
  have hm2 : (amOf (colM zs)).2 ≠ [] := by rw [colM_rows]; simpa using hne
  match vs, hvl with
  | [v1, v2], _ =>
  rcases hAA 0 v1 _ rfl rfl with ⟨h0, _⟩ | ⟨_, u1, rfl, m, L1, L2, g1, y1, rfl, r1, _⟩
  · exact absurd h0 hm2
  rcases hAA 1 v2 _ rfl rfl with ⟨_, rfl⟩ | ⟨h0, _⟩
  · have he : avI (1, enc (k : Int) 0, es) = .iface 78 (fa (enc (k : Int) 0) es false es 1) := by
      unfold avI
      rw [fav_num, nz_whole _ (by omega)]
    rw [he] at hL
    have hC := hid (fun wx (hb : Below w.heap.size w wx) => kth_LARGE zs hne hl hz k hk a ha g L el m L1 L2 wx (hL.keep hb) (Rws.below r1 hb hb.size))
    obtain ⟨M, hM⟩ : ∃ M, enc a 0 = M := ⟨_, rfl⟩
    rw [hM] at hC ⊢
    clear hL hM ha hAA r1
    dsimp only [Res.fa] at hC ⊢
    unfold fa at hC ⊢
    go_enter Tryz.func124, Tryz.ntmps124
    go_wp2_with fail
    have k1 : Below w.heap.size w (w.alloc (.cells #[.string ⟨#[]⟩, .float .f64 0, .string ⟨#[]⟩, .slice none 0 0, .slice none 0 0, .bool false, .string ⟨#[]⟩, .int .u8 0, .pointer none, .pointer none] 78)) := (Below.refl _ _).alloc (Nat.le_refl _) _
    refine (hC.out _ k1).mono ?_
    rintro e w1 ⟨rfl, hb1⟩
    have bR := (Bk.new w 78 #[.string ⟨#[]⟩, .float .f64 0, .string ⟨#[]⟩, .slice none 0 0, .slice none 0 0, .bool false, .string ⟨#[]⟩, .int .u8 0, .pointer none, .pointer none]).below hb1 (by simp)
    have hbF := k1.trans (hb1.mono k1.size)
    obtain ⟨q0, q1, q2, q3, q4, q5, q6, q7, q8, q9, qf⟩ := bR.cells10
    have hlt := bR.lt
    go_wp2_with fail
    exact end_cell Tryz.results124 rfl (Bk.set10 bR _ _ _ _ _ _ _ _ _ _) Tryz.underlying78 rfl info_fa rfl ⟨rfl, Below.set10 hbF (Nat.le_refl _) _ _ _ _ _ _ _ _ _ _⟩
  · exact absurd rfl h0

/-- what the program says of the place in a column -/
theorem askK_LARGE (zs : List Int) (hne : zs ≠ []) (hl : zs.length ≤ 40) (hz : ∀ z ∈ zs, z.natAbs ≤ 9999) (k : Nat) (hk : 1 ≤ k ∧ k ≤ zs.length) (a : Int) (ha : (srt zs)[atLARGE zs.length k]? = some a) (s : Value) (g : Nat) (w : World)
    (h : Bk w g 24 #[.int .i64 5, .int .i64 0, .int .i64 0, .string es, s, .int .i64 1, .int .i64 (k : Nat), .int .i64 1, .string es, .slice none 0 0]) (hr : Rws w w.heap.size 5 svCells s (colRows zs)) :
    Calls Tryz.prog 31 #[.func (.func 57) #[] #[], .slice (some ⟨g, 0, none⟩) 2 2] w fun e w' => e = .returned (avV (1, enc a 0, es)) ∧ Below w.heap.size w w' := by
  have hma : [colM zs, (((1, (k : Int), 1, es), []) : SM)].map amOf = kthA zs k := by
    simp [kthA, amOf, rowsOf, avOf_whole]
  refine ask_LARGE [colM zs, ((1, (k : Int), 1, es), [])] (.num (enc a 0)) (by rw [hma]; exact LARGE_col zs hne hl hz k hk a ha) _ w ?_ (fun m hm => ?_) (fun m hm => ?_) (by simp)
  · refine ⟨[(colM zs, s), (((1, (k : Int), 1, es), []), .slice none 0 0)], rfl, (Sl.lit (n := 2) (sz := 5) h 2 rfl), fun p hp => ?_⟩
    simp at hp
    rcases hp with rfl | rfl
    · exact hr
    · exact RwP.none_ _ _ _ _
  · simp at hm
    rcases hm with rfl | rfl
    · exact colM_ok zs (by omega) (fun z h => by have := hz z h; omega)
    · exact .inl ⟨rfl, svOk_whole _ (by omega)⟩
  · simp at hm
    rcases hm with rfl | rfl
    · exact colM_ok2 zs hne (by omega) (fun z h => by have := hz z h; omega)
    · refine .inl ⟨rfl, ?_⟩
      show avOk (avOf (1, (k : Int), 1, es))
      rw [avOf_whole]
      exact ⟨fun _ => fin_enc _ 0 (by omega) (by omega), by show (1 : Int) ≠ 5; omega⟩
set_option maxRecDepth 100000 in
theorem SMALL_col (zs : List Int) (hne : zs ≠ []) (hl : zs.length ≤ 40) (hz : ∀ z ∈ zs, z.natAbs ≤ 9999) (k : Nat) (hk : 1 ≤ k ∧ k ≤ zs.length) (a : Int) (ha : (srt zs)[atSMALL zs.length k]? = some a) :
    FnM 125 (kthA zs k) (.num (enc a 0)) := by
  intro w g L el vs hL hA
  obtain ⟨hvl, hAA⟩ := hA
  have hm2 : (amOf (colM zs)).2 ≠ [] := by rw [colM_rows]; simpa using hne
  match vs, hvl with
  | [v1, v2], _ =>
  rcases hAA 0 v1 _ rfl rfl with ⟨h0, _⟩ | ⟨_, u1, rfl, m, L1, L2, g1, y1, rfl, r1, _⟩
  · exact absurd h0 hm2
  rcases hAA 1 v2 _ rfl rfl with ⟨_, rfl⟩ | ⟨h0, _⟩
  · have he : avI (1, enc (k : Int) 0, es) = .iface 78 (fa (enc (k : Int) 0) es false es 1) := by
      unfold avI
      rw [fav_num, nz_whole _ (by omega)]
    rw [he] at hL
    have hC := hid (fun wx (hb : Below w.heap.size w wx) => kth_SMALL zs hne hl hz k hk a ha g L el m L1 L2 wx (hL.keep hb) (Rws.below r1 hb hb.size))
    obtain ⟨M, hM⟩ : ∃ M, enc a 0 = M := ⟨_, rfl⟩
    rw [hM] at hC ⊢
    clear hL hM ha hAA r1
    dsimp only [Res.fa] at hC ⊢
    unfold fa at hC ⊢
    go_enter Tryz.func125, Tryz.ntmps125
    go_wp2_with fail
    have k1 : Below w.heap.size w (w.alloc (.cells #[.string ⟨#[]⟩, .float .f64 0, .string ⟨#[]⟩, .slice none 0 0, .slice none 0 0, .bool false, .string ⟨#[]⟩, .int .u8 0, .pointer none, .pointer none] 78)) := (Below.refl _ _).alloc (Nat.le_refl _) _
    refine (hC.out _ k1).mono ?_
    rintro e w1 ⟨rfl, hb1⟩
    have bR := (Bk.new w 78 #[.string ⟨#[]⟩, .float .f64 0, .string ⟨#[]⟩, .slice none 0 0, .slice none 0 0, .bool false, .string ⟨#[]⟩, .int .u8 0, .pointer none, .pointer none]).below hb1 (by simp)
    have hbF := k1.trans (hb1.mono k1.size)
    obtain ⟨q0, q1, q2, q3, q4, q5, q6, q7, q8, q9, qf⟩ := bR.cells10
    have hlt := bR.lt
    go_wp2_with fail
    exact end_cell Tryz.results125 rfl (Bk.set10 bR _ _ _ _ _ _ _ _ _ _) Tryz.underlying78 rfl info_fa rfl ⟨rfl, Below.set10 hbF (Nat.le_refl _) _ _ _ _ _ _ _ _ _ _⟩
  · exact absurd rfl h0

/-- what the program says of the place in a column -/
theorem askK_SMALL (zs : List Int) (hne : zs ≠ []) (hl : zs.length ≤ 40) (hz : ∀ z ∈ zs, z.natAbs ≤ 9999) (k : Nat) (hk : 1 ≤ k ∧ k ≤ zs.length) (a : Int) (ha : (srt zs)[atSMALL zs.length k]? = some a) (s : Value) (g : Nat) (w : World)
    (h : Bk w g 24 #[.int .i64 5, .int .i64 0, .int .i64 0, .string es, s, .int .i64 1, .int .i64 (k : Nat), .int .i64 1, .string es, .slice none 0 0]) (hr : Rws w w.heap.size 5 svCells s (colRows zs)) :
    Calls Tryz.prog 31 #[.func (.func 58) #[] #[], .slice (some ⟨g, 0, none⟩) 2 2] w fun e w' => e = .returned (avV (1, enc a 0, es)) ∧ Below w.heap.size w w' := by
  have hma : [colM zs, (((1, (k : Int), 1, es), []) : SM)].map amOf = kthA zs k := by
    simp [kthA, amOf, rowsOf, avOf_whole]
  refine ask_SMALL [colM zs, ((1, (k : Int), 1, es), [])] (.num (enc a 0)) (by rw [hma]; exact SMALL_col zs hne hl hz k hk a ha) _ w ?_ (fun m hm => ?_) (fun m hm => ?_) (by simp)
  · refine ⟨[(colM zs, s), (((1, (k : Int), 1, es), []), .slice none 0 0)], rfl, (Sl.lit (n := 2) (sz := 5) h 2 rfl), fun p hp => ?_⟩
    simp at hp
    rcases hp with rfl | rfl
    · exact hr
    · exact RwP.none_ _ _ _ _
  · simp at hm
    rcases hm with rfl | rfl
    · exact colM_ok zs (by omega) (fun z h => by have := hz z h; omega)
    · exact .inl ⟨rfl, svOk_whole _ (by omega)⟩
  · simp at hm
    rcases hm with rfl | rfl
    · exact colM_ok2 zs hne (by omega) (fun z h => by have := hz z h; omega)
    · refine .inl ⟨rfl, ?_⟩
      show avOk (avOf (1, (k : Int), 1, es))
      rw [avOf_whole]
      exact ⟨fun _ => fin_enc _ 0 (by omega) (by omega), by show (1 : Int) ≠ 5; omega⟩

/-- what the program says of the middle of a column -/
theorem askM (zs : List Int) (hne : zs ≠ []) (hl : zs.length ≤ 40) (hz : ∀ z ∈ zs, z.natAbs ≤ 9999) (M : Nat) (hF : FnM 123 [amOf (colM zs)] (.num M)) (s : Value) (g : Nat) (w : World)
    (h : Bk w g 24 #[.int .i64 5, .int .i64 0, .int .i64 0, .string es, s]) (hr : Rws w w.heap.size 5 svCells s (colRows zs)) :
    Calls Tryz.prog 31 #[.func (.func 56) #[] #[], .slice (some ⟨g, 0, none⟩) 1 1] w fun e w' => e = .returned (avV (1, M, es)) ∧ Below w.heap.size w w' :=
  ask_MEDIAN [colM zs] (.num M) hF _ w ⟨[(colM zs, s)], rfl, (Sl.lit (n := 1) (sz := 5) h 1 rfl), fun p hp => by obtain rfl := List.mem_singleton.1 hp; exact hr⟩
    (fun m hm => by obtain rfl := List.mem_singleton.1 hm; exact colM_ok zs (by omega) (fun z h => by have := hz z h; omega)) (fun m hm => by obtain rfl := List.mem_singleton.1 hm; exact colM_ok2 zs hne (by omega) (fun z h => by have := hz z h; omega)) (by simp)

/-- the numbers: twice the middle is the sum of both in the middle -/
theorem middle_nums (zs : List Int) (hne : zs ≠ []) (hl : zs.length ≤ 40) (hz : ∀ z ∈ zs, z.natAbs ≤ 9999) :
    ∃ (M k : Nat) (a b : Int) (p : Nat), (zs.length + 1) / 2 = k ∧ (1 ≤ k ∧ k ≤ zs.length) ∧ FnM 123 [amOf (colM zs)] (.num M) ∧ (srt zs)[atLARGE zs.length k]? = some a ∧ (srt zs)[atSMALL zs.length k]? = some b ∧
      floatBits .mul .f64 4611686018427387904 M = some p ∧ floatBits .add .f64 (enc a 0) (enc b 0) = some p ∧ fin p := by
  have hpos : 0 < zs.length := List.length_pos_iff.2 hne
  have hsl := srt_len zs
  have hsb := srt_bound (zs := zs) (B := 9999) (by omega) hz
  have h2 : (4611686018427387904 : Nat) = E false 2 0 := by decide
  rcases Nat.mod_two_eq_zero_or_one zs.length with hev | hodd
  · obtain ⟨a, ha⟩ : ∃ a, (srt zs)[zs.length / 2 - 1]? = some a := ⟨_, List.getElem?_eq_getElem (by omega)⟩
    obtain ⟨b, hb⟩ : ∃ b, (srt zs)[zs.length / 2]? = some b := ⟨_, List.getElem?_eq_getElem (by omega)⟩
    have la := hsb a (List.mem_of_getElem? ha)
    have lb := hsb b (List.mem_of_getElem? hb)
    have hadd := add_whole a b 0 (by omega) (by omega) (by omega) (by omega)
    have hadd2 := add_whole b a 0 (by omega) (by omega) (by omega) (by omega)
    have hquo : floatBits .quo .f64 (enc (a + b) 0) 4611686018427387904 = some (enc (a + b) 1) := by
      show Ieee.double.div _ _ = _
      rw [enc_E, enc_E, h2]
      have := div_E (decide (a + b < 0)) false (a + b).natAbs 2 (a + b).natAbs 0 0 1 (by omega) (by omega) (by omega) (by omega) (by omega) (by omega) (by omega) (by omega)
      rw [Bool.xor_false] at this
      exact this
    have hmul : floatBits .mul .f64 4611686018427387904 (enc (a + b) 1) = some (enc (a + b) 0) := by
      show Ieee.double.mul _ _ = _
      rw [h2, enc_E (a + b) 1, mul_E _ _ _ _ 0 1 (by omega) (by omega) (by omega) (by omega), Bool.false_xor]
      have := enc_shift (a + b) 0 1 (by omega) (by omega)
      rw [enc_E, enc_E] at this
      rw [enc_E, ← this]
      congr 2
      · simp; omega
      · simp; omega
    refine ⟨enc (a + b) 1, zs.length / 2, b, a, enc (a + b) 0, by omega, by omega, MEDIAN_col zs hne hl hz _ (.inl ⟨hev, a, b, _, ha, hb, hadd, hquo⟩) ⟨fin_enc _ 1 (by omega) (by omega), nz_enc _ 1 (by omega) (by omega)⟩, ?_, ?_, hmul, by rw [hadd2, Int.add_comm], fin_enc _ 0 (by omega) (by omega)⟩
    · unfold atLARGE
      rw [show zs.length - zs.length / 2 = zs.length / 2 by omega]; exact hb
    · exact ha
  · obtain ⟨a, ha⟩ : ∃ a, (srt zs)[zs.length / 2]? = some a := ⟨_, List.getElem?_eq_getElem (by omega)⟩
    have la := hsb a (List.mem_of_getElem? ha)
    have hadd := add_whole a a 0 (by omega) (by omega) (by omega) (by omega)
    have hmul : floatBits .mul .f64 4611686018427387904 (enc a 0) = some (enc (a + a) 0) := by
      show Ieee.double.mul _ _ = _
      rw [h2, enc_E a 0, mul_E _ _ _ _ 0 0 (by omega) (by omega) (by omega) (by omega), Bool.false_xor, enc_E]
      congr 2
      · simp; omega
      · omega
    refine ⟨enc a 0, (zs.length + 1) / 2, a, a, enc (a + a) 0, rfl, by omega, MEDIAN_col zs hne hl hz _ (.inr ⟨hodd, a, ha, rfl⟩) ⟨fin_enc _ 0 (by omega) (by omega), nz_whole _ (by omega)⟩, ?_, ?_, hmul, hadd, fin_enc _ 0 (by omega) (by omega)⟩
    · unfold atLARGE
      rw [show zs.length - (zs.length + 1) / 2 = zs.length / 2 by omega]; exact ha
    · unfold atSMALL
      rw [show (zs.length + 1) / 2 - 1 = zs.length / 2 by omega]; exact ha
end Go.Proofs.YtndabbepepbnmaaGreatDoor
