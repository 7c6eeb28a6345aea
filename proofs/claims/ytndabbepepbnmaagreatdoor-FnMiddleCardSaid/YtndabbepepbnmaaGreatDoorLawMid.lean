import Derived.Test.YtndabbepepbnmaaGreatDoorMidA
namespace Go.Proofs.YtndabbepepbnmaaGreatDoor
open Go.RowKit
attribute [local go_sem] run_store_float

set_option maxRecDepth 100000 in
set_option maxHeartbeats 4000000 in
theorem middle_in (n c : Nat) (A : Option Addr) (Z : Nat → Int) (w : World) (hn : n ≤ 2147483647) (hZ : ∀ i, i < n → ∃ a, A = some a ∧ w.cell? (a.add i) = some (.int .i64 (Z i))) :
    Calls Tryz.prog 15 #[.slice A n c] w fun e w' => e = .returned (.bool true) ∧ Below w.heap.size w w' := by
  obtain ⟨zs, hzs⟩ : ∃ zs, tinyL ((List.range n).map Z) = zs := ⟨_, rfl⟩
  have hsm : ∀ z ∈ zs, -9999 ≤ z ∧ z ≤ 9999 := by rw [← hzs]; exact tinyL_small _
  have hlen : zs.length ≤ 120 := by rw [← hzs]; simp [tinyL]; omega
  have HT := hid (tiny_any n c A Z w hn hZ)
  rw [hzs] at HT
  clear hzs hZ
  go_enter Tryz.func15, Tryz.ntmps15
  go_wp2_with fail
  refine HT.out.mono ?_
  rintro e w1 ⟨v, rfl, hown, hb1⟩
  clear HT
  obtain ⟨A1, c1, rfl, _, _⟩ := Sl.of_own hown
  by_cases h0 : zs = []
  · subst h0
    go_wp2_with fail
    go_ret
    exact ⟨rfl, hb1⟩
  have hpos : 0 < zs.length := List.length_pos_iff.2 h0
  obtain ⟨b, rfl, hbB, hNc, hcell⟩ : ∃ b, A1 = some ⟨b, 0, none⟩ ∧ b < w1.heap.size ∧ zs.length ≤ c1 ∧ ∀ (j : Nat) (u : Value), (zs.map (Value.int .i64))[j]? = some u → w1.cell? ⟨b, 0 + j, none⟩ = some u := by
    rcases hown.2 with ⟨_, h0⟩ | ⟨g, cap, cur, hv, hg, hh, hnc, _⟩
    · omega
    · injection hv with e1 _ e3
      subst e1; subst e3
      refine ⟨g, rfl, (Array.getElem?_eq_some_iff.1 hh).1, hnc, fun j u hu => ?_⟩
      have := hown.cells (g := g) rfl j u hu
      rw [add_mid] at this
      exact this
  obtain ⟨ys, hys⟩ : ∃ ys, zs.take 40 = ys := ⟨_, rfl⟩
  have hyl : ys.length = min 40 zs.length := by rw [← hys, List.length_take]
  have hyz : ∀ z ∈ ys, z.natAbs ≤ 9999 := fun z h => by
    rw [← hys] at h
    have := hsm z (List.mem_of_mem_take h); omega
  have hy0 : ys ≠ [] := fun e => by rw [e] at hyl; simp at hyl; omega
  obtain ⟨M, k, a, b2, p, hk, hkb, hFM, hLA, hSM, hmul, hadd, hfp⟩ := middle_nums ys hy0 (by omega) hyz
  obtain ⟨N, hN⟩ : ∃ N, ys.length = N := ⟨_, rfl⟩
  have hcol : Hid (∀ wx, Below w1.heap.size w1 wx → Calls Tryz.prog 30 #[.slice (some ⟨b, 0, none⟩) N c1] wx fun e w' => ∃ s, e = .returned (.agg #[.int .i64 5, .int .i64 0, .int .i64 0, .string es, s]) ∧ Rwn wx w' 5 svCells s (colRows ys) ∧ Below wx.heap.size wx w') := hid (fun wx hb => by
    have := column_any ys hy0 (fun z h => by have := hyz z h; omega) (by omega) (.slice (some ⟨b, 0, none⟩) N c1) wx ⟨some ⟨b, 0, none⟩, c1, by rw [hN], by simp, fun _ => ⟨b, 0, rfl, Nat.lt_of_lt_of_le hbB hb.size, fun j u hu => (hb.cell (p := ⟨b, 0 + j, none⟩) hbB).trans (hcell j u (by
      rw [← hys, List.map_take] at hu
      by_cases hj : j < 40
      · rwa [List.getElem?_take_of_lt hj] at hu
      · rw [List.getElem?_take_eq_none (by omega)] at hu; cases hu))⟩⟩
    exact this)
  have hM1 : Hid (∀ wx g s, Bk wx g 24 #[.int .i64 5, .int .i64 0, .int .i64 0, .string es, s] → Rws wx wx.heap.size 5 svCells s (colRows ys) → Calls Tryz.prog 31 #[.func (.func 56) #[] #[], .slice (some ⟨g, 0, none⟩) 1 1] wx fun e w' => e = .returned (avV (1, M, es)) ∧ Below wx.heap.size wx w') := hid (fun wx g s => askM ys hy0 (by omega) hyz M hFM s g wx)
  have hL1 := hid (fun wx g s => askK_LARGE ys hy0 (by omega) hyz k hkb a hLA s g wx)
  have hS1 := hid (fun wx g s => askK_SMALL ys hy0 (by omega) hyz k hkb b2 hSM s g wx)
  have hq1 := fun wx => run_float_arith (P := Tryz.prog) wx .mul 39 .f64 _ M p hmul
  have hq2 := fun wx => run_float_arith (P := Tryz.prog) wx .add 39 .f64 _ _ p hadd
  have hE : FloatKind.f64.format.order p p = some .eq := hfp
  have hk6 : k ≤ 40 := by omega
  have hkq : Int.tdiv ((N : Int) + 1) 2 = (k : Int) := by rw [← hk, hN]; rfl
  have hkq2 : ((N : Int) + 1) / 2 = (k : Int) := by omega
  have hcase : (40 < zs.length ∧ N = 40) ∨ (¬ 40 < zs.length ∧ zs.length = N) := by omega
  clear hmul hadd hfp hLA hSM hFM hyz hyl hys hsm hcell hown hkb hk
  generalize enc a 0 = xa at *
  generalize enc b2 0 = xb at *
  rcases hcase with ⟨h40, rfl⟩ | ⟨h40, hNN⟩
  · have h40I : (40 : Int) < (zs.length : Int) := by omega
    have h40c : (40 : Int) ≤ (c1 : Int) := by omega
    obtain rfl : k = 20 := by omega
    go_wp2_with fail
    refine (hcol.out w1 (Below.refl _ _)).mono ?_
    rintro e u1 ⟨s1, rfl, hr1, hu1⟩
    obtain ⟨A1, d1, rfl⟩ := hr1.form
    have hR1 := hid hr1.rws
    clear hr1
    go_wp2_with fail
    have k1 : Below u1.heap.size u1 (u1.alloc (.cells #[.int .i64 5, .int .i64 0, .int .i64 0, .string es, .slice A1 (colRows ys).length d1] 24)) := (Below.refl _ _).alloc (Nat.le_refl _) _
    refine (hM1.out _ u1.heap.size _ (Bk.new u1 _ _) (Rws.below hR1.out k1 k1.size)).mono ?_
    rintro e u2 ⟨rfl, hu2⟩
    have h2 : Below w1.heap.size w1 u2 := hu1.trans ((k1.trans (hu2.mono k1.size)).mono hu1.size)
    clear hR1 k1 hu1 hu2
    dsimp only [avV, iv]
    go_wp2_with fail
    refine (hcol.out u2 h2).mono ?_
    rintro e u3 ⟨s3, rfl, hr3, hu3⟩
    obtain ⟨A3, d3, rfl⟩ := hr3.form
    have hR3 := hid hr3.rws
    clear hr3
    go_wp2_with fail
    refine (int_ok 20 u3 (by omega) (by omega)).mono ?_
    rintro e u4 ⟨rfl, hu4⟩
    have hR4 := hid (Rws.below hR3.out hu4 hu4.size)
    unfold sv
    go_wp2_with fail
    have k4 : Below u4.heap.size u4 (u4.alloc (.cells #[.int .i64 5, .int .i64 0, .int .i64 0, .string es, .slice A3 (colRows ys).length d3, .int .i64 1, .int .i64 20, .int .i64 1, .string es, .slice none 0 0] 24)) := (Below.refl _ _).alloc (Nat.le_refl _) _
    refine (hL1.out _ u4.heap.size _ (Bk.new u4 _ _) (Rws.below hR4.out k4 k4.size)).mono ?_
    rintro e u5 ⟨rfl, hu5⟩
    have h5 : Below w1.heap.size w1 u5 := h2.trans (((hu3.trans (hu4.mono hu3.size)).trans ((k4.trans (hu5.mono k4.size)).mono (Nat.le_trans hu3.size hu4.size))).mono h2.size)
    clear hR3 hR4 k4 hu3 hu4 hu5
    dsimp only [avV, iv]
    go_wp2_with fail
    refine (hcol.out u5 h5).mono ?_
    rintro e u6 ⟨s6, rfl, hr6, hu6⟩
    obtain ⟨A6, d6, rfl⟩ := hr6.form
    have hR6 := hid hr6.rws
    clear hr6
    go_wp2_with fail
    refine (int_ok 20 u6 (by omega) (by omega)).mono ?_
    rintro e u7 ⟨rfl, hu7⟩
    have hR7 := hid (Rws.below hR6.out hu7 hu7.size)
    unfold sv
    go_wp2_with fail
    have k7 : Below u7.heap.size u7 (u7.alloc (.cells #[.int .i64 5, .int .i64 0, .int .i64 0, .string es, .slice A6 (colRows ys).length d6, .int .i64 1, .int .i64 20, .int .i64 1, .string es, .slice none 0 0] 24)) := (Below.refl _ _).alloc (Nat.le_refl _) _
    refine (hS1.out _ u7.heap.size _ (Bk.new u7 _ _) (Rws.below hR7.out k7 k7.size)).mono ?_
    rintro e u8 ⟨rfl, hu8⟩
    have h8 : Below w1.heap.size w1 u8 := h5.trans (((hu6.trans (hu7.mono hu6.size)).trans ((k7.trans (hu8.mono k7.size)).mono (Nat.le_trans hu6.size hu7.size))).mono h5.size)
    clear hR6 hR7 k7 hu6 hu7 hu8
    dsimp only [avV, iv]
    go_wp2_with fail
    go_ret
    exact ⟨rfl, hb1.trans ((((h8.alloc h8.size _).alloc (by simp; have := h8.size; omega) _).alloc (by simp; have := h8.size; omega) _).mono hb1.size)⟩
  · rw [hNN] at hpos h40 hNc hlen
    rw [hNN]
    go_wp2_with fail
    refine (hcol.out w1 (Below.refl _ _)).mono ?_
    rintro e u1 ⟨s1, rfl, hr1, hu1⟩
    obtain ⟨A1, d1, rfl⟩ := hr1.form
    have hR1 := hid hr1.rws
    clear hr1
    go_wp2_with fail
    have k1 : Below u1.heap.size u1 (u1.alloc (.cells #[.int .i64 5, .int .i64 0, .int .i64 0, .string es, .slice A1 (colRows ys).length d1] 24)) := (Below.refl _ _).alloc (Nat.le_refl _) _
    refine (hM1.out _ u1.heap.size _ (Bk.new u1 _ _) (Rws.below hR1.out k1 k1.size)).mono ?_
    rintro e u2 ⟨rfl, hu2⟩
    have h2 : Below w1.heap.size w1 u2 := hu1.trans ((k1.trans (hu2.mono k1.size)).mono hu1.size)
    clear hR1 k1 hu1 hu2
    dsimp only [avV, iv]
    go_wp2_with fail
    refine (hcol.out u2 h2).mono ?_
    rintro e u3 ⟨s3, rfl, hr3, hu3⟩
    obtain ⟨A3, d3, rfl⟩ := hr3.form
    have hR3 := hid hr3.rws
    clear hr3
    go_wp2_with fail
    refine (int_ok (k : Nat) u3 (by omega) (by omega)).mono ?_
    rintro e u4 ⟨rfl, hu4⟩
    have hR4 := hid (Rws.below hR3.out hu4 hu4.size)
    unfold sv
    go_wp2_with fail
    have k4 : Below u4.heap.size u4 (u4.alloc (.cells #[.int .i64 5, .int .i64 0, .int .i64 0, .string es, .slice A3 (colRows ys).length d3, .int .i64 1, .int .i64 (k : Nat), .int .i64 1, .string es, .slice none 0 0] 24)) := (Below.refl _ _).alloc (Nat.le_refl _) _
    refine (hL1.out _ u4.heap.size _ (Bk.new u4 _ _) (Rws.below hR4.out k4 k4.size)).mono ?_
    rintro e u5 ⟨rfl, hu5⟩
    have h5 : Below w1.heap.size w1 u5 := h2.trans (((hu3.trans (hu4.mono hu3.size)).trans ((k4.trans (hu5.mono k4.size)).mono (Nat.le_trans hu3.size hu4.size))).mono h2.size)
    clear hR3 hR4 k4 hu3 hu4 hu5
    dsimp only [avV, iv]
    go_wp2_with fail
    refine (hcol.out u5 h5).mono ?_
    rintro e u6 ⟨s6, rfl, hr6, hu6⟩
    obtain ⟨A6, d6, rfl⟩ := hr6.form
    have hR6 := hid hr6.rws
    clear hr6
    go_wp2_with fail
    refine (int_ok (k : Nat) u6 (by omega) (by omega)).mono ?_
    rintro e u7 ⟨rfl, hu7⟩
    have hR7 := hid (Rws.below hR6.out hu7 hu7.size)
    unfold sv
    go_wp2_with fail
    have k7 : Below u7.heap.size u7 (u7.alloc (.cells #[.int .i64 5, .int .i64 0, .int .i64 0, .string es, .slice A6 (colRows ys).length d6, .int .i64 1, .int .i64 (k : Nat), .int .i64 1, .string es, .slice none 0 0] 24)) := (Below.refl _ _).alloc (Nat.le_refl _) _
    refine (hS1.out _ u7.heap.size _ (Bk.new u7 _ _) (Rws.below hR7.out k7 k7.size)).mono ?_
    rintro e u8 ⟨rfl, hu8⟩
    have h8 : Below w1.heap.size w1 u8 := h5.trans (((hu6.trans (hu7.mono hu6.size)).trans ((k7.trans (hu8.mono k7.size)).mono (Nat.le_trans hu6.size hu7.size))).mono h5.size)
    clear hR6 hR7 k7 hu6 hu7 hu8
    dsimp only [avV, iv]
    go_wp2_with fail
    go_ret
    exact ⟨rfl, hb1.trans ((((h8.alloc h8.size _).alloc (by simp; have := h8.size; omega) _).alloc (by simp; have := h8.size; omega) _).mono hb1.size)⟩

theorem law_FnMiddle (n c : Nat) (A : Option Addr) (Z : Nat → Int) (w : World) (hn : n ≤ maxLen) (hZ : ∀ i, i < n → ∃ a, A = some a ∧ w.cell? (a.add i) = some (.int .i64 (Z i))) :
    Calls Tryz.prog 15 #[.slice A n c] w fun e w' => e = .returned (.bool true) ∧ Below w.heap.size w w' := by
  unfold maxLen at hn
  by_cases h1 : 2147483647 < n
  · clear hZ
    go_enter Tryz.func15, Tryz.ntmps15
    go_wp2_with fail
    go_ret
    exact ⟨rfl, Below.refl _ _⟩
  · exact middle_in n c A Z w (by omega) hZ
end Go.Proofs.YtndabbepepbnmaaGreatDoor
