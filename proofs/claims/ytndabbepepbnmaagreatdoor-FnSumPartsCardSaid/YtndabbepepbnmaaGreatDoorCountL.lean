import Derived.Test.YtndabbepepbnmaaGreatDoorCount
import Derived.Deep.LoopGhost
import Derived.Deep.RegionLaw
namespace Go.Proofs.YtndabbepepbnmaaGreatDoor
open Go.RowKit
attribute [local go_sem] run_store_float run_store_func

set_option maxRecDepth 100000 in
set_option maxHeartbeats 1000000 in
theorem COUNT_walk (ms : List AM) (N : Nat) (hnum : ∀ m ∈ ms, numAm m) (hN : (nums ms).length = N) (hN9 : N ≤ 80000) : FnM 110 ms (.num (enc (N : Int) 0)) := by
  intro w g L el vs h hA
  have hta := fun (u : Value) wx => run_typeAssert_struct (P := Tryz.prog) 78 20 u wx Tryz.underlying78
  have hlv : vs.length = ms.length := hA.1
  have hle : el.length = ms.length := by rw [h.len, hlv]
  have H := hid h
  have HA := hid hA
  have HN := hid hnum
  have HT := hid hN
  clear h hA hnum hN
  go_enter Tryz.func110, Tryz.ntmps110
  go_wp2_with fail
  have hz : (((w.alloc (.cells #[.string ⟨#[]⟩, .float .f64 0, .string ⟨#[]⟩, .slice none 0 0, .slice none 0 0, .bool false, .string ⟨#[]⟩, .int .u8 0, .pointer none, .pointer none] 78)).alloc (.cells #[.int .i64 0] 3)).alloc (.cells #[.func (.func 148) #[] #[ptr (w.heap.size + 1), ptr (w.heap.size + 1 + 1)]] 107)).heap.size = w.heap.size + 1 + 1 + 1 := by simp
  have hw : Below w.heap.size w (((w.alloc (.cells #[.string ⟨#[]⟩, .float .f64 0, .string ⟨#[]⟩, .slice none 0 0, .slice none 0 0, .bool false, .string ⟨#[]⟩, .int .u8 0, .pointer none, .pointer none] 78)).alloc (.cells #[.int .i64 0] 3)).alloc (.cells #[.func (.func 148) #[] #[ptr (w.heap.size + 1), ptr (w.heap.size + 1 + 1)]] 107)) := (((Below.refl _ _).alloc (Nat.le_refl _) _).alloc (by simp) _).alloc (by simp; omega) _
  have bR : Bk (((w.alloc (.cells #[.string ⟨#[]⟩, .float .f64 0, .string ⟨#[]⟩, .slice none 0 0, .slice none 0 0, .bool false, .string ⟨#[]⟩, .int .u8 0, .pointer none, .pointer none] 78)).alloc (.cells #[.int .i64 0] 3)).alloc (.cells #[.func (.func 148) #[] #[ptr (w.heap.size + 1), ptr (w.heap.size + 1 + 1)]] 107)) w.heap.size 78 #[.string ⟨#[]⟩, .float .f64 0, .string ⟨#[]⟩, .slice none 0 0, .slice none 0 0, .bool false, .string ⟨#[]⟩, .int .u8 0, .pointer none, .pointer none] := ((Bk.new _ _ _).alloc _).alloc _
  have bS : Bk (((w.alloc (.cells #[.string ⟨#[]⟩, .float .f64 0, .string ⟨#[]⟩, .slice none 0 0, .slice none 0 0, .bool false, .string ⟨#[]⟩, .int .u8 0, .pointer none, .pointer none] 78)).alloc (.cells #[.int .i64 0] 3)).alloc (.cells #[.func (.func 148) #[] #[ptr (w.heap.size + 1), ptr (w.heap.size + 1 + 1)]] 107)) (w.heap.size + 1) 3 #[.int .i64 0] := (Bk.new_at (by simp)).alloc _
  have bF : Bk (((w.alloc (.cells #[.string ⟨#[]⟩, .float .f64 0, .string ⟨#[]⟩, .slice none 0 0, .slice none 0 0, .bool false, .string ⟨#[]⟩, .int .u8 0, .pointer none, .pointer none] 78)).alloc (.cells #[.int .i64 0] 3)).alloc (.cells #[.func (.func 148) #[] #[ptr (w.heap.size + 1), ptr (w.heap.size + 1 + 1)]] 107)) (w.heap.size + 1 + 1) 107 #[.func (.func 148) #[] #[ptr (w.heap.size + 1), ptr (w.heap.size + 1 + 1)]] := Bk.new_at (by simp)
  generalize (((w.alloc (.cells #[.string ⟨#[]⟩, .float .f64 0, .string ⟨#[]⟩, .slice none 0 0, .slice none 0 0, .bool false, .string ⟨#[]⟩, .int .u8 0, .pointer none, .pointer none] 78)).alloc (.cells #[.int .i64 0] 3)).alloc (.cells #[.func (.func 148) #[] #[ptr (w.heap.size + 1), ptr (w.heap.size + 1 + 1)]] 107)) = W at *
  refine (front_elN (H.out.keep hw)).mono ?_
  rintro e w1 ⟨rfl, rfl⟩
  go_wp2_with fail
  go_loopg [7] ms.length (fun gg p wr => ∃ (k n : Nat), k ≤ ms.length ∧ gg = ms.length - k ∧ Hid (p = elN el k) ∧ Hid (n + (nums (ms.drop k)).length = N) ∧ Sets (w.heap.size + 1) 3 #[.int .i64 (n : Int)] W wr)
  case atStart => exact ⟨0, 0, Nat.zero_le _, rfl, hid rfl, hid (by rw [Nat.zero_add]; exact HT.out), Sets.refl bS⟩
  case round =>
    obtain ⟨k, n, hk, hgk, hp, hU, hs⟩ := hrel
    have hsz := hs.size
    have hbw : Below w.heap.size w wr := hw.trans (hs.below (by omega) (by omega))
    have hp' := hp.out
    by_cases hlt : k < ms.length
    · obtain ⟨m, hm⟩ : ∃ m, ms[k]? = some m := ⟨_, List.getElem?_eq_getElem hlt⟩
      obtain ⟨v, hv⟩ : ∃ v, vs[k]? = some v := ⟨_, List.getElem?_eq_getElem (by omega)⟩
      obtain ⟨f, hf, hflt, hcell⟩ := H.out.at_ hv
      unfold elN at hp'
      rw [hf] at hp'
      change _ = ptr f at hp'
      subst hp'
      have gv : wr.cell? ⟨f, 3, none⟩ = some v := (hbw.cell (p := ⟨f, 3, none⟩) hflt).trans hcell
      have gl : f < wr.heap.size := by omega
      have hAo : ArgOk wr (fun b => b < w.heap.size) v m := (HA.out.2 k v m hv hm).keep fun b hb => ⟨hbw.block b hb, hb⟩
      have hdrop : ms.drop k = m :: ms.drop (k + 1) := by
        rw [List.drop_eq_getElem_cons hlt]
        rw [List.getElem?_eq_getElem hlt] at hm
        injection hm with hm
        rw [hm]
      have HV2 : Hid (n + (numsOf m).length + (nums (ms.drop (k + 1))).length = N) := hid (by
        have := hU.out
        rw [hdrop, nums, List.flatMap_cons, List.length_append] at this
        rw [Nat.add_assoc]; exact this)
      have hn9 : n ≤ 80000 := by have := hU.out; omega
      have Hf := hid hf
      have hn1 : Hid (∀ w', Below w.heap.size w w' → Calls Tryz.prog 147 #[ptr f] w' fun e w'' => e = .returned (elN el (k + 1)) ∧ w' = w'') := hid (fun w' hb' => next_elN (H.out.keep hb') Hf.out)
      have eF : wr.cell? ⟨w.heap.size + 1 + 1, 0, none⟩ = some (.func (.func 148) #[] #[ptr (w.heap.size + 1), ptr (w.heap.size + 1 + 1)]) := (World.cell?_of_block (w := W) (hs.block (w.heap.size + 1 + 1) (by omega) (by omega))).trans (bF.cell 0)
      have hBF : Hid (Bk wr (w.heap.size + 1 + 1) 107 #[.func (.func 148) #[] #[ptr (w.heap.size + 1), ptr (w.heap.size + 1 + 1)]]) := hid ((hs.block (w.heap.size + 1 + 1) (by omega) (by omega)).trans bF)
      have hgfr : w.heap.size + 1 + 1 < wr.heap.size := by omega
      have HS := hid hs
      have hform := (HN.out m (List.mem_of_getElem? hm)).form hAo
      have hCall : Hid (∀ u wx, v = .iface 78 u → Below wr.heap.size wr wx → Calls Tryz.prog 148 #[u, .bool false, ptr (w.heap.size + 1), ptr (w.heap.size + 1 + 1)] wx fun e w' => e = .returned (.tuple #[]) ∧ Sets (w.heap.size + 1) 3 #[.int .i64 ((n + (numsOf m).length : Nat) : Int)] wx w') := hid (fun u wx hu hb => by
        have hSx := HS.out.holds.below hb HS.out.holds.lt
        have hFx := hBF.out.below hb hBF.out.lt
        rcases hform with ⟨h0, hn, rfl⟩ | ⟨A, nn, c, L1, L2, h0, hn, hne, hl, hl2, rfl, hmx⟩
        · injection hu with _ hu
          subst hu
          have e1 : (numsOf m).length = 1 := by unfold numsOf; rw [if_pos h0]; rfl
          rw [e1]
          exact countArg_num m.1.2.1 n (by omega) false _ _ wx hSx
        · injection hu with _ hu
          subst hu
          have e1 : (numsOf m).length = m.2.flatten.length := by unfold numsOf; rw [if_neg h0, List.length_map]
          rw [e1]
          exact countArg_mat m.2 _ rfl _ n (by omega) _ _ wx (hmx.keep fun b hb' => ⟨hb.block b (by omega), by have := hb.size; omega⟩) hSx hFx (by omega) hn hne hl hl2)
      have hvform : (∃ x, v = .iface 78 (fa x es false es 1)) ∨ (∃ (A : Option Addr) (n c L1 L2 : Nat), v = .iface 78 (faM (.slice A n c) (ptr L1) (ptr L2))) := by
        rcases hform with ⟨_, _, h⟩ | ⟨A, n, c, L1, L2, _, _, _, _, _, h, _⟩
        · exact .inl ⟨_, h⟩
        · exact .inr ⟨A, n, c, L1, L2, h⟩
      clear hform hdrop hAo hcell hf hv hm hU hp hs hbw
      rcases hvform with ⟨x, rfl⟩ | ⟨A, nn, c, L1, L2, rfl⟩
      · unfold fa at gv
        have eF' : wr.drew.cell? ⟨w.heap.size + 1 + 1, 0, none⟩ = some (.func (.func 148) #[] #[ptr (w.heap.size + 1), ptr (w.heap.size + 1 + 1)]) := eF
        go_wp2_with fail
        go_region_law
          ((go_simp; go_at_call 148; refine (hCall.out _ wr.drew rfl (Below.drew (Below.refl _ _))).mono ?_; rintro e w2 ⟨rfl, hs2⟩))
        all_goals
          have hs3 := (HS.out.grow (Below.drew (Below.refl _ _))).trans hs2
          have hb3 : Below w.heap.size w w2 := hw.trans (hs3.below (by omega) (by omega))
          clear hs2 gv eF eF'
          go_wp2_with fail
          refine (hn1.out _ hb3).mono ?_
          rintro e w3 ⟨rfl, rfl⟩
          go_wp2_with fail
          go_roundg (ms.length - (k + 1))
          case measure => omega
          case rel => first | exact ⟨k + 1, n + (numsOf m).length, by omega, rfl, hid rfl, HV2, hs3⟩ | ((repeat apply Exists.intro); exact ⟨⟨k + 1, n + (numsOf m).length, by omega, rfl, hid rfl, HV2, hs3⟩, rfl⟩)
      · unfold faM at gv
        have eF' : wr.drew.cell? ⟨w.heap.size + 1 + 1, 0, none⟩ = some (.func (.func 148) #[] #[ptr (w.heap.size + 1), ptr (w.heap.size + 1 + 1)]) := eF
        go_wp2_with fail
        go_region_law
          ((go_simp; go_at_call 148; refine (hCall.out _ wr.drew rfl (Below.drew (Below.refl _ _))).mono ?_; rintro e w2 ⟨rfl, hs2⟩))
        all_goals
          have hs3 := (HS.out.grow (Below.drew (Below.refl _ _))).trans hs2
          have hb3 : Below w.heap.size w w2 := hw.trans (hs3.below (by omega) (by omega))
          clear hs2 gv eF eF'
          go_wp2_with fail
          refine (hn1.out _ hb3).mono ?_
          rintro e w3 ⟨rfl, rfl⟩
          go_wp2_with fail
          go_roundg (ms.length - (k + 1))
          case measure => omega
          case rel => first | exact ⟨k + 1, n + (numsOf m).length, by omega, rfl, hid rfl, HV2, hs3⟩ | ((repeat apply Exists.intro); exact ⟨⟨k + 1, n + (numsOf m).length, by omega, rfl, hid rfl, HV2, hs3⟩, rfl⟩)
    · have hkn : k = ms.length := by omega
      subst hkn
      have hST : n = N := by
        have := hU.out
        rw [List.drop_length] at this
        exact this
      subst hST
      unfold elN at hp'
      rw [List.getElem?_eq_none (by omega)] at hp'
      change _ = Value.pointer none at hp'
      subst hp'
      have hR : Bk wr w.heap.size 78 #[.string ⟨#[]⟩, .float .f64 0, .string ⟨#[]⟩, .slice none 0 0, .slice none 0 0, .bool false, .string ⟨#[]⟩, .int .u8 0, .pointer none, .pointer none] := (hs.block w.heap.size (by omega) (by omega)).trans bR
      have c0 : wr.cell? ⟨w.heap.size + 1, 0, none⟩ = some (.int .i64 (n : Int)) := hs.holds.cell 0
      clear hU hp
      go_wp2_with fail
      rw [floatOfInt_enc]
      refine (newNumber_any _ _ (fin_enc (n : Int) 0 (by omega) (by omega))).mono ?_
      rintro e w2 ⟨rfl, hb2⟩
      rw [nz_whole _ (by omega)]
      have hR2 := hR.below hb2 hR.lt
      have hb3 := hbw.trans (hb2.mono hbw.size)
      obtain ⟨q0, q1, q2, q3, q4, q5, q6, q7, q8, q9, qf⟩ := hR2.cells10
      have hz2 := hR2.lt
      clear hb2 hR c0 hs hbw
      unfold fa
      go_wp2_with fail
      exact end_cell Tryz.results110 rfl (Bk.set10 hR2 _ _ _ _ _ _ _ _ _ _) Tryz.underlying78 rfl info_fa rfl
        ⟨rfl, Below.set10 hb3 (Nat.le_refl _) _ _ _ _ _ _ _ _ _ _⟩
end Go.Proofs.YtndabbepepbnmaaGreatDoor
