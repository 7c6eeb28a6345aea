import Derived.Test.YtndabbepepbnmaaGreatDoorSum
import Derived.Deep.LoopGhost
namespace Go.Proofs.YtndabbepepbnmaaGreatDoor
open Go.RowKit
theorem run_store_func (P : Program) (w : World) (a : Addr) (m : Mode) (f : Go.Fn) (x y : Array Value) : (store a (.func f x y) m).run P w = stored P w a (.func f x y) m := run_store P w a _ m rfl
attribute [local go_sem] run_store_float run_store_func

/-- an argument that holds numbers alone -/
def numAm (m : AM) : Prop := (m.2 = [] ∧ numAv m.1) ∨ (m.2 ≠ [] ∧ (∀ a ∈ m.2.flatten, numAv a) ∧ (∀ r ∈ m.2, r ≠ []) ∧ m.2.length ≤ 1000 ∧ m.2.flatten.length ≤ 1000)
def numsOf (m : AM) : List Nat := if m.2 = [] then [m.1.2.1] else m.2.flatten.map (·.2.1)
def nums (ms : List AM) : List Nat := ms.flatMap numsOf

/-- what an argument of numbers looks like -/
theorem numAm.form {w : World} {S : Nat → Prop} {v : Value} {m : AM} (hm : numAm m) (h : ArgOk w S v m) :
    (m.2 = [] ∧ numAv m.1 ∧ v = .iface 78 (fa m.1.2.1 es false es 1)) ∨
    (∃ (A : Option Addr) (n c L1 L2 : Nat), m.2 ≠ [] ∧ (∀ a ∈ m.2.flatten, numAv a) ∧ (∀ r ∈ m.2, r ≠ []) ∧ m.2.length ≤ 1000 ∧ m.2.flatten.length ≤ 1000 ∧ v = .iface 78 (faM (.slice A n c) (ptr L1) (ptr L2)) ∧ MxA w S (faM (.slice A n c) (ptr L1) (ptr L2)) m.2) := by
  rcases h with ⟨h0, hv⟩ | ⟨h0, u, hv, hx⟩
  · rcases hm with ⟨_, hn⟩ | ⟨hne, _⟩
    · left
      refine ⟨h0, hn, ?_⟩
      rw [hv]
      show Value.iface _ (fav m.1.1 m.1.2.1 m.1.2.2) = _
      rw [hn.1, fav_num, hn.2]
    · exact absurd h0 hne
  · rcases hm with ⟨h1, _⟩ | ⟨_, hn, hne, hl, hl2⟩
    · exact absurd h1 h0
    · right
      obtain ⟨mm, L1, L2, g, x, he, hr, rest⟩ := hx
      obtain ⟨A, c, hf⟩ := hr.form
      subst hf
      exact ⟨A, _, c, L1, L2, h0, hn, hne, hl, hl2, by rw [hv, he], ⟨_, L1, L2, g, x, rfl, hr, rest⟩⟩

set_option maxRecDepth 100000 in
set_option maxHeartbeats 1000000 in
theorem SUM_walk (ms : List AM) (T : Nat) (hnum : ∀ m ∈ ms, numAm m) (hT : FS 0 (nums ms) T) (hfin : fin T) : FnM 109 ms (.num (nz T)) := by
  intro w g L el vs h hA
  have hta := fun (u : Value) wx => run_typeAssert_struct (P := Tryz.prog) 78 20 u wx Tryz.underlying78
  have hlv : vs.length = ms.length := hA.1
  have hle : el.length = ms.length := by rw [h.len, hlv]
  have H := hid h
  have HA := hid hA
  have HN := hid hnum
  have HT := hid hT
  have HFin := hid hfin
  clear h hA hnum hT hfin
  go_enter Tryz.func109, Tryz.ntmps109
  go_wp2_with fail
  have hz : (((w.alloc (.cells #[.string ⟨#[]⟩, .float .f64 0, .string ⟨#[]⟩, .slice none 0 0, .slice none 0 0, .bool false, .string ⟨#[]⟩, .int .u8 0, .pointer none, .pointer none] 78)).alloc (.cells #[.float .f64 0] 39)).alloc (.cells #[.func (.func 145) #[] #[ptr (w.heap.size + 1), ptr (w.heap.size + 1 + 1)]] 107)).heap.size = w.heap.size + 1 + 1 + 1 := by simp
  have hw : Below w.heap.size w (((w.alloc (.cells #[.string ⟨#[]⟩, .float .f64 0, .string ⟨#[]⟩, .slice none 0 0, .slice none 0 0, .bool false, .string ⟨#[]⟩, .int .u8 0, .pointer none, .pointer none] 78)).alloc (.cells #[.float .f64 0] 39)).alloc (.cells #[.func (.func 145) #[] #[ptr (w.heap.size + 1), ptr (w.heap.size + 1 + 1)]] 107)) := (((Below.refl _ _).alloc (Nat.le_refl _) _).alloc (by simp) _).alloc (by simp; omega) _
  have bR : Bk (((w.alloc (.cells #[.string ⟨#[]⟩, .float .f64 0, .string ⟨#[]⟩, .slice none 0 0, .slice none 0 0, .bool false, .string ⟨#[]⟩, .int .u8 0, .pointer none, .pointer none] 78)).alloc (.cells #[.float .f64 0] 39)).alloc (.cells #[.func (.func 145) #[] #[ptr (w.heap.size + 1), ptr (w.heap.size + 1 + 1)]] 107)) w.heap.size 78 #[.string ⟨#[]⟩, .float .f64 0, .string ⟨#[]⟩, .slice none 0 0, .slice none 0 0, .bool false, .string ⟨#[]⟩, .int .u8 0, .pointer none, .pointer none] := ((Bk.new _ _ _).alloc _).alloc _
  have bS : Bk (((w.alloc (.cells #[.string ⟨#[]⟩, .float .f64 0, .string ⟨#[]⟩, .slice none 0 0, .slice none 0 0, .bool false, .string ⟨#[]⟩, .int .u8 0, .pointer none, .pointer none] 78)).alloc (.cells #[.float .f64 0] 39)).alloc (.cells #[.func (.func 145) #[] #[ptr (w.heap.size + 1), ptr (w.heap.size + 1 + 1)]] 107)) (w.heap.size + 1) 39 #[.float .f64 0] := (Bk.new_at (by simp)).alloc _
  have bF : Bk (((w.alloc (.cells #[.string ⟨#[]⟩, .float .f64 0, .string ⟨#[]⟩, .slice none 0 0, .slice none 0 0, .bool false, .string ⟨#[]⟩, .int .u8 0, .pointer none, .pointer none] 78)).alloc (.cells #[.float .f64 0] 39)).alloc (.cells #[.func (.func 145) #[] #[ptr (w.heap.size + 1), ptr (w.heap.size + 1 + 1)]] 107)) (w.heap.size + 1 + 1) 107 #[.func (.func 145) #[] #[ptr (w.heap.size + 1), ptr (w.heap.size + 1 + 1)]] := Bk.new_at (by simp)
  generalize (((w.alloc (.cells #[.string ⟨#[]⟩, .float .f64 0, .string ⟨#[]⟩, .slice none 0 0, .slice none 0 0, .bool false, .string ⟨#[]⟩, .int .u8 0, .pointer none, .pointer none] 78)).alloc (.cells #[.float .f64 0] 39)).alloc (.cells #[.func (.func 145) #[] #[ptr (w.heap.size + 1), ptr (w.heap.size + 1 + 1)]] 107)) = W at *
  refine (front_elN (H.out.keep hw)).mono ?_
  rintro e w1 ⟨rfl, rfl⟩
  go_wp2_with fail
  go_loopg [7] ms.length (fun gg p wr => ∃ (k S : Nat), k ≤ ms.length ∧ gg = ms.length - k ∧ Hid (p = elN el k) ∧ Hid (FS S (nums (ms.drop k)) T) ∧ Sets (w.heap.size + 1) 39 #[.float .f64 S] W wr)
  case atStart => exact ⟨0, 0, Nat.zero_le _, rfl, hid rfl, HT, Sets.refl bS⟩
  case round =>
    obtain ⟨k, S, hk, hgk, hp, hU, hs⟩ := hrel
    have hsz := hs.size
    have hbw : Below w.heap.size w wr := hw.trans (hs.below (by omega) (by omega))
    have hp' := hp.out
    by_cases hlt : k < ms.length
    · obtain ⟨m, hm⟩ : ∃ m, ms[k]? = some m := ⟨_, List.getElem?_eq_getElem hlt⟩
      obtain ⟨v, hv⟩ : ∃ v, vs[k]? = some v := ⟨_, List.getElem?_eq_getElem (by omega)⟩
      obtain ⟨f, hf, hflt, hcell⟩ := H.out.at_ hv
      unfold elN at hp'
      rw [hf] at hp'
      change _ = ptr f at hp'
      subst hp'
      have gv : wr.cell? ⟨f, 3, none⟩ = some v := (hbw.cell (p := ⟨f, 3, none⟩) hflt).trans hcell
      have gl : f < wr.heap.size := by omega
      have hAo : ArgOk wr (fun b => b < w.heap.size) v m := (HA.out.2 k v m hv hm).keep fun b hb => ⟨hbw.block b hb, hb⟩
      have hdrop : ms.drop k = m :: ms.drop (k + 1) := by
        rw [List.drop_eq_getElem_cons hlt]
        rw [List.getElem?_eq_getElem hlt] at hm
        injection hm with hm
        rw [hm]
      obtain ⟨V, hV1, hV2⟩ : ∃ V, FS S (numsOf m) V ∧ FS V (nums (ms.drop (k + 1))) T := by
        have := hU.out
        rw [hdrop] at this
        exact FS.split this
      have HV2 := hid hV2
      have Hf := hid hf
      have hn1 : Hid (∀ w', Below w.heap.size w w' → Calls Tryz.prog 147 #[ptr f] w' fun e w'' => e = .returned (elN el (k + 1)) ∧ w' = w'') := hid (fun w' hb' => next_elN (H.out.keep hb') Hf.out)
      have eF : wr.cell? ⟨w.heap.size + 1 + 1, 0, none⟩ = some (.func (.func 145) #[] #[ptr (w.heap.size + 1), ptr (w.heap.size + 1 + 1)]) := (World.cell?_of_block (w := W) (hs.block (w.heap.size + 1 + 1) (by omega) (by omega))).trans (bF.cell 0)
      have hBF : Hid (Bk wr (w.heap.size + 1 + 1) 107 #[.func (.func 145) #[] #[ptr (w.heap.size + 1), ptr (w.heap.size + 1 + 1)]]) := hid ((hs.block (w.heap.size + 1 + 1) (by omega) (by omega)).trans bF)
      have hgfr : w.heap.size + 1 + 1 < wr.heap.size := by omega
      have HS := hid hs
      have hform := (HN.out m (List.mem_of_getElem? hm)).form hAo
      have hCall : Hid (∀ u wx, v = .iface 78 u → Below wr.heap.size wr wx → Calls Tryz.prog 145 #[u, .bool false, ptr (w.heap.size + 1), ptr (w.heap.size + 1 + 1)] wx fun e w' => e = .returned (.tuple #[]) ∧ Sets (w.heap.size + 1) 39 #[.float .f64 V] wx w') := hid (fun u wx hu hb => by
        have hSx := HS.out.holds.below hb HS.out.holds.lt
        have hFx := hBF.out.below hb hBF.out.lt
        rcases hform with ⟨h0, hn, rfl⟩ | ⟨A, n, c, L1, L2, h0, hn, hne, hl, hl2, rfl, hmx⟩
        · injection hu with _ hu
          subst hu
          unfold numsOf at hV1
          rw [if_pos h0] at hV1
          obtain ⟨V', hadd, hVV⟩ := hV1
          obtain rfl : V' = V := hVV
          exact sumArg_num m.1.2.1 S V' false _ _ wx hSx hadd
        · injection hu with _ hu
          subst hu
          unfold numsOf at hV1
          rw [if_neg h0] at hV1
          exact sumArg_mat m.2 _ rfl _ S V _ _ wx (hmx.keep fun b hb' => ⟨hb.block b (by omega), by have := hb.size; omega⟩) hSx hFx (by omega) hn hV1 hne hl hl2)
      have hvform : (∃ x, v = .iface 78 (fa x es false es 1)) ∨ (∃ (A : Option Addr) (n c L1 L2 : Nat), v = .iface 78 (faM (.slice A n c) (ptr L1) (ptr L2))) := by
        rcases hform with ⟨_, _, h⟩ | ⟨A, n, c, L1, L2, _, _, _, _, _, h, _⟩
        · exact .inl ⟨_, h⟩
        · exact .inr ⟨A, n, c, L1, L2, h⟩
      have hbw' := hid hbw
      clear hform hV1 hV2 hdrop hAo hcell hf hv hm hU hp hs hbw
      rcases hvform with ⟨x, rfl⟩ | ⟨A, n, c, L1, L2, rfl⟩
      · unfold fa at gv
        go_wp2_with fail
        refine (hCall.out _ _ rfl ((Below.refl _ _).alloc (Nat.le_refl _) _)).mono ?_
        rintro e w2 ⟨rfl, hs2⟩
        have hs3 := (HS.out.grow ((Below.refl _ _).alloc (Nat.le_refl _) _)).trans hs2
        have hb3 : Below w.heap.size w w2 := hw.trans (hs3.below (by omega) (by omega))
        clear hs2 gv eF
        go_wp2_with fail
        refine (hn1.out _ hb3).mono ?_
        rintro e w3 ⟨rfl, rfl⟩
        go_wp2_with fail
        go_roundg (ms.length - (k + 1))
        case measure => omega
        case rel => first | exact ⟨k + 1, V, by omega, rfl, hid rfl, HV2, hs3⟩ | ((repeat apply Exists.intro); exact ⟨⟨k + 1, V, by omega, rfl, hid rfl, HV2, hs3⟩, rfl⟩)
      · unfold faM at gv
        go_wp2_with fail
        refine (hCall.out _ _ rfl ((Below.refl _ _).alloc (Nat.le_refl _) _)).mono ?_
        rintro e w2 ⟨rfl, hs2⟩
        have hs3 := (HS.out.grow ((Below.refl _ _).alloc (Nat.le_refl _) _)).trans hs2
        have hb3 : Below w.heap.size w w2 := hw.trans (hs3.below (by omega) (by omega))
        clear hs2 gv eF
        go_wp2_with fail
        refine (hn1.out _ hb3).mono ?_
        rintro e w3 ⟨rfl, rfl⟩
        go_wp2_with fail
        go_roundg (ms.length - (k + 1))
        case measure => omega
        case rel => first | exact ⟨k + 1, V, by omega, rfl, hid rfl, HV2, hs3⟩ | ((repeat apply Exists.intro); exact ⟨⟨k + 1, V, by omega, rfl, hid rfl, HV2, hs3⟩, rfl⟩)
    · have hkn : k = ms.length := by omega
      subst hkn
      have hST : S = T := by
        have := hU.out
        rw [List.drop_length] at this
        exact this
      subst hST
      unfold elN at hp'
      rw [List.getElem?_eq_none (by omega)] at hp'
      change _ = Value.pointer none at hp'
      subst hp'
      have hR : Bk wr w.heap.size 78 #[.string ⟨#[]⟩, .float .f64 0, .string ⟨#[]⟩, .slice none 0 0, .slice none 0 0, .bool false, .string ⟨#[]⟩, .int .u8 0, .pointer none, .pointer none] := (hs.block w.heap.size (by omega) (by omega)).trans bR
      have c0 : wr.cell? ⟨w.heap.size + 1, 0, none⟩ = some (.float .f64 S) := hs.holds.cell 0
      clear hU hp
      go_wp2_with fail
      refine (newNumber_any S _ HFin.out).mono ?_
      rintro e w2 ⟨rfl, hb2⟩
      have hR2 := hR.below hb2 hR.lt
      have hb3 := hbw.trans (hb2.mono hbw.size)
      obtain ⟨q0, q1, q2, q3, q4, q5, q6, q7, q8, q9, qf⟩ := hR2.cells10
      have hz2 := hR2.lt
      clear hb2 hR c0 hs hbw
      unfold fa
      go_wp2_with fail
      exact end_cell Tryz.results109 rfl (Bk.set10 hR2 _ _ _ _ _ _ _ _ _ _) Tryz.underlying78 rfl info_fa rfl
        ⟨rfl, Below.set10 hb3 (Nat.le_refl _) _ _ _ _ _ _ _ _ _ _⟩
end Go.Proofs.YtndabbepepbnmaaGreatDoor
