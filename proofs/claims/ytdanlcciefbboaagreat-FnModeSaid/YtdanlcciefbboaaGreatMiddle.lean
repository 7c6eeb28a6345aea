import Derived.Test.YtdanlcciefbboaaGreatKinds
import Derived.Test.YtdanlcciefbboaaGreatLet
namespace Go.Proofs.YtdanlcciefbboaaGreat
open Go.RowKit
attribute [local go_sem] run_store_float

/-- the numbers among values -/
def numsOf (l : List SV) : List SV := l.filter fun a => a.1 == 1
theorem numsOf_append (l k : List SV) : numsOf (l ++ k) = numsOf l ++ numsOf k := by simp [numsOf]
theorem numsOf_le (l : List SV) : (numsOf l).length ≤ l.length := List.length_filter_le _ _
/-- an argument of which the reference says something -/
def mArg (m : SM) : Prop := m.1.1 = 1 ∨ (m.1.1 = 5 ∧ ∀ a ∈ m.2.flatten, a.1 = 0 ∨ a.1 = 1 ∨ a.1 = 2)
def flat1 (m : SM) : List SV := if m.1.1 = 5 then m.2.flatten else [m.1]
theorem flatM_one (m : SM) : flatM [m] = flat1 m := by simp [flatM, flat1]
theorem flatM_snoc (ms : List SM) (k : Nat) (m : SM) (h : ms[k]? = some m) : flatM (ms.take (k + 1)) = flatM (ms.take k) ++ flat1 m := flatM_take ms k m h

set_option maxRecDepth 100000 in
set_option maxHeartbeats 8000000 in
/-- the numbers of arguments, where anything is said -/
theorem middle_any (ms : List SM) (A : Option Addr) (c : Nat) (hcap : ms.length ≤ c) (w : World) (h : SlM w (fun b => b < w.heap.size) 5 smCells 5 svCells (.slice A ms.length c) ms) (hok : ∀ m ∈ ms, fmOk m) (hlen : ms.length ≤ 1000) (hpos : 0 < ms.length) (hrl : ∀ m ∈ ms, m.2.length ≤ 1000) (htot : (flatM ms).length ≤ 100000)
    (htx : ∀ a ∈ flatM ms, a.2.2.2.size ≤ 2147483647) :
    Calls Tryz.prog 150 #[.slice A ms.length c, .bool false] w fun e w' => ∃ (A' : Option Addr) (n' c' : Nat) (b : Bool), e = .returned (.tuple #[.slice A' n' c', .bool b]) ∧ (b = true → Sl w' w'.heap.size 5 (.slice A' n' c') (numsOf (flatM ms)).length ((numsOf (flatM ms)).flatMap svCells) ∧ ∀ m ∈ ms, mArg m) ∧ Below w.heap.size w w' := by
  obtain ⟨ps, hps, ⟨A0, c0, hv0, hl, hc⟩, hrw⟩ := h
  injection hv0 with e1 e2 e3
  subst e1; subst e3
  have HPS := hid hps
  have HRW := hid hrw
  have HC := hid hc
  have HO := hid hok
  have HRL := hid hrl
  have HLE := hid (flatM_le ms)
  have HTX := hid htx
  obtain ⟨N, hN⟩ : ∃ N, ms.length = N := ⟨_, rfl⟩
  have HN := hid hN
  have hpl : Hid (ps.length = N) := hid (by rw [← hN, ← hps, List.length_map])
  rw [hN] at hcap hlen hpos
  rw [hN]
  obtain ⟨T, hT⟩ : ∃ T, (flatM ms).length = T := ⟨_, rfl⟩
  have HTT := hid hT
  rw [hT] at htot HLE
  clear hps hrw hc hok hrl hl hT hN e2 htx
  obtain ⟨i0, hi, hz0, hz1, hz2⟩ := info_parts infos_sv
  go_enter Tryz.func150, Tryz.ntmps150
  go_wp2_with fail
  go_loopw [6, 7, 8, 9] (fun u iv _l _k wr => ∃ (i n : Nat), i ≤ N ∧ n ≤ T ∧ iv = .int .i64 i ∧ Hid ((numsOf (flatM (ms.take i))).length = n) ∧ Hid (∀ m ∈ ms.take i, mArg m) ∧ wr.ownsRow w.heap.size 34 5 u n ((numsOf (flatM (ms.take i))).flatMap svCells) ∧ Below w.heap.size w wr) (fun _ iv _ _ _ => N - (intOf iv).toNat)
  case atStart => exact ⟨0, 0, Nat.zero_le _, by omega, rfl, hid rfl, hid (fun m hm => by simp at hm), World.ownsRow_nil _ _ _ _, Below.refl _ _⟩
  case round =>
    obtain ⟨i, n, hiN, hnT, rfl, hn, hma, hown, hb⟩ := hrel
    have hbz := hb.size
    by_cases hlt : i < N
    · obtain ⟨b, o, rfl, hbB, hcell⟩ := HC.out (by rw [hpl.out]; omega)
      obtain ⟨p, hp⟩ : ∃ p, ps[i]? = some p := ⟨_, List.getElem?_eq_getElem (by rw [hpl.out]; exact hlt)⟩
      have hmem := List.mem_of_getElem? hp
      have hmk : ms[i]? = some p.1 := by rw [← HPS.out, List.getElem?_map, hp]; rfl
      have hokA := HO.out _ (List.mem_of_getElem? hmk)
      have hrlA := HRL.out _ (List.mem_of_getElem? hmk)
      have hrwA := HRW.out p hmem
      have f := fun j (hj : j < 5) => flat_at smCells 5 (fun _ => rfl) ps i p j hp hj
      have g0 : w.cell? ⟨b, o + i * 5, none⟩ = some (.int .i64 p.1.1.1) := by have := hcell (i * 5 + 0) _ ((f 0 (by omega)).trans rfl); simpa using this
      have g1 : w.cell? ⟨b, o + i * 5 + 1, none⟩ = some (.int .i64 p.1.1.2.1) := hcell (i * 5 + 1) _ ((f 1 (by omega)).trans rfl)
      have g2 : w.cell? ⟨b, o + i * 5 + 2, none⟩ = some (.int .i64 p.1.1.2.2.1) := hcell (i * 5 + 2) _ ((f 2 (by omega)).trans rfl)
      have g3 : w.cell? ⟨b, o + i * 5 + 3, none⟩ = some (.string p.1.1.2.2.2) := hcell (i * 5 + 3) _ ((f 3 (by omega)).trans rfl)
      have g4 : w.cell? ⟨b, o + i * 5 + 4, none⟩ = some p.2 := hcell (i * 5 + 4) _ ((f 4 (by omega)).trans rfl)
      have hnx := flatM_snoc ms i p.1 hmk
      have hnle := HLE.out (i + 1)
      rw [hnx, List.length_append] at hnle
      have hn0 := numsOf_le (flatM (ms.take i))
      rw [hn.out] at hn0
      -- what Flat makes of this argument
      have HFl : Hid (∀ (cx : Nat) (wx : World), Below w.heap.size w wx → Calls Tryz.prog 20 #[.slice (some ⟨b, o + i * 5, none⟩) 1 cx] wx fun e w' => ∃ v', e = .returned v' ∧ SlP w' (fun b => wx.heap.size ≤ b ∧ b < w'.heap.size) 5 v' (flat1 p.1).length ((flat1 p.1).flatMap svCells) ∧ Below wx.heap.size wx w') := hid (fun cx wx hbx => by
        have := Flat_matP [p.1] (.slice (some ⟨b, o + i * 5, none⟩) 1 cx) wx ⟨[p], rfl, ⟨_, cx, rfl, rfl, fun _ => ⟨b, o + i * 5, rfl, by have := hbx.size; omega, fun j u hu => by
          have hj5 : j < 5 := by
            have := (List.getElem?_eq_some_iff.1 hu).1
            simpa [smCells] using this
          rw [hbx.cell (p := ⟨b, o + i * 5 + j, none⟩) hbB, Nat.add_assoc]
          exact hcell (i * 5 + j) u ((f j hj5).trans (by simpa using hu))⟩⟩, fun q hq => by
            obtain rfl := List.mem_singleton.1 hq
            exact Rws.below hrwA hbx hbx.size⟩ (fun m hm => by obtain rfl := List.mem_singleton.1 hm; exact hokA) (by simp) (fun m hm => by obtain rfl := List.mem_singleton.1 hm; exact hrlA)
            (by rw [flatM_one]; omega)
        rw [flatM_one] at this
        exact this)
      have HKm : Hid (p.1.1.1 = 5 → ∀ (kb : Nat) (wx : World), Below w.heap.size w wx → Bk wx kb 3 #[.int .i64 1, .int .i64 2, .int .i64 0, .int .i64 3] → Calls Tryz.prog 78 #[smV p.1.1 p.2, .slice (some ⟨kb, 0, none⟩) 4 4] wx fun e w' => e = .returned (.bool ((flat1 p.1).all kOk)) ∧ Below wx.heap.size wx w') := hid (fun h5 kb wx hbx hK => by
        have e1 : flat1 p.1 = p.1.2.flatten := by unfold flat1; rw [if_pos h5]
        rcases hokA with ⟨hn5, _⟩ | ⟨_, hrr⟩
        · exact absurd h5 hn5
        · have := kinds_mat p.1.2 p.1.1.2.1 p.1.1.2.2.1 p.1.1.2.2.2 p.2 kb wx (Rws.below hrwA hbx hbx.size) hK hrr hrlA (by rw [← e1]; omega)
          rw [e1, show p.1.1 = (5, p.1.1.2.1, p.1.1.2.2.1, p.1.1.2.2.2) by rw [← h5]]
          exact this)
      have HKf : Hid (p.1.1.1 ≠ 5 → ∀ (kb : Nat) (wx : World), Calls Tryz.prog 78 #[smV p.1.1 p.2, .slice (some ⟨kb, 0, none⟩) 4 4] wx fun e w' => e = .returned (.bool false) ∧ Below wx.heap.size wx w') := hid (fun h5 kb wx => by
        rcases hokA with ⟨_, h0⟩ | ⟨h, _⟩
        · have : p.2 = .slice none 0 0 := hrwA.1 h0
          rw [this]
          exact kinds_flat p.1.1 _ wx h5 _ _ _ rfl
        · exact absurd h h5)
      have HNx := hid hnx
      have HMa : Hid ((p.1.1.1 = 1 ∨ (p.1.1.1 = 5 ∧ ∀ a ∈ flat1 p.1, a.1 = 0 ∨ a.1 = 1 ∨ a.1 = 2)) → ∀ m ∈ ms.take (i + 1), mArg m) := hid (fun h m hm => by
        rw [List.take_add_one, hmk] at hm
        rcases List.mem_append.1 hm with hm | hm
        · exact hma.out m hm
        · have : m = p.1 := by simpa using hm
          rw [this]
          rcases h with h | ⟨h, h2⟩
          · exact .inl h
          · refine .inr ⟨h, ?_⟩
            unfold flat1 at h2
            rw [if_pos h] at h2
            exact h2)
      have HF5 : Hid (p.1.1.1 = 1 → flat1 p.1 = [p.1.1]) := hid (fun h => by unfold flat1; rw [if_neg (by rw [h]; decide)])
      have HTa : Hid (∀ a ∈ flat1 p.1, a.2.2.2.size ≤ 2147483647) := hid (fun a ha => HTX.out a (by
        have h1 : flatM ms = flatM (ms.take (i + 1)) ++ flatM (ms.drop (i + 1)) := by
          unfold flatM; rw [← List.flatMap_append, List.take_append_drop]
        rw [h1, HNx.out]
        simp [ha]))
      obtain ⟨⟨a, rows⟩, s⟩ := p
      dsimp only at *
      generalize flat1 (a, rows) = l at *
      clear f hcell hp hmem hmk hokA hrwA hrlA hnx hma
      have c0 := (hb.cell (p := ⟨b, o + i * 5, none⟩) hbB).trans g0
      have c1 := (hb.cell (p := ⟨b, o + i * 5 + 1, none⟩) hbB).trans g1
      have c2 := (hb.cell (p := ⟨b, o + i * 5 + 2, none⟩) hbB).trans g2
      have c3 := (hb.cell (p := ⟨b, o + i * 5 + 3, none⟩) hbB).trans g3
      have c4 := (hb.cell (p := ⟨b, o + i * 5 + 4, none⟩) hbB).trans g4
      have hblt : b < wr.heap.size := by omega
      have hiI : (i : Int) < (N : Int) := by omega
      have hi0 : (0 : Int) ≤ (i : Int) := by omega
      have hX : Hid (∃ X, X = flatM (ms.take i)) := hid ⟨_, rfl⟩
      clear hX
      generalize flatM (ms.take i) = X at *
      by_cases h1 : a.1 = 1
      · have h1b : (a.1 != 1) = false := by simp [h1]
        have hl1 := HF5.out h1
        have HL4 : Hid (∀ x ∈ l, x.1 = 0 ∨ x.1 = 1 ∨ x.1 = 2 ∨ x.1 = 3) := hid (fun x hx => by rw [hl1] at hx; obtain rfl := List.mem_singleton.1 hx; exact .inr (.inl h1))
        have h1' := hid h1
        clear HKm HKf HF5 hl1 h1
        go_wp2_with fail
        refine (HFl.out _ _ hb).mono ?_
        rintro e w3 ⟨v3, rfl, hS3, hb3⟩
        obtain ⟨U0, hU0⟩ : ∃ U0, U0 = u6 := ⟨_, rfl⟩
        subst hU0
        have hown3 := own_keep hown hb3
        have hbw3 : Below w.heap.size w w3 := Below.lift hb hb.size hb3
        have hold := fun g (hg : U0.ownBlock = some g) => (hown.lt g hg).2
        clear hown hb hb3 c0 c1 c2 c3 c4 g0 g1 g2 g3 g4 HFl hblt
        obtain ⟨A3, cc3, rfl, hl3, hc3⟩ := hS3
        obtain ⟨F, hF⟩ : ∃ F, l.length = F := ⟨_, rfl⟩
        have HFF := hid hF
        have HCl : Hid (0 < F → ∃ b o, A3 = some ⟨b, o, none⟩ ∧ b < w3.heap.size ∧ some b ≠ U0.ownBlock ∧ ∀ (j : Nat) (u : Value), (l.flatMap svCells)[j]? = some u → w3.cell? ⟨b, o + j, none⟩ = some u) := hid (fun h0 => by
          obtain ⟨b, o, h1, h2, h3⟩ := hc3 (by omega)
          exact ⟨b, o, h1, h2.2, fun e => by have := hold b e.symm; omega, h3⟩)
        have HNl := hid (numsOf_le)
        rw [hF] at hnle
        rw [hF]
        clear hc3 hl3 hF hold
        have hbw3z := hbw3.size
        go_wp2_with fail
        go_loopw [6, 9] (fun u kv wx => ∃ (k n2 : Nat), k ≤ F ∧ n2 ≤ k ∧ kv = .int .i64 k ∧ Hid ((numsOf (l.take k)).length = n2) ∧ Hid (∀ a ∈ l.take k, a.1 = 0 ∨ a.1 = 1 ∨ a.1 = 2) ∧ wx.ownsRow w.heap.size 34 5 u (n + n2) ((numsOf X ++ numsOf (l.take k)).flatMap svCells) ∧ Below w.heap.size w wx ∧ w3.grownBy wx U0.ownBlock ∧ (u.ownBlock = U0.ownBlock ∨ ∀ g, u.ownBlock = some g → w3.heap.size ≤ g)) (fun _ kv _ => F - (intOf kv).toNat)
        case atStart => exact ⟨0, 0, Nat.zero_le _, by omega, rfl, hid rfl, hid (fun a ha => by simp at ha), by simpa [numsOf] using hown3, hbw3, World.grownBy.refl _ _, .inl rfl⟩
        case round =>
          clear hown3
          obtain ⟨k, n2, hkF, hn2, rfl, hnk, hmk, hown, hbx, hgx, hux⟩ := hrel
          have hbxz := hbx.size
          have hgxz := hgx.size
          by_cases hltk : k < F
          · obtain ⟨b3, o3, rfl, hb3B, hbne, hcell⟩ := HCl.out (by omega)
            obtain ⟨a', ha⟩ : ∃ a', l[k]? = some a' := ⟨_, List.getElem?_eq_getElem (by rw [HFF.out]; exact hltk)⟩
            have hmem := List.mem_of_getElem? ha
            have hk4 := HL4.out a' hmem
            have htx := HTa.out a' hmem
            have f := fun j (hj : j < 5) => flat_at svCells 5 svCells_len l k a' j ha hj
            have q0 : wr.cell? ⟨b3, o3 + k * 5, none⟩ = some (.int .i64 a'.1) := hgx.cell (by have := hcell (k * 5 + 0) _ ((f 0 (by omega)).trans rfl); simpa using this) hbne
            have q1 : wr.cell? ⟨b3, o3 + k * 5 + 1, none⟩ = some (.int .i64 a'.2.1) := hgx.cell (hcell (k * 5 + 1) _ ((f 1 (by omega)).trans rfl)) hbne
            have q2 : wr.cell? ⟨b3, o3 + k * 5 + 2, none⟩ = some (.int .i64 a'.2.2.1) := hgx.cell (hcell (k * 5 + 2) _ ((f 2 (by omega)).trans rfl)) hbne
            have q3 : wr.cell? ⟨b3, o3 + k * 5 + 3, none⟩ = some (.string a'.2.2.2) := hgx.cell (hcell (k * 5 + 3) _ ((f 3 (by omega)).trans rfl)) hbne
            have q4 : wr.cell? ⟨b3, o3 + k * 5 + 4, none⟩ = some (.slice none 0 0) := hgx.cell (hcell (k * 5 + 4) _ ((f 4 (by omega)).trans rfl)) hbne
            have htk : l.take (k + 1) = l.take k ++ [a'] := by rw [List.take_add_one, ha]; rfl
            have HT1 := hid (show numsOf (l.take (k + 1)) = numsOf (l.take k) ++ numsOf [a'] by rw [htk, numsOf_append])
            have HM1 : Hid (a'.1 ≠ 3 → ∀ x ∈ l.take (k + 1), x.1 = 0 ∨ x.1 = 1 ∨ x.1 = 2) := hid (fun h3 x hx => by
              rw [htk] at hx
              rcases List.mem_append.1 hx with hx | hx
              · exact hmk.out x hx
              · obtain rfl := List.mem_singleton.1 hx; omega)
            have hb3lt : b3 < wr.heap.size := by omega
            have hkI : (k : Int) < (F : Int) := by omega
            clear f hcell ha hmem htk hmk
            obtain ⟨x0, x1, x2, x3⟩ := a'
            dsimp only at *
            rcases hk4 with h | h | h | h
            · -- nothing
              subst h
              have hnk2 : Hid ((numsOf (l.take (k + 1))).length = n2) := hid (by rw [HT1.out]; simpa [numsOf] using hnk.out)
              have hm2 := hid (HM1.out (by decide))
              have hown2 : wr.ownsRow w.heap.size 34 5 u6 (n + n2) ((numsOf X ++ numsOf (l.take (k + 1))).flatMap svCells) := by
                rw [HT1.out]; simpa [numsOf] using hown
              clear hown HM1 HT1 hnk
              go_wp2_with fail
              go_roundw
              case rel => exact ⟨k + 1, n2, by omega, by omega, by go_num, hnk2, hm2, hown2, hbx, hgx, hux⟩
              case measure => simp [intOf]; omega
            · -- a number
              subst h
              have hnk2 : Hid ((numsOf (l.take (k + 1))).length = n2 + 1) := hid (by rw [HT1.out, List.length_append, hnk.out]; rfl)
              have hm2 := hid (HM1.out (by decide))
              have HT2 := hid (show (numsOf X ++ numsOf (l.take (k + 1))).flatMap svCells = (numsOf X ++ numsOf (l.take k)).flatMap svCells ++ svCells (1, x1, x2, x3) by rw [HT1.out, ← List.append_assoc, List.flatMap_append]; rfl)
              clear HM1 HT1 hnk
              generalize (numsOf X ++ numsOf (l.take k)).flatMap svCells = Y at *
              go_wp2_with (at_builtin; refine wpList_append_lies _ rfl _ _ 26 rfl w.heap.size 34 i0 _ 5 64 Tryz.underlying26 hi hz0 hz1 hz2 rfl (by decide) _ _ _ rfl (hown.alloc _) ⟨wr.heap.size, 0, none⟩ 1 1 (svCells (1, x1, x2, x3)) rfl rfl ?c1 ?c2 (by decide) ?c3 ?c4 ?c5 (wr.heap.size + 1) ?c6 ?_)
              case c1 =>
                intro j u hj
                rw [add_mid, Nat.zero_add, (Bk.new _ _ _).cell]
                simpa [svCells] using hj
              case c2 => intro u hu; simp [svCells] at hu; rcases hu with rfl | rfl | rfl | rfl | rfl <;> rfl
              case c3 => unfold maxLen; omega
              case c4 => omega
              case c5 => simp; omega
              case c6 => simp
              intro gg cap w4 hown4 hgrow hat hlt4
              have hz4 := hgrow.size
              simp at hz4
              have hbn : Below w.heap.size w w4 := (hbx.alloc hbxz _).grown hgrow (by simp; omega) (fun g hg => (hown.lt g hg).1)
              have hgn : w3.grownBy w4 U0.ownBlock := by
                have h2 := hgx.trans (World.grownBy_alloc wr (.cells (svCells (1, x1, x2, x3)).toArray 34) _)
                refine ⟨hgrow.os.trans h2.os, hgrow.tape.trans h2.tape, hgrow.output.trans h2.output, Nat.le_trans h2.size hgrow.size, fun q hq hne => (hgrow.block q (Nat.lt_of_lt_of_le hq h2.size) (fun e => ?_)).trans (h2.block q hq hne)⟩
                rcases hux with hu | hu
                · exact hne (e.trans hu)
                · have := hu q e.symm; omega
              have hun : (Value.slice (some ⟨gg, 0, none⟩) (n + n2 + 1) cap).ownBlock = U0.ownBlock ∨ ∀ g, (Value.slice (some ⟨gg, 0, none⟩) (n + n2 + 1) cap).ownBlock = some g → w3.heap.size ≤ g := by
                rcases hat with h4 | h4
                · rcases hux with hu | hu
                  · exact .inl (by rw [← hu, h4]; rfl)
                  · exact .inr (fun g hg => hu g (h4.trans hg))
                · exact .inr (fun g hg => by simp [Value.ownBlock] at hg; omega)
              rw [← HT2.out] at hown4
              clear hown hgrow hat hbx hgx hux q0 q1 q2 q3 q4
              go_wp2_with fail
              go_roundw
              case rel => exact ⟨k + 1, n2 + 1, by omega, by omega, by go_num, hnk2, hm2, hown4, hbn, hgn, hun⟩
              case measure => simp [intOf]; omega
            · -- a text
              subst h
              have hnk2 : Hid ((numsOf (l.take (k + 1))).length = n2) := hid (by rw [HT1.out]; simpa [numsOf] using hnk.out)
              have hm2 := hid (HM1.out (by decide))
              have hown2 : wr.ownsRow w.heap.size 34 5 u6 (n + n2) ((numsOf X ++ numsOf (l.take (k + 1))).flatMap svCells) := by
                rw [HT1.out]; simpa [numsOf] using hown
              clear hown HM1 HT1 hnk
              go_wp2_with fail
              refine (letters_some x3 htx _).mono ?_
              rintro e w4 ⟨z, rfl, hb4⟩
              have hown3 := own_keep hown2 hb4
              have hbn := Below.lift hbx hbxz hb4
              have hgn : w3.grownBy w4 U0.ownBlock := ⟨hb4.os.trans hgx.os, hb4.tape.trans hgx.tape, hb4.output.trans hgx.output, Nat.le_trans hgx.size hb4.size, fun q hq hne => (hb4.block q (Nat.lt_of_lt_of_le hq hgx.size)).trans (hgx.block q hq hne)⟩
              clear hown2 hbx hgx hb4 q0 q1 q2 q3 q4
              cases z
              · go_wp2_with fail
                go_ret2
                exact ⟨none, 0, 0, false, rfl, (fun h => Bool.noConfusion h), hbn⟩
              · go_wp2_with fail
                go_roundw
                case rel => exact ⟨k + 1, n2, by omega, by omega, by go_num, hnk2, hm2, hown3, hbn, hgn, hux⟩
                case measure => simp [intOf]; omega
            · -- a truth
              subst h
              go_wp2_with fail
              go_ret2
              exact ⟨none, 0, 0, false, rfl, (fun h => Bool.noConfusion h), hbx⟩
          · have hkF2 : l.take k = l := List.take_of_length_le (by rw [HFF.out]; omega)
            rw [hkF2] at hown hnk hmk
            have hnum : Hid (numsOf (flatM (ms.take (i + 1))) = numsOf X ++ numsOf l) := hid (by rw [HNx.out, numsOf_append])
            have hn4 : Hid ((numsOf (flatM (ms.take (i + 1)))).length = n + n2) := hid (by rw [hnum.out, List.length_append, hn.out, hnk.out])
            have hm4 := hid (HMa.out (.inl h1'.out))
            rw [← hnum.out] at hown
            have hle4 : n + n2 ≤ T := by omega
            clear hkF2
            go_wp2_with fail
            go_roundw
            case rel => exact ⟨i + 1, n + n2, by omega, hle4, by go_num, hn4, hm4, hown, hbx⟩
            case measure => simp [intOf]; omega
      · have h1b : (a.1 != 1) = true := by simpa using h1
        by_cases h5 : a.1 = 5
        · have HK := hid (HKm.out h5)
          have h5' := hid h5
          obtain ⟨z, hz⟩ : ∃ z, l.all kOk = z := ⟨_, rfl⟩
          have HZ := hid hz
          rw [hz] at HK
          clear HKm HKf HF5 h1 h5 hz
          have hbk := hb.alloc hbz (.cells #[.int .i64 1, .int .i64 2, .int .i64 0, .int .i64 3] 3)
          have HK2 := hid (HK.out wr.heap.size _ hbk (Bk.new wr _ _))
          unfold smV at HK2
          clear HK
          go_wp2_with fail
          refine HK2.out.mono ?_
          rintro e w2 ⟨rfl, hb2⟩
          have hownk := own_keep (hown.alloc (.cells #[.int .i64 1, .int .i64 2, .int .i64 0, .int .i64 3] 3)) hb2
          have hbn : Below w.heap.size w w2 := Below.lift hbk (by simp; omega) hb2
          clear hown hb hb2 hbk HK2 c0 c1 c2 c3 c4
          cases z
          · go_wp2_with fail
            go_ret2
            exact ⟨none, 0, 0, false, rfl, (fun h => Bool.noConfusion h), hbn⟩
          · have HL4 : Hid (∀ x ∈ l, x.1 = 0 ∨ x.1 = 1 ∨ x.1 = 2 ∨ x.1 = 3) := hid (fun x hx => by
              have := kk4 x.1 (List.all_eq_true.1 HZ.out x hx)
              omega)
            have hown := hownk
            have hb := hbn
            have hbz := hbn.size
            have c0 := (hb.cell (p := ⟨b, o + i * 5, none⟩) hbB).trans g0
            have c1 := c0
            have c2 := c0
            have c3 := c0
            have c4 := c0
            have hblt : b < w2.heap.size := by omega
            clear hownk hbn HZ
            go_wp2_with fail
            refine (HFl.out _ _ hb).mono ?_
            rintro e w3 ⟨v3, rfl, hS3, hb3⟩
            obtain ⟨U0, hU0⟩ : ∃ U0, U0 = u6 := ⟨_, rfl⟩
            subst hU0
            have hown3 := own_keep hown hb3
            have hbw3 : Below w.heap.size w w3 := Below.lift hb hb.size hb3
            have hold := fun g (hg : U0.ownBlock = some g) => (hown.lt g hg).2
            clear hown hb hb3 c0 c1 c2 c3 c4 g0 g1 g2 g3 g4 HFl hblt
            obtain ⟨A3, cc3, rfl, hl3, hc3⟩ := hS3
            obtain ⟨F, hF⟩ : ∃ F, l.length = F := ⟨_, rfl⟩
            have HFF := hid hF
            have HCl : Hid (0 < F → ∃ b o, A3 = some ⟨b, o, none⟩ ∧ b < w3.heap.size ∧ some b ≠ U0.ownBlock ∧ ∀ (j : Nat) (u : Value), (l.flatMap svCells)[j]? = some u → w3.cell? ⟨b, o + j, none⟩ = some u) := hid (fun h0 => by
              obtain ⟨b, o, h1, h2, h3⟩ := hc3 (by omega)
              exact ⟨b, o, h1, h2.2, fun e => by have := hold b e.symm; omega, h3⟩)
            have HNl := hid (numsOf_le)
            rw [hF] at hnle
            rw [hF]
            clear hc3 hl3 hF hold
            have hbw3z := hbw3.size
            go_wp2_with fail
            go_loopw [6, 9] (fun u kv wx => ∃ (k n2 : Nat), k ≤ F ∧ n2 ≤ k ∧ kv = .int .i64 k ∧ Hid ((numsOf (l.take k)).length = n2) ∧ Hid (∀ a ∈ l.take k, a.1 = 0 ∨ a.1 = 1 ∨ a.1 = 2) ∧ wx.ownsRow w.heap.size 34 5 u (n + n2) ((numsOf X ++ numsOf (l.take k)).flatMap svCells) ∧ Below w.heap.size w wx ∧ w3.grownBy wx U0.ownBlock ∧ (u.ownBlock = U0.ownBlock ∨ ∀ g, u.ownBlock = some g → w3.heap.size ≤ g)) (fun _ kv _ => F - (intOf kv).toNat)
            case atStart => exact ⟨0, 0, Nat.zero_le _, by omega, rfl, hid rfl, hid (fun a ha => by simp at ha), by simpa [numsOf] using hown3, hbw3, World.grownBy.refl _ _, .inl rfl⟩
            case round =>
              clear hown3
              obtain ⟨k, n2, hkF, hn2, rfl, hnk, hmk, hown, hbx, hgx, hux⟩ := hrel
              have hbxz := hbx.size
              have hgxz := hgx.size
              by_cases hltk : k < F
              · obtain ⟨b3, o3, rfl, hb3B, hbne, hcell⟩ := HCl.out (by omega)
                obtain ⟨a', ha⟩ : ∃ a', l[k]? = some a' := ⟨_, List.getElem?_eq_getElem (by rw [HFF.out]; exact hltk)⟩
                have hmem := List.mem_of_getElem? ha
                have hk4 := HL4.out a' hmem
                have htx := HTa.out a' hmem
                have f := fun j (hj : j < 5) => flat_at svCells 5 svCells_len l k a' j ha hj
                have q0 : wr.cell? ⟨b3, o3 + k * 5, none⟩ = some (.int .i64 a'.1) := hgx.cell (by have := hcell (k * 5 + 0) _ ((f 0 (by omega)).trans rfl); simpa using this) hbne
                have q1 : wr.cell? ⟨b3, o3 + k * 5 + 1, none⟩ = some (.int .i64 a'.2.1) := hgx.cell (hcell (k * 5 + 1) _ ((f 1 (by omega)).trans rfl)) hbne
                have q2 : wr.cell? ⟨b3, o3 + k * 5 + 2, none⟩ = some (.int .i64 a'.2.2.1) := hgx.cell (hcell (k * 5 + 2) _ ((f 2 (by omega)).trans rfl)) hbne
                have q3 : wr.cell? ⟨b3, o3 + k * 5 + 3, none⟩ = some (.string a'.2.2.2) := hgx.cell (hcell (k * 5 + 3) _ ((f 3 (by omega)).trans rfl)) hbne
                have q4 : wr.cell? ⟨b3, o3 + k * 5 + 4, none⟩ = some (.slice none 0 0) := hgx.cell (hcell (k * 5 + 4) _ ((f 4 (by omega)).trans rfl)) hbne
                have htk : l.take (k + 1) = l.take k ++ [a'] := by rw [List.take_add_one, ha]; rfl
                have HT1 := hid (show numsOf (l.take (k + 1)) = numsOf (l.take k) ++ numsOf [a'] by rw [htk, numsOf_append])
                have HM1 : Hid (a'.1 ≠ 3 → ∀ x ∈ l.take (k + 1), x.1 = 0 ∨ x.1 = 1 ∨ x.1 = 2) := hid (fun h3 x hx => by
                  rw [htk] at hx
                  rcases List.mem_append.1 hx with hx | hx
                  · exact hmk.out x hx
                  · obtain rfl := List.mem_singleton.1 hx; omega)
                have hb3lt : b3 < wr.heap.size := by omega
                have hkI : (k : Int) < (F : Int) := by omega
                clear f hcell ha hmem htk hmk
                obtain ⟨x0, x1, x2, x3⟩ := a'
                dsimp only at *
                rcases hk4 with h | h | h | h
                · -- nothing
                  subst h
                  have hnk2 : Hid ((numsOf (l.take (k + 1))).length = n2) := hid (by rw [HT1.out]; simpa [numsOf] using hnk.out)
                  have hm2 := hid (HM1.out (by decide))
                  have hown2 : wr.ownsRow w.heap.size 34 5 u6 (n + n2) ((numsOf X ++ numsOf (l.take (k + 1))).flatMap svCells) := by
                    rw [HT1.out]; simpa [numsOf] using hown
                  clear hown HM1 HT1 hnk
                  go_wp2_with fail
                  go_roundw
                  case rel => exact ⟨k + 1, n2, by omega, by omega, by go_num, hnk2, hm2, hown2, hbx, hgx, hux⟩
                  case measure => simp [intOf]; omega
                · -- a number
                  subst h
                  have hnk2 : Hid ((numsOf (l.take (k + 1))).length = n2 + 1) := hid (by rw [HT1.out, List.length_append, hnk.out]; rfl)
                  have hm2 := hid (HM1.out (by decide))
                  have HT2 := hid (show (numsOf X ++ numsOf (l.take (k + 1))).flatMap svCells = (numsOf X ++ numsOf (l.take k)).flatMap svCells ++ svCells (1, x1, x2, x3) by rw [HT1.out, ← List.append_assoc, List.flatMap_append]; rfl)
                  clear HM1 HT1 hnk
                  generalize (numsOf X ++ numsOf (l.take k)).flatMap svCells = Y at *
                  go_wp2_with (at_builtin; refine wpList_append_lies _ rfl _ _ 26 rfl w.heap.size 34 i0 _ 5 64 Tryz.underlying26 hi hz0 hz1 hz2 rfl (by decide) _ _ _ rfl (hown.alloc _) ⟨wr.heap.size, 0, none⟩ 1 1 (svCells (1, x1, x2, x3)) rfl rfl ?c1 ?c2 (by decide) ?c3 ?c4 ?c5 (wr.heap.size + 1) ?c6 ?_)
                  case c1 =>
                    intro j u hj
                    rw [add_mid, Nat.zero_add, (Bk.new _ _ _).cell]
                    simpa [svCells] using hj
                  case c2 => intro u hu; simp [svCells] at hu; rcases hu with rfl | rfl | rfl | rfl | rfl <;> rfl
                  case c3 => unfold maxLen; omega
                  case c4 => omega
                  case c5 => simp; omega
                  case c6 => simp
                  intro gg cap w4 hown4 hgrow hat hlt4
                  have hz4 := hgrow.size
                  simp at hz4
                  have hbn : Below w.heap.size w w4 := (hbx.alloc hbxz _).grown hgrow (by simp; omega) (fun g hg => (hown.lt g hg).1)
                  have hgn : w3.grownBy w4 U0.ownBlock := by
                    have h2 := hgx.trans (World.grownBy_alloc wr (.cells (svCells (1, x1, x2, x3)).toArray 34) _)
                    refine ⟨hgrow.os.trans h2.os, hgrow.tape.trans h2.tape, hgrow.output.trans h2.output, Nat.le_trans h2.size hgrow.size, fun q hq hne => (hgrow.block q (Nat.lt_of_lt_of_le hq h2.size) (fun e => ?_)).trans (h2.block q hq hne)⟩
                    rcases hux with hu | hu
                    · exact hne (e.trans hu)
                    · have := hu q e.symm; omega
                  have hun : (Value.slice (some ⟨gg, 0, none⟩) (n + n2 + 1) cap).ownBlock = U0.ownBlock ∨ ∀ g, (Value.slice (some ⟨gg, 0, none⟩) (n + n2 + 1) cap).ownBlock = some g → w3.heap.size ≤ g := by
                    rcases hat with h4 | h4
                    · rcases hux with hu | hu
                      · exact .inl (by rw [← hu, h4]; rfl)
                      · exact .inr (fun g hg => hu g (h4.trans hg))
                    · exact .inr (fun g hg => by simp [Value.ownBlock] at hg; omega)
                  rw [← HT2.out] at hown4
                  clear hown hgrow hat hbx hgx hux q0 q1 q2 q3 q4
                  go_wp2_with fail
                  go_roundw
                  case rel => exact ⟨k + 1, n2 + 1, by omega, by omega, by go_num, hnk2, hm2, hown4, hbn, hgn, hun⟩
                  case measure => simp [intOf]; omega
                · -- a text
                  subst h
                  have hnk2 : Hid ((numsOf (l.take (k + 1))).length = n2) := hid (by rw [HT1.out]; simpa [numsOf] using hnk.out)
                  have hm2 := hid (HM1.out (by decide))
                  have hown2 : wr.ownsRow w.heap.size 34 5 u6 (n + n2) ((numsOf X ++ numsOf (l.take (k + 1))).flatMap svCells) := by
                    rw [HT1.out]; simpa [numsOf] using hown
                  clear hown HM1 HT1 hnk
                  go_wp2_with fail
                  refine (letters_some x3 htx _).mono ?_
                  rintro e w4 ⟨z, rfl, hb4⟩
                  have hown3 := own_keep hown2 hb4
                  have hbn := Below.lift hbx hbxz hb4
                  have hgn : w3.grownBy w4 U0.ownBlock := ⟨hb4.os.trans hgx.os, hb4.tape.trans hgx.tape, hb4.output.trans hgx.output, Nat.le_trans hgx.size hb4.size, fun q hq hne => (hb4.block q (Nat.lt_of_lt_of_le hq hgx.size)).trans (hgx.block q hq hne)⟩
                  clear hown2 hbx hgx hb4 q0 q1 q2 q3 q4
                  cases z
                  · go_wp2_with fail
                    go_ret2
                    exact ⟨none, 0, 0, false, rfl, (fun h => Bool.noConfusion h), hbn⟩
                  · go_wp2_with fail
                    go_roundw
                    case rel => exact ⟨k + 1, n2, by omega, by omega, by go_num, hnk2, hm2, hown3, hbn, hgn, hux⟩
                    case measure => simp [intOf]; omega
                · -- a truth
                  subst h
                  go_wp2_with fail
                  go_ret2
                  exact ⟨none, 0, 0, false, rfl, (fun h => Bool.noConfusion h), hbx⟩
              · have hkF2 : l.take k = l := List.take_of_length_le (by rw [HFF.out]; omega)
                rw [hkF2] at hown hnk hmk
                have hnum : Hid (numsOf (flatM (ms.take (i + 1))) = numsOf X ++ numsOf l) := hid (by rw [HNx.out, numsOf_append])
                have hn4 : Hid ((numsOf (flatM (ms.take (i + 1)))).length = n + n2) := hid (by rw [hnum.out, List.length_append, hn.out, hnk.out])
                have hm4 := hid (HMa.out (.inr ⟨h5'.out, hmk.out⟩))
                rw [← hnum.out] at hown
                have hle4 : n + n2 ≤ T := by omega
                clear hkF2
                go_wp2_with fail
                go_roundw
                case rel => exact ⟨i + 1, n + n2, by omega, hle4, by go_num, hn4, hm4, hown, hbx⟩
                case measure => simp [intOf]; omega
        · have HK := hid (HKf.out h5)
          unfold smV at HK
          clear HKm HKf HF5 h1 h5
          go_wp2_with fail
          refine (HK.out _ _).mono ?_
          rintro e w2 ⟨rfl, hb2⟩
          have hbn : Below w.heap.size w w2 := Below.lift (hb.alloc hbz _) (by simp; omega) hb2
          go_wp2_with fail
          go_ret2
          exact ⟨none, 0, 0, false, rfl, (fun h => Bool.noConfusion h), hbn⟩
    · have hkl : ms.take i = ms := List.take_of_length_le (by rw [HN.out]; omega)
      rw [hkl] at hown hn hma
      have hposI : (0 : Int) < (N : Int) := by omega
      have hS := Sl.of_own hown
      rw [← hn.out] at hS
      have HS := hid hS
      obtain ⟨A9, c9, hv9, _, _⟩ := hS
      subst hv9
      clear hown hkl
      go_wp2_with fail
      go_ret2
      exact ⟨_, _, _, true, rfl, fun _ => ⟨HS.out, hma.out⟩, hb⟩
end Go.Proofs.YtdanlcciefbboaaGreat
