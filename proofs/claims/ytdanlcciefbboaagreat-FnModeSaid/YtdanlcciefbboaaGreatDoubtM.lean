import Derived.Test.YtdanlcciefbboaaGreatDoubt
import Derived.Test.YtdanlcciefbboaaGreatOfM
namespace Go.Proofs.YtdanlcciefbboaaGreat
open Go.RowKit
attribute [local go_sem] run_store_float

/-- values one by one, matrices row by row -/
def flatM (ms : List SM) : List SV := ms.flatMap fun m => if m.1.1 = 5 then m.2.flatten else [m.1]
theorem flatM_take (ms : List SM) (k : Nat) (m : SM) (h : ms[k]? = some m) : flatM (ms.take (k + 1)) = flatM (ms.take k) ++ (if m.1.1 = 5 then m.2.flatten else [m.1]) := by
  unfold flatM; rw [List.take_add_one, h]; simp
theorem flatM_le (ms : List SM) (k : Nat) : (flatM (ms.take k)).length ≤ (flatM ms).length := by
  have : flatM ms = flatM (ms.take k) ++ flatM (ms.drop k) := by
    unfold flatM; rw [← List.flatMap_append, List.take_append_drop]
  rw [this, List.length_append]; omega
/-- a value that Flat may meet -/
def fmOk (m : SM) : Prop := (m.1.1 ≠ 5 ∧ m.2 = []) ∨ (m.1.1 = 5 ∧ ∀ r ∈ m.2, r ≠ [] ∧ r.length ≤ 1000 ∧ ∀ a ∈ r, a.1 ≠ 5)
theorem flat_take2 {α : Type} (X : List α) (rows : List (List α)) (j : Nat) (r : List α) (h : rows[j]? = some r) : X ++ (rows.take (j + 1)).flatten = X ++ (rows.take j).flatten ++ r := by
  rw [List.take_add_one, h]; simp
theorem flatten_le {α : Type} (rows : List (List α)) (j : Nat) : (rows.take j).flatten.length ≤ rows.flatten.length := by
  have : rows.flatten = (rows.take j).flatten ++ (rows.drop j).flatten := by rw [← List.flatten_append, List.take_append_drop]
  rw [this, List.length_append]; omega

set_option maxRecDepth 100000 in
set_option maxHeartbeats 4000000 in
/-- Flat on values that may have rows: a new row -/
theorem Flat_matP (ms : List SM) (v : Value) (w : World) (h : SlM w (fun b => b < w.heap.size) 5 smCells 5 svCells v ms) (hok : ∀ m ∈ ms, fmOk m) (hlen : ms.length ≤ 1000) (hrl : ∀ m ∈ ms, m.2.length ≤ 1000) (htot : (flatM ms).length ≤ 100000) :
    Calls Tryz.prog 20 #[v] w fun e w' => ∃ v', e = .returned v' ∧ SlP w' (fun b => w.heap.size ≤ b ∧ b < w'.heap.size) 5 v' (flatM ms).length ((flatM ms).flatMap svCells) ∧ Below w.heap.size w w' := by
  obtain ⟨ps, hps, ⟨A, c, rfl, hl, hc⟩, hrw⟩ := h
  have hpl : ps.length = ms.length := by rw [← hps, List.length_map]
  have HPS := hid hps
  have HRW := hid hrw
  have HC := hid hc
  have HO := hid hok
  have HRL := hid hrl
  have HLE := hid (flatM_le ms)
  rw [← hpl] at hlen
  have HPL := hid hpl
  obtain ⟨T, hT⟩ : ∃ T, (flatM ms).length = T := ⟨_, rfl⟩
  have HTT := hid hT
  rw [hT] at htot HLE
  clear hps hrw hc hok hrl hl hpl hT
  obtain ⟨i0, hi, hz0, hz1, hz2⟩ := info_parts infos_sv
  go_enter Tryz.func20, Tryz.ntmps20
  go_wp2_with fail
  go_loopw [3, 4, 5] (fun u i _j wr => ∃ (k n : Nat), k ≤ ps.length ∧ n ≤ T ∧ i = .int .i64 k ∧ Hid ((flatM (ms.take k)).length = n) ∧ wr.ownsRow w.heap.size 34 5 u n ((flatM (ms.take k)).flatMap svCells) ∧ Below w.heap.size w wr) (fun _ i _ _ => ps.length - (intOf i).toNat)
  case atStart => exact ⟨0, 0, Nat.zero_le _, by omega, rfl, hid rfl, World.ownsRow_nil _ _ _ _, Below.refl _ _⟩
  case round =>
    obtain ⟨k, n, hk, hnT, rfl, hn, hown, hb⟩ := hrel
    have hbz := hb.size
    by_cases hlt : k < ps.length
    · obtain ⟨b, o, rfl, hbB, hcell⟩ := HC.out (by omega)
      obtain ⟨p, hp⟩ : ∃ p, ps[k]? = some p := ⟨ps[k], List.getElem?_eq_getElem hlt⟩
      have hmem := List.mem_of_getElem? hp
      have hmk : ms[k]? = some p.1 := by rw [← HPS.out, List.getElem?_map, hp]; rfl
      have hokA := HO.out _ (List.mem_of_getElem? hmk)
      have hrlA := HRL.out _ (List.mem_of_getElem? hmk)
      have hrwA := HRW.out p hmem
      have f := fun j (hj : j < 5) => flat_at smCells 5 (fun _ => rfl) ps k p j hp hj
      have g0 : w.cell? ⟨b, o + k * 5, none⟩ = some (.int .i64 p.1.1.1) := by have := hcell (k * 5 + 0) _ ((f 0 (by omega)).trans rfl); simpa using this
      have g1 : w.cell? ⟨b, o + k * 5 + 1, none⟩ = some (.int .i64 p.1.1.2.1) := hcell (k * 5 + 1) _ ((f 1 (by omega)).trans rfl)
      have g2 : w.cell? ⟨b, o + k * 5 + 2, none⟩ = some (.int .i64 p.1.1.2.2.1) := hcell (k * 5 + 2) _ ((f 2 (by omega)).trans rfl)
      have g3 : w.cell? ⟨b, o + k * 5 + 3, none⟩ = some (.string p.1.1.2.2.2) := hcell (k * 5 + 3) _ ((f 3 (by omega)).trans rfl)
      have g4 : w.cell? ⟨b, o + k * 5 + 4, none⟩ = some p.2 := hcell (k * 5 + 4) _ ((f 4 (by omega)).trans rfl)
      have hnx := flatM_take ms k p.1 hmk
      have hnle := HLE.out (k + 1)
      obtain ⟨⟨a, rows⟩, s⟩ := p
      dsimp only at *
      clear f hcell hp hmem hmk
      rcases hokA with ⟨h5, h0⟩ | ⟨h5, hrows⟩
      · subst h0
        obtain rfl : s = .slice none 0 0 := hrwA.1 rfl
        rw [if_neg h5] at hnx
        have h5b : (a.1 != 5) = true := by simpa using h5
        rw [hnx, List.length_append, hn.out] at hnle
        have hnle1 : n + 1 ≤ T := by simpa using hnle
        have HT := hid (show (flatM (ms.take (k + 1))).flatMap svCells = (flatM (ms.take k)).flatMap svCells ++ svCells a by rw [hnx]; simp)
        have HN := hid (show (flatM (ms.take (k + 1))).length = n + 1 by rw [hnx, List.length_append, hn.out]; rfl)
        have c0 := (hb.cell (p := ⟨b, o + k * 5, none⟩) hbB).trans g0
        have c1 := (hb.cell (p := ⟨b, o + k * 5 + 1, none⟩) hbB).trans g1
        have c2 := (hb.cell (p := ⟨b, o + k * 5 + 2, none⟩) hbB).trans g2
        have c3 := (hb.cell (p := ⟨b, o + k * 5 + 3, none⟩) hbB).trans g3
        have c4 := (hb.cell (p := ⟨b, o + k * 5 + 4, none⟩) hbB).trans g4
        have hblt : b < wr.heap.size := by omega
        clear hnx hnle g0 g1 g2 g3 g4 hrwA h5 hrlA hbB
        go_wp2_with (at_builtin; refine wpList_append_own _ rfl _ _ 26 rfl w.heap.size 34 i0 _ 5 64 Tryz.underlying26 hi hz0 hz1 hz2 rfl (by decide) _ _ _ rfl (hown.alloc _) ⟨wr.heap.size, 0, none⟩ 1 1 (svCells a) rfl rfl ?c1 ?c2 ?c3 ?c4 ?c5 ?_)
        case c1 =>
          intro j u hj
          have : svCells a = [.int .i64 a.1, .int .i64 a.2.1, .int .i64 a.2.2.1, .string a.2.2.2, .slice none 0 0] := rfl
          rw [this] at hj
          first | (rw [add_mid, Nat.zero_add, (Bk.new _ _ _).cell]; simpa using hj) | simpa using hj
        case c2 => intro u hu; simp [svCells] at hu; rcases hu with rfl | rfl | rfl | rfl | rfl <;> rfl
        case c3 => unfold maxLen; omega
        case c4 => omega
        case c5 => simp; omega
        · intro v' w' hown' hgrow _
          have hb' : Below w.heap.size w w' := (hb.alloc hbz _).grown hgrow (by simp; omega) (fun g hg => ((hown.lt) g hg).1)
          rw [← HT.out] at hown'
          clear hown hgrow hb c0 c1 c2 c3 c4
          go_wp2
          go_roundw
          case rel => first | exact ⟨k + 1, n + 1, by omega, by omega, by go_num, HN, hown', hb'⟩ | ((repeat apply Exists.intro); exact ⟨⟨k + 1, n + 1, by omega, by omega, by go_num, HN, hown', hb'⟩, rfl⟩)
          case measure => simp [intOf]; omega
      · rw [if_pos h5] at hnx
        obtain ⟨a1, a2, a3, a4⟩ := a
        dsimp only at h5 g0 g1 g2 g3
        subst h5
        have hRW := hid hrwA
        have hRows := hid hrows
        obtain ⟨A5, c5, rfl⟩ := hrwA.form
        rw [hnx, List.length_append, hn.out] at hnle
        have HT := hid (show (flatM (ms.take (k + 1))).flatMap svCells = (flatM (ms.take k) ++ rows.flatten).flatMap svCells by rw [hnx])
        have HN := hid (show (flatM (ms.take (k + 1))).length = n + rows.flatten.length by rw [hnx, List.length_append, hn.out])
        have HFL := hid (flatten_le rows)
        obtain ⟨F, hF⟩ : ∃ F, rows.flatten.length = F := ⟨_, rfl⟩
        have HFF := hid hF
        rw [hF] at hnle HFL
        rw [hF] at HN
        clear hnx hrwA hrows hF
        generalize flatM (ms.take k) = X at *
        obtain ⟨V, hV⟩ : ∃ V, V = wr := ⟨_, rfl⟩
        subst hV
        have c0 := (hb.cell (p := ⟨b, o + k * 5, none⟩) hbB).trans g0
        have c4 := (hb.cell (p := ⟨b, o + k * 5 + 4, none⟩) hbB).trans g4
        have hblt : b < V.heap.size := by omega
        go_wp2_with fail
        go_loopw [3, 5] (fun u i wr => ∃ (j n2 : Nat), j ≤ rows.length ∧ n2 ≤ F ∧ i = .int .i64 j ∧ Hid ((rows.take j).flatten.length = n2) ∧ wr.ownsRow w.heap.size 34 5 u (n + n2) ((X ++ (rows.take j).flatten).flatMap svCells) ∧ Below w.heap.size w wr) (fun _ i _ => rows.length - (intOf i).toNat)
        case atStart => exact ⟨0, 0, Nat.zero_le _, by omega, rfl, hid rfl, by simpa using hown, hb⟩
        case round =>
          clear hown c0 c4 hblt hb hbz
          obtain ⟨j, n2, hj, hn2, rfl, hnj, hown, hb⟩ := hrel
          have hbz := hb.size
          have c0 := (hb.cell (p := ⟨b, o + k * 5, none⟩) hbB).trans g0
          have c4 := (hb.cell (p := ⟨b, o + k * 5 + 4, none⟩) hbB).trans g4
          have hblt : b < wr.heap.size := by omega
          by_cases hlt1 : j < rows.length
          · obtain ⟨r, hr⟩ : ∃ r, rows[j]? = some r := ⟨_, List.getElem?_eq_getElem hlt1⟩
            obtain ⟨b5, o5, c5', hh, hs5, hb5B, hcell5, hrow⟩ := hRW.out.row hr
            have hrow0 := hrow
            obtain ⟨A6, c6, rfl, _, _⟩ := hrow0
            injection hs5 with e5 _ _
            subst e5
            have hrk := hRows.out r (List.mem_of_getElem? hr)
            have cr := (hb.cell (p := ⟨b5, o5 + j, none⟩) hb5B).trans hcell5
            have hb5lt : b5 < wr.heap.size := by omega
            have hS1 : Hid (Sl wr wr.heap.size 5 (.slice A6 r.length c6) r.length (r.flatMap svCells)) := hid ((Sl.keep (SlP.old hrow) hb).more hbz)
            have HRk := hid hrk.2.2
            have hr0 : 0 < r.length := List.length_pos_iff.2 hrk.1
            have hr1 := hrk.2.1
            have hfl := HFL.out (j + 1)
            have hfe := flat_take2 ([] : List SV) rows j r hr
            simp only [List.nil_append] at hfe
            rw [hfe, List.length_append, hnj.out] at hfl
            have HT2 := hid (show (X ++ (rows.take (j + 1)).flatten).flatMap svCells = (X ++ (rows.take j).flatten).flatMap svCells ++ r.flatMap svCells by rw [flat_take2 X rows j r hr, List.flatMap_append])
            have HN2 := hid (show (rows.take (j + 1)).flatten.length = n2 + r.length by rw [hfe, List.length_append, hnj.out])
            clear hrow hcell5 hr hrk hfe
            generalize (X ++ (rows.take j).flatten).flatMap svCells = Y at *
            go_wp2_with fail
            refine (Flat_flat r _ wr hS1.out HRk.out hr1).mono ?_
            rintro e w2 ⟨v2, rfl, hS2, hb2, _⟩
            have hown2 := own_keep hown hb2
            have hb3 := Below.lift hb hbz hb2
            clear hown hb hb2 hS1 c0 c4 cr
            obtain ⟨A2, c2, rfl, hl2, hc2⟩ := hS2
            obtain ⟨b2, o2, rfl, hb2B, hcell2⟩ := hc2 hr0
            clear hc2
            have Hc := hid hcell2
            have Hl := hid hl2
            clear hcell2 hl2
            go_wp2_with (at_builtin; refine wpList_append_own _ rfl _ _ 26 rfl w.heap.size 34 i0 _ 5 64 Tryz.underlying26 hi hz0 hz1 hz2 rfl (by decide) _ _ _ rfl hown2 ⟨b2, o2, none⟩ r.length c2 (r.flatMap svCells) rfl Hl.out ?c1 ?c2 ?c3 ?c4 ?c5 ?_)
            case c1 => intro j u hj; rw [add_mid]; exact Hc.out j u hj
            case c2 =>
              intro u hu
              obtain ⟨a, _, hu⟩ := List.mem_flatMap.1 hu
              simp [svCells] at hu; rcases hu with rfl | rfl | rfl | rfl | rfl <;> rfl
            case c3 => unfold maxLen; omega
            case c4 => omega
            case c5 => exact hb3.size
            · intro v' w' hown' hgrow _
              have hb' : Below w.heap.size w w' := hb3.grown hgrow hb3.size (fun g hg => ((hown2.lt) g hg).1)
              rw [← HT2.out, Nat.add_assoc] at hown'
              clear hown2 hgrow hb3 Hc Hl hb2B
              go_wp2
              go_roundw
              case rel => first | exact ⟨j + 1, n2 + r.length, by omega, by omega, by go_num, HN2, hown', hb'⟩ | ((repeat apply Exists.intro); exact ⟨⟨j + 1, n2 + r.length, by omega, by omega, by go_num, HN2, hown', hb'⟩, rfl⟩)
              case measure => simp [intOf]; omega
          · have hjl : j = rows.length := by omega
            subst hjl
            rw [List.take_length] at hown
            have hn2F : n2 = F := by rw [← hnj.out, List.take_length]; exact HFF.out
            subst hn2F
            rw [← HT.out] at hown
            go_wp2_with fail
            go_roundw
            case rel => exact ⟨k + 1, n + n2, by omega, by omega, by go_num, HN, hown, hb⟩
            case measure => simp [intOf]; omega
    · have hkl : ms.take k = ms := List.take_of_length_le (by have := HPL.out; omega)
      rw [hkl] at hown hn
      have hnT2 : n = T := by rw [← hn.out]; exact HTT.out
      have hS := hid (SlP.of_own hown)
      rw [← hn.out] at hS
      clear hown
      go_wp2_with fail
      go_ret
      exact ⟨_, rfl, hS.out, hb⟩
/-- Flat on values that may have rows -/
theorem Flat_mat (ms : List SM) (v : Value) (w : World) (h : SlM w (fun b => b < w.heap.size) 5 smCells 5 svCells v ms) (hok : ∀ m ∈ ms, fmOk m) (hlen : ms.length ≤ 1000) (hrl : ∀ m ∈ ms, m.2.length ≤ 1000) (htot : (flatM ms).length ≤ 100000) :
    Calls Tryz.prog 20 #[v] w fun e w' => ∃ v', e = .returned v' ∧ Sl w' w'.heap.size 5 v' (flatM ms).length ((flatM ms).flatMap svCells) ∧ Below w.heap.size w w' :=
  (Flat_matP ms v w h hok hlen hrl htot).mono fun _ _ ⟨v', he, hs, hb⟩ => ⟨v', he, SlP.old (hs.keep fun _ h => ⟨rfl, h.2⟩), hb⟩
end Go.Proofs.YtdanlcciefbboaaGreat
namespace Go.Proofs.YtdanlcciefbboaaGreat
open Go.RowKit
attribute [local go_sem] run_store_float

theorem SlM.below {α β : Type} {w w' : World} {B B' sz szb : Nat} {f : (α × List (List β)) × Value → List Value} {fb : β → List Value} {v : Value} {ms : List (α × List (List β))} (h : SlM w (fun b => b < B) sz f szb fb v ms) (hb : Below B w w') (hB : B ≤ B') : SlM w' (fun b => b < B') sz f szb fb v ms :=
  h.keep fun b hlt => ⟨hb.block b hlt, by omega⟩

set_option maxHeartbeats 2000000 in
/-- Flat on one matrix of one row of flat values -/
theorem Flat_table2 (ms : List SM) (l : List SV) (hl : flatM ms = l) (b o c rb ro rc : Nat) (A : Option Addr) (c' : Nat) (w : World)
    (hb0 : b < w.heap.size) (g0 : w.cell? ⟨b, o, none⟩ = some (.int .i64 5)) (g4 : w.cell? ⟨b, o + 4, none⟩ = some (.slice (some ⟨rb, ro, none⟩) 1 rc))
    (hrb : rb < w.heap.size) (gr : w.cell? ⟨rb, ro, none⟩ = some (.slice A ms.length c'))
    (h : SlM w (fun b => b < w.heap.size) 5 smCells 5 svCells (.slice A ms.length c') ms) (hok : ∀ m ∈ ms, fmOk m) (hml : ms.length ≤ 1000) (hrl : ∀ m ∈ ms, m.2.length ≤ 1000) (hlen : l.length ≤ 100000) (hpos : 0 < l.length) :
    Calls Tryz.prog 20 #[.slice (some ⟨b, o, none⟩) 1 c] w fun e w' => ∃ v', e = .returned v' ∧ Sl w' w'.heap.size 5 v' l.length (l.flatMap svCells) ∧ Below w.heap.size w w' := by
  have HS := hid h
  have HF := hid (fun wx (hS : SlM wx (fun b => b < wx.heap.size) 5 smCells 5 svCells (.slice A ms.length c') ms) => Flat_mat ms _ wx hS hok hml hrl (by rw [hl]; exact hlen))
  rw [hl] at HF
  clear h hok hml hrl hl
  obtain ⟨i0, hi, hz0, hz1, hz2⟩ := info_parts infos_sv
  go_enter Tryz.func20, Tryz.ntmps20
  go_wp2_with fail
  go_loopw [3, 4, 5] (fun u i _j wr => ∃ (k : Nat), k ≤ 1 ∧ i = .int .i64 k ∧ wr.ownsRow w.heap.size 34 5 u (k * l.length) (upTo k (l.flatMap svCells)) ∧ Below w.heap.size w wr) (fun _ i _ _ => 1 - (intOf i).toNat)
  case atStart => exact ⟨0, by omega, rfl, by simpa [upTo] using World.ownsRow_nil _ _ _ _, Below.refl _ _⟩
  case round =>
    obtain ⟨k, hk, rfl, hown, hb⟩ := hrel
    have c0 := (hb.cell (p := ⟨b, o, none⟩) hb0).trans g0
    have c4 := (hb.cell (p := ⟨b, o + 4, none⟩) hb0).trans g4
    have cr := (hb.cell (p := ⟨rb, ro, none⟩) hrb).trans gr
    rcases Nat.lt_or_ge k 1 with hlt | hge
    · obtain rfl : k = 0 := by omega
      clear hk hlt
      have hown0 : wr.ownsRow w.heap.size 34 5 u3 0 [] := by simpa [upTo] using hown
      clear hown
      obtain ⟨wo, rfl⟩ : ∃ wo : World, wo = wr := ⟨_, rfl⟩
      go_wp2_with fail
      go_loopw [3, 5] (fun u j wr => ∃ (m : Nat), m ≤ 1 ∧ j = .int .i64 m ∧ wr.ownsRow w.heap.size 34 5 u (m * l.length) (upTo m (l.flatMap svCells)) ∧ Below w.heap.size w wr) (fun _ j _ => 1 - (intOf j).toNat)
      case atStart => exact ⟨0, by omega, rfl, by simpa [upTo] using hown0, hb⟩
      case round =>
        clear c0 c4 cr hown0
        obtain ⟨m, hm, rfl, hown, hb1⟩ := hrel
        have c0 := (hb1.cell (p := ⟨b, o, none⟩) hb0).trans g0
        have c4 := (hb1.cell (p := ⟨b, o + 4, none⟩) hb0).trans g4
        have cr := (hb1.cell (p := ⟨rb, ro, none⟩) hrb).trans gr
        rcases Nat.lt_or_ge m 1 with hlt | hge
        · obtain rfl : m = 0 := by omega
          clear hm hlt
          have hown0 : wr.ownsRow w.heap.size 34 5 u3 0 [] := by simpa [upTo] using hown
          clear hown
          go_wp2_with fail
          have hS1 := HS.out.below hb1 hb1.size
          refine (HF.out wr hS1).mono ?_
          rintro e w2 ⟨v2, rfl, hS2, hb2⟩
          have hown2 := own_keep hown0 hb2
          have hb3 := Below.lift hb1 hb1.size hb2
          clear hown0 hb1 hb2 hS1 c0 c4 cr
          obtain ⟨A2, c2, rfl, hl2, hc2⟩ := hS2
          obtain ⟨b2, o2, rfl, hb2B, hcell2⟩ := hc2 hpos
          clear hc2
          have Hc := hid hcell2
          have Hl := hid hl2
          clear hcell2 hl2
          go_wp2_with (at_builtin; refine wpList_append_own _ rfl _ _ 26 rfl w.heap.size 34 i0 _ 5 64 Tryz.underlying26 hi hz0 hz1 hz2 rfl (by decide) _ _ _ rfl hown2 ⟨b2, o2, none⟩ l.length c2 (l.flatMap svCells) rfl Hl.out ?c1 ?c2 ?c3 ?c4 ?c5 ?_)
          case c1 => intro j u hj; rw [add_mid]; exact Hc.out j u hj
          case c2 =>
            intro u hu
            obtain ⟨a, _, hu⟩ := List.mem_flatMap.1 hu
            simp [svCells] at hu; rcases hu with rfl | rfl | rfl | rfl | rfl <;> rfl
          case c3 => unfold maxLen; omega
          case c4 => omega
          case c5 => exact hb3.size
          · intro v' w' hown' hgrow _
            have hb' : Below w.heap.size w w' := hb3.grown hgrow hb3.size (fun g hg => ((hown2.lt) g hg).1)
            clear hown2 hgrow hb3 Hc Hl hb2B
            go_wp2
            go_roundw
            case rel => first | exact ⟨1, by omega, rfl, by simpa [upTo] using hown', hb'⟩ | ((repeat apply Exists.intro); exact ⟨⟨1, by omega, rfl, by simpa [upTo] using hown', hb'⟩, rfl⟩)
            case measure => simp [intOf]
        · obtain rfl : m = 1 := by omega
          clear hm hge
          have hown1 : wr.ownsRow w.heap.size 34 5 u3 l.length (l.flatMap svCells) := by simpa [upTo] using hown
          clear hown
          go_wp2_with fail
          go_roundw
          case rel => exact ⟨1, by omega, rfl, by simpa [upTo] using hown1, hb1⟩
          case measure => simp [intOf]
    · obtain rfl : k = 1 := by omega
      clear hk hge
      have hown1 : wr.ownsRow w.heap.size 34 5 u3 l.length (l.flatMap svCells) := by simpa [upTo] using hown
      clear hown
      go_wp2_with fail
      go_ret
      exact ⟨_, rfl, Sl.of_own hown1, hb⟩

set_option maxHeartbeats 2000000 in
/-- doubtful of a matrix of one row of flat values -/
theorem doubtful_table2 (ms : List SM) (l : List SV) (hl : flatM ms = l) (rb ro rc : Nat) (A : Option Addr) (c' : Nat) (w : World)
    (hrb : rb < w.heap.size) (gr : w.cell? ⟨rb, ro, none⟩ = some (.slice A ms.length c'))
    (h : SlM w (fun b => b < w.heap.size) 5 smCells 5 svCells (.slice A ms.length c') ms) (hok : ∀ m ∈ ms, fmOk m) (hml : ms.length ≤ 1000) (hrl : ∀ m ∈ ms, m.2.length ≤ 1000) (hlen : l.length ≤ 100000) (hpos : 0 < l.length) :
    Calls Tryz.prog 10 #[.agg #[.int .i64 5, .int .i64 0, .int .i64 0, .string es, .slice (some ⟨rb, ro, none⟩) 1 rc]] w fun e w' => e = .returned (.bool (l.any unsure)) ∧ Below w.heap.size w w' := by
  have HS := hid h
  have HF := hid (fun b o wx h1 h2 h3 h4 h5 h6 => Flat_table2 ms l hl b o 1 rb ro rc A c' wx h1 h2 h3 h4 h5 h6 hok hml hrl hlen hpos)
  clear h hok hml hrl hl
  go_enter Tryz.func10, Tryz.ntmps10
  go_wp2_with fail
  have hbl : Below w.heap.size w ((w.alloc (.cells #[.int .i64 5, .int .i64 0, .int .i64 0, .string es, .slice (some ⟨rb, ro, none⟩) 1 rc] 34)).alloc (.cells #[.int .i64 5, .int .i64 0, .int .i64 0, .string es, .slice (some ⟨rb, ro, none⟩) 1 rc] 34)) := ((Below.refl _ _).alloc (Nat.le_refl _) _).alloc (by simp) _
  have hB := Bk.new (w.alloc (.cells #[.int .i64 5, .int .i64 0, .int .i64 0, .string es, .slice (some ⟨rb, ro, none⟩) 1 rc] 34)) 34 #[.int .i64 5, .int .i64 0, .int .i64 0, .string es, .slice (some ⟨rb, ro, none⟩) 1 rc]
  rw [show (w.alloc (.cells #[.int .i64 5, .int .i64 0, .int .i64 0, .string es, .slice (some ⟨rb, ro, none⟩) 1 rc] 34)).heap.size = w.heap.size + 1 by simp] at hB
  obtain ⟨p0, _, _, _, p4, _⟩ := hB.cells5
  have P0 := hid p0
  have P4 := hid p4
  clear p0 p4 hB
  refine (HF.out (w.heap.size + 1) 0 _ (by simp) P0.out P4.out (by simp; omega) ((hbl.cell (p := ⟨rb, ro, none⟩) hrb).trans gr) (HS.out.below hbl (by simp; omega))).mono ?_
  rintro e wz ⟨v2, rfl, hS2, hb2⟩
  have hbz : Below w.heap.size w wz := Below.lift hbl (by simp; omega) hb2
  clear hb2 hbl P0 P4 HS HF gr hrb
  obtain ⟨A2, c2, rfl, hl2, hc2⟩ := hS2
  have hc := hid hc2
  clear hc2 hl2
  go_wp2_with fail
  go_loop [4] (fun i => ∃ (k : Nat), k ≤ l.length ∧ i = .int .i64 k ∧ (l.take k).any unsure = false) (fun i => l.length - (intOf i).toNat)
  case atStart => exact ⟨0, Nat.zero_le _, rfl, rfl⟩
  case round =>
    obtain ⟨k, hk, rfl, hall⟩ := hrel
    have Hall := hid hall
    clear hall
    by_cases hlt : k < l.length
    · obtain ⟨b', o', rfl, hbB, hcell⟩ := hc.out (by omega)
      obtain ⟨a', ha⟩ : ∃ a', l[k]? = some a' := ⟨l[k], List.getElem?_eq_getElem hlt⟩
      have f := fun j (hj : j < 5) => flat_at svCells 5 svCells_len l k a' j ha hj
      have q0 : wz.cell? ⟨b', o' + k * 5, none⟩ = some (.int .i64 a'.1) := by have := hcell (k * 5 + 0) _ ((f 0 (by omega)).trans rfl); simpa using this
      have hnext := hid (any_take_succ ha)
      have hstop := hid (fun h => any_hit ha h)
      clear f hcell hc ha
      cases hu : unsure a'
      · have hx : (a'.1 == 6) = false := hu
        have hs : Hid ((l.take (k + 1)).any unsure = false) := by show _ = _; rw [hnext.out, Hall.out, hu]; rfl
        clear hu hnext hstop
        go_wp2_with fail
        go_round
        case rel => exact ⟨k + 1, by omega, by go_num, hs.out⟩
        case measure => simp [intOf]; omega
      · have hx : (a'.1 == 6) = true := hu
        have hs := hid (hstop.out hu)
        clear hu hnext hstop
        go_wp2_with fail
        go_ret
        exact ⟨congrArg (fun b => Ending.returned (Value.bool b)) hs.out.symm, hbz⟩
    · have hkl : k = l.length := by omega
      have hall : Hid (l.any unsure = false) := by show _ = _; rw [← Hall.out, hkl, List.take_length]
      clear hkl hc
      go_wp2_with fail
      go_ret
      exact ⟨congrArg (fun b => Ending.returned (Value.bool b)) hall.out.symm, hbz⟩

end Go.Proofs.YtdanlcciefbboaaGreat
