import Derived.Test.YtdanlcciefbboaaGreatOf
import Derived.Test.YtdanlcciefbboaaGreatMx
import Derived.Deep.AppendLies
namespace Go.Proofs.YtdanlcciefbboaaGreat
open Go.RowKit
attribute [local go_sem] run_store_float

theorem infos_it : (Tryz.prog.info? 30).map (fun i => (i.zero, i.size, i.bytes)) = some (some (.agg #[.int .i64 0, .int .i64 0, .string ⟨#[]⟩]), 3, 32) := by kernel_rfl
theorem infos_sw : (Tryz.prog.info? 34).map (fun i => (i.zero, i.size, i.bytes)) = some (some (.agg #[.int .i64 0, .int .i64 0, .int .i64 0, .string ⟨#[]⟩, .slice none 0 0]), 5, 64) := by kernel_rfl
theorem infos_sws : (Tryz.prog.info? 26).map (fun i => (i.zero, i.size, i.bytes)) = some (some (.slice none 0 0), 1, 24) := by kernel_rfl
theorem infos_int : (Tryz.prog.info? 3).map (fun i => (i.zero, i.size, i.bytes)) = some (some (.int .i64 0), 1, 8) := by kernel_rfl

/-- part: a number from 0 to n - 1 -/
theorem part_any (k n : Int) (h0 : 0 < n) (h1 : n ≤ 1000000000) (w : World) :
    Calls Tryz.prog 26 #[.int .i64 k, .int .i64 n] w fun e w' => e = .returned (.int .i64 (k % n)) ∧ w = w' := by
  obtain ⟨r, hr⟩ : ∃ r, Int.tmod k n = r := ⟨_, rfl⟩
  have hd : Int.tmod k n = k % n - ((if 0 ≤ k ∨ n ∣ k then 0 else n.natAbs : Nat) : Int) := Int.tmod_eq_emod
  have hm := Int.emod_nonneg k (show n ≠ 0 by omega)
  have hm2 := Int.emod_lt_of_pos k h0
  have hcase : (0 ≤ r ∧ k % n = r) ∨ (r < 0 ∧ k % n = r + n ∧ -n < r) := by
    rw [hr] at hd
    split at hd
    · left; omega
    · rename_i hc
      have : (n.natAbs : Int) = n := by omega
      rw [this] at hd
      by_cases hz : k % n = 0
      · exact absurd (Or.inr (Int.dvd_of_emod_eq_zero hz)) hc
      · right; omega
  have hn0 : (n == 0) = false := by simp; omega
  have hn00 : n ≠ 0 := by omega
  rcases hcase with ⟨hr0, he⟩ | ⟨hr0, he, hrn⟩
  · rw [he]
    clear hd hm hm2 he
    go_enter Tryz.func26, Tryz.ntmps26
    go_wp2_with fail
    go_ret
    exact ⟨rfl, rfl⟩
  · rw [he]
    clear hd hm hm2 he
    go_enter Tryz.func26, Tryz.ntmps26
    go_wp2_with fail
    go_ret
    exact ⟨rfl, rfl⟩

/-- a cell of a law: kind, number, text -/
abbrev IT := Int × Int × ByteArray
def itCells (a : IT) : List Value := [.int .i64 a.1, .int .i64 a.2.1, .string a.2.2]
theorem itCells_len (a : IT) : (itCells a).length = 3 := rfl
def itV (a : IT) : Value := .agg #[.int .i64 a.1, .int .i64 a.2.1, .string a.2.2]

/-- row i of a table -/
def tabRow (its : List IT) (val : IT → SV) (c i : Nat) : List SV := (List.range c).map fun k => match its[i * c + k]? with | some a => val a | none => (0, 0, 0, es)
/-- how many rows a table has -/
def tabN (n c : Nat) : Nat := if n / c = 0 then 1 else n / c
def tab (its : List IT) (val : IT → SV) (c : Nat) : List (List SV) := (List.range (tabN its.length c)).map (tabRow its val c)
theorem tabRow_len (its : List IT) (val : IT → SV) (c i : Nat) : (tabRow its val c i).length = c := by simp [tabRow]
theorem tab_len (its : List IT) (val : IT → SV) (c : Nat) : (tab its val c).length = tabN its.length c := by simp [tab]
theorem tabRow_at (its : List IT) (val : IT → SV) (c i k : Nat) (hk : k < c) : (tabRow its val c i)[k]? = some (match its[i * c + k]? with | some a => val a | none => (0, 0, 0, es)) := by
  rw [tabRow, List.getElem?_map, List.getElem?_range hk]; rfl
theorem tab_at (its : List IT) (val : IT → SV) (c i : Nat) (hi : i < tabN its.length c) : (tab its val c)[i]? = some (tabRow its val c i) := by
  rw [tab, List.getElem?_map, List.getElem?_range hi]; rfl
theorem tab_bound (n c i : Nat) (hn : n ≤ 120) (hi : i < tabN n c) : i * c ≤ 120 ∧ tabN n c ≤ 120 := by
  unfold tabN at *
  split at hi
  · rename_i h
    have : i = 0 := by omega
    subst this
    rw [if_pos h]; simp
  · rename_i h
    have h1 : n / c * c ≤ n := Nat.div_mul_le_self n c
    have h2 : i * c ≤ n / c * c := Nat.mul_le_mul_right c (by omega)
    have h3 : n / c ≤ n := Nat.div_le_self n c
    rw [if_neg h]; omega

theorem TableV_any (A : Option Addr) (n c : Nat) (w : World) : Calls Tryz.prog 11 #[.slice A n c] w fun e w' => e = .returned (.agg #[.int .i64 5, .int .i64 0, .int .i64 0, .string es, .slice A n c]) ∧ Below w.heap.size w w' := by
  go_enter Tryz.func11, Tryz.ntmps11
  go_wp2
  exact end_cell Tryz.results11 rfl (Bk.new w _ _) Tryz.underlying34 rfl info_sv rfl ⟨rfl, (Below.refl _ _).alloc (Nat.le_refl _) _⟩

set_option maxRecDepth 100000 in
set_option maxHeartbeats 2000000 in
theorem table_any (its : List IT) (val : IT → SV) (hval : ∀ a ∈ its, ∀ W, Calls Tryz.prog 18 #[itV a] W fun e w' => e = .returned (svV (val a)) ∧ Below W.heap.size W w') (cols : Int) (c : Nat) (hc : 1 + cols % 6 = (c : Int)) (v : Value) (w : World)
    (h : Sl w w.heap.size 3 v its.length (its.flatMap itCells)) (hlen : its.length ≤ 120) :
    Calls Tryz.prog 17 #[v, .int .i64 cols] w fun e w' => ∃ s, e = .returned (.agg #[.int .i64 5, .int .i64 0, .int .i64 0, .string es, s]) ∧ Rwn w w' 5 svCells s (tab its val c) ∧ Below w.heap.size w w' := by
  obtain ⟨A, cap, rfl, hl, hcl⟩ := h
  obtain ⟨i0, hi, hz0, hz1, hz2⟩ := info_parts infos_sw
  obtain ⟨i1, hj, hy0, hy1, hy2⟩ := info_parts infos_sws
  have HV := hid hval
  have HC := hid hcl
  have hc1 : 1 ≤ c ∧ c ≤ 6 := by omega
  clear hval hcl hl
  obtain ⟨n, hn⟩ : ∃ n, its.length = n := ⟨_, rfl⟩
  have HN := hid hn
  rw [hn]
  rw [hn] at hlen
  clear hn
  obtain ⟨q, hq⟩ : ∃ q, n / c = q := ⟨_, rfl⟩
  have hquo : Int.tdiv (n : Int) (c : Int) = (q : Int) := by rw [← hq]; rfl
  obtain ⟨R, hR⟩ : ∃ R, tabN n c = R := ⟨_, rfl⟩
  have hcase : ((q : Int) == 0) = true ∧ R = 1 ∨ ((q : Int) == 0) = false ∧ q = R := by
    unfold tabN at hR
    rw [hq] at hR
    by_cases h : q = 0
    · left; subst h; exact ⟨rfl, by simpa using hR.symm⟩
    · right; rw [if_neg h] at hR; exact ⟨by simpa using h, hR⟩
  have hc0 : ((c : Int) == 0) = false := by simp; omega
  have hR120 : R ≤ 120 := by
    rcases Nat.eq_zero_or_pos R with h | h
    · omega
    · rw [← hR]; exact (tab_bound n c 0 hlen (by omega)).2
  have HB := hid (fun i (h : i < R) => (tab_bound n c i hlen (by omega)).1)
  have hq120 : q ≤ 120 := by rw [← hq]; exact Nat.le_trans (Nat.div_le_self n c) hlen
  have hwq : wrap64 (q : Int) = (q : Int) := by unfold wrap64; omega
  have HR := hid hR
  have HP := hid hc
  clear hR hq hc
  go_enter Tryz.func17, Tryz.ntmps17
  go_wp2_with fail
  refine (part_any cols 6 (by omega) (by omega) _).mono ?_
  rintro e w1 ⟨rfl, rfl⟩
  have hcol := HP.out
  rcases hcase with ⟨h0, rfl⟩ | ⟨h0, rfl⟩
  · go_wp2_with fail
    have b0 : Bk (w.alloc (.cells #[.int .i64 0, .int .i64 0, .int .i64 0, .string ⟨#[]⟩, .slice none 0 0] 34)) w.heap.size 34 #[.int .i64 0, .int .i64 0, .int .i64 0, .string ⟨#[]⟩, .slice none 0 0] := Bk.new _ _ _
    have hz : (w.alloc (.cells #[.int .i64 0, .int .i64 0, .int .i64 0, .string ⟨#[]⟩, .slice none 0 0] 34)).heap.size = w.heap.size + 1 := by simp
    have hw : Below w.heap.size w (w.alloc (.cells #[.int .i64 0, .int .i64 0, .int .i64 0, .string ⟨#[]⟩, .slice none 0 0] 34)) := (Below.refl _ _).alloc (Nat.le_refl _) _
    generalize (w.alloc (.cells #[.int .i64 0, .int .i64 0, .int .i64 0, .string ⟨#[]⟩, .slice none 0 0] 34)) = W at *
    go_loopw [6, 7] (fun u i wr => ∃ (k : Nat) (us : List Value), k ≤ 1 ∧ i = .int .i64 k ∧ Hid (k = 0 → u = .slice none 0 0) ∧ wr.ownsRow (w.heap.size + 1) 26 1 u k us ∧ Hid (OR wr (w.heap.size + 1) 34 5 svCells us ((tab its val c).take k)) ∧ Below (w.heap.size + 1) W wr) (fun _ i _ => 1 - (intOf i).toNat)
    case atStart => exact ⟨0, [], Nat.zero_le _, rfl, hid (fun _ => rfl), World.ownsRow_nil _ _ _ _, hid (OR.nil _ _ _ _ _), Below.refl _ _⟩
    case round =>
      obtain ⟨j, us, hj', rfl, hu0, hown, hOR, hb⟩ := hrel
      have hbz := hb.size
      obtain ⟨V, hV⟩ : ∃ V, V = wr := ⟨_, rfl⟩
      subst hV
      by_cases hlt : j < 1
      · obtain ⟨p, hp⟩ : ∃ p, j * c = p := ⟨_, rfl⟩
        have hpm : (j : Int) * (c : Int) = (p : Int) := by rw [← hp]; simp
        have hp120 : p ≤ 120 := by rw [← hp]; exact HB.out j hlt
        have HPp := hid hp
        have HTr := hid (show (tab its val c).take (j + 1) = (tab its val c).take j ++ [tabRow its val c j] by rw [List.take_add_one, tab_at its val c j (by rw [HN.out, HR.out]; exact hlt)]; rfl)
        have h0r : Below w.heap.size w V := hw.trans (hb.mono (by omega))
        have hdec : decide ((j : Int) < 1) = true := decide_eq_true (by omega)
        clear hp
        go_wp2_with fail
        go_loopw [8, 9] (fun u i wr => ∃ (k : Nat), k ≤ c ∧ i = .int .i64 k ∧ wr.ownsRow V.heap.size 34 5 u k (((tabRow its val c j).take k).flatMap svCells) ∧ Below V.heap.size V wr) (fun _ i _ => c - (intOf i).toNat)
        case atStart => exact ⟨0, Nat.zero_le _, rfl, World.ownsRow_nil _ _ _ _, Below.refl _ _⟩
        case round =>
          obtain ⟨k, hk', rfl, hown1, hb1⟩ := hrel
          have hb1z := hb1.size
          by_cases hlt1 : k < c
          · obtain ⟨x, hx⟩ : ∃ x, p + k = x := ⟨_, rfl⟩
            have hxm : (p : Int) + (k : Int) = (x : Int) := by omega
            have hx126 : x ≤ 126 := by omega
            have hat := tabRow_at its val c j k hlt1
            rw [HPp.out, hx] at hat
            clear hx
            by_cases hxn : x < n
            · obtain ⟨b, o, rfl, hbB, hcell⟩ := HC.out (by rw [HN.out]; omega)
              obtain ⟨a, ha⟩ : ∃ a, its[x]? = some a := ⟨_, List.getElem?_eq_getElem (by rw [HN.out]; exact hxn)⟩
              rw [ha] at hat
              simp only at hat
              have h1r : Below w.heap.size w wr := h0r.trans (hb1.mono (by omega))
              have f := fun i (hi : i < 3) => flat_at itCells 3 itCells_len its x a i ha hi
              have g0 : wr.cell? ⟨b, o + x * 3, none⟩ = some (.int .i64 a.1) := (h1r.cell (p := ⟨b, o + x * 3, none⟩) hbB).trans (by have := hcell (x * 3 + 0) _ ((f 0 (by omega)).trans rfl); simpa using this)
              have g1 : wr.cell? ⟨b, o + x * 3 + 1, none⟩ = some (.int .i64 a.2.1) := (h1r.cell (p := ⟨b, o + x * 3 + 1, none⟩) hbB).trans (hcell (x * 3 + 1) _ ((f 1 (by omega)).trans rfl))
              have g2 : wr.cell? ⟨b, o + x * 3 + 2, none⟩ = some (.string a.2.2) := (h1r.cell (p := ⟨b, o + x * 3 + 2, none⟩) hbB).trans (hcell (x * 3 + 2) _ ((f 2 (by omega)).trans rfl))
              have hblt : b < wr.heap.size := by have := h1r.size; omega
              have HI : Hid (∀ W, Calls Tryz.prog 18 #[.agg #[.int .i64 a.1, .int .i64 a.2.1, .string a.2.2]] W fun e w' => e = .returned (svV (val a)) ∧ Below W.heap.size W w') := hid (HV.out a (List.mem_of_getElem? ha))
              generalize val a = A1 at *
              have HT : Hid (((tabRow its val c j).take (k + 1)).flatMap svCells = ((tabRow its val c j).take k).flatMap svCells ++ svCells A1) := hid (flat_take svCells _ k A1 hat)
              clear f hcell ha hat h1r hbB
              go_wp2_with fail
              refine (HI.out _).mono ?_
              rintro e w2 ⟨rfl, hb2⟩
              have hB2 := (Bk.new wr 34 #[.int .i64 0, .int .i64 0, .int .i64 0, .string ⟨#[]⟩, .slice none 0 0]).below hb2 (by simp)
              have hr2 : Below wr.heap.size wr w2 := Below.lift ((Below.refl wr.heap.size wr).alloc (Nat.le_refl _) _) (by simp) hb2
              have hz2' : wr.heap.size < w2.heap.size := by have := hb2.size; simp at this; omega
              have hown2 := own_keep hown1 hr2
              have hb3 : Below V.heap.size V w2 := Below.lift hb1 hb1.size hr2
              obtain ⟨d0, d1, d2, d3, d4, df⟩ := hB2.cells5
              have hown3 : (((((w2.setCell ⟨wr.heap.size, 0, none⟩ (.int .i64 A1.1)).setCell ⟨wr.heap.size, 1, none⟩ (.int .i64 A1.2.1)).setCell ⟨wr.heap.size, 2, none⟩ (.int .i64 A1.2.2.1)).setCell ⟨wr.heap.size, 3, none⟩ (.string A1.2.2.2)).setCell ⟨wr.heap.size, 4, none⟩ (.slice none 0 0)).ownsRow V.heap.size 34 5 _ k (((tabRow its val c j).take k).flatMap svCells) := own_far5 hown2 (fun e => by have := (hown1.lt _ e).2; omega) _ _ _ _ _
              have hb4 := Below.set5 hb3 (g := wr.heap.size) (by omega) (.int .i64 A1.1) (.int .i64 A1.2.1) (.int .i64 A1.2.2.1) (.string A1.2.2.2) (.slice none 0 0)
              clear hown1 hb1 hb2 hr2 g0 g1 g2 hB2 hown2 hb3
              unfold svV sv
              go_wp2_with (at_builtin; refine wpList_append_own _ rfl _ _ 26 rfl V.heap.size 34 i0 _ 5 64 Tryz.underlying26 hi hz0 hz1 hz2 rfl (by decide) _ _ _ rfl (hown3.alloc _) ⟨w2.heap.size, 0, none⟩ 1 1 (svCells A1) rfl rfl ?c1 ?c2 ?c3 ?c4 ?c5 ?_)
              case c1 =>
                intro i u hi
                rw [add_mid, Nat.zero_add, (Bk.new_at (by simp [World.setCell])).cell]
                simpa [svCells] using hi
              case c2 => intro u hu; simp [svCells] at hu; rcases hu with rfl | rfl | rfl | rfl | rfl <;> rfl
              case c3 => unfold maxLen; omega
              case c4 => omega
              case c5 => simp [World.setCell]; omega
              · intro v' w' hown' hgrow _
                have hb' : Below V.heap.size V w' := (hb4.alloc hb4.size _).grown hgrow (by simp [World.setCell]; omega) (fun g hg => ((hown3.lt) g hg).1)
                rw [← HT.out] at hown'
                clear hown3 hgrow hb4 d0 d1 d2 d3 d4 df
                go_wp2
                go_roundw
                case rel => first | exact ⟨k + 1, by omega, by go_num, hown', hb'⟩ | ((repeat apply Exists.intro); exact ⟨⟨k + 1, by omega, by go_num, hown', hb'⟩, rfl⟩)
                case measure => simp [intOf]; omega
            · have hnone : its[x]? = none := List.getElem?_eq_none (by rw [HN.out]; omega)
              rw [hnone] at hat
              simp only at hat
              have HT : Hid (((tabRow its val c j).take (k + 1)).flatMap svCells = ((tabRow its val c j).take k).flatMap svCells ++ svCells (0, 0, 0, es)) := hid (flat_take svCells _ k _ hat)
              clear hat hnone
              go_wp2_with (at_builtin; refine wpList_append_own _ rfl _ _ 26 rfl V.heap.size 34 i0 _ 5 64 Tryz.underlying26 hi hz0 hz1 hz2 rfl (by decide) _ _ _ rfl ((hown1.alloc _).alloc _) ⟨wr.heap.size + 1, 0, none⟩ 1 1 (svCells (0, 0, 0, es)) rfl rfl ?c1 ?c2 ?c3 ?c4 ?c5 ?_)
              case c1 =>
                intro i u hi
                rw [add_mid, Nat.zero_add, (Bk.new_at (by simp)).cell]
                simpa [svCells, es] using hi
              case c2 => intro u hu; simp [svCells] at hu; rcases hu with rfl | rfl | rfl <;> rfl
              case c3 => unfold maxLen; omega
              case c4 => omega
              case c5 => simp; omega
              · intro v' w' hown' hgrow _
                have hb' : Below V.heap.size V w' := ((hb1.alloc hb1z _).alloc (by simp; omega) _).grown hgrow (by simp; omega) (fun g hg => ((hown1.lt) g hg).1)
                rw [← HT.out] at hown'
                clear hown1 hgrow hb1
                go_wp2
                go_roundw
                case rel => first | exact ⟨k + 1, by omega, by go_num, hown', hb'⟩ | ((repeat apply Exists.intro); exact ⟨⟨k + 1, by omega, by go_num, hown', hb'⟩, rfl⟩)
                case measure => simp [intOf]; omega
          · have hkl : k = c := by omega
            subst hkl
            have hown3 : wr.ownsRow V.heap.size 34 5 u8 (tabRow its val k j).length ((tabRow its val k j).flatMap svCells) := by
              have := hown1
              rw [List.take_of_length_le (by rw [tabRow_len]; exact Nat.le_refl _)] at this
              rw [tabRow_len]; exact this
            obtain ⟨A2, c2, hv', _, _⟩ := Sl.of_own hown1
            subst hv'
            have hownV := own_keep hown hb1
            have hORV := hOR.out.keep hb1
            clear hown1 hOR
            go_wp2_with (at_builtin; refine wpList_append_lies _ rfl _ _ 32 rfl (w.heap.size + 1) 26 i1 _ 1 24 Tryz.underlying32 hj hy0 hy1 hy2 rfl (by decide) _ _ _ rfl (hownV.alloc _) ⟨wr.heap.size, 0, none⟩ 1 1 [.slice A2 k c2] rfl rfl ?c1 ?c2 (by decide) ?c3 ?c4 ?c5 (wr.heap.size + 1) ?c6 ?_)
            case c1 =>
              intro i u hi
              rw [add_mid, Nat.zero_add, (Bk.new _ _ _).cell]
              simpa using hi
            case c2 => intro u hu; simp at hu; subst hu; rfl
            case c3 => unfold maxLen; omega
            case c4 => omega
            case c5 => simp; omega
            case c6 => simp
            · intro gg cap w4 hown4 hgrow hat hlt4
              have hbn : Below (w.heap.size + 1) W w4 := ((hb.trans (hb1.mono (by omega))).alloc (by omega) _).grown hgrow (by simp; omega) (fun g hg => ((hownV.lt) g hg).1)
              have hnew : w4.ownsRow (w.heap.size + 1) 34 5 (.slice A2 k c2) (tabRow its val k j).length ((tabRow its val k j).flatMap svCells) :=
                ((own_base hown3 (by omega)).alloc _).kept hgrow (own_ne ((own_base hown3 (show w.heap.size + 1 ≤ V.heap.size by omega)).alloc (.cells #[.slice A2 k c2] 26)) (hownV.alloc _) (by decide))
              have hORn := ((hORV.alloc (.cells #[.slice A2 k c2] 26)).grown (hownV.alloc _) (by decide) hgrow).push hnew
              rw [← HTr.out] at hORn
              have HORn := hid hORn
              clear hORn hnew hgrow hat hownV hORV hown3 hown hb hb1 h0r
              go_wp2
              go_roundw
              case rel => first | exact ⟨j + 1, _, by omega, by go_num, hid (fun h => absurd h (by omega)), hown4, HORn, hbn⟩ | ((repeat apply Exists.intro); exact ⟨⟨j + 1, _, by omega, by go_num, hid (fun h => absurd h (by omega)), hown4, HORn, hbn⟩, rfl⟩)
              case measure => simp [intOf]; omega
      · have hkl : j = 1 := by omega
        subst hkl
        have htl : (tab its val c).length = 1 := by rw [tab_len, HN.out, HR.out]
        have HOR := hid (show OR V (w.heap.size + 1) 34 5 svCells us (tab its val c) by have := hOR.out; rwa [List.take_of_length_le (by rw [htl]; exact Nat.le_refl _)] at this)
        have hOwn : V.ownsRow (w.heap.size + 1) 26 1 u6 (tab its val c).length us := by rw [htl]; exact hown
        obtain ⟨A2, c2, hv', _, _⟩ := Sl.of_own hown
        subst hv'
        have hNil : tab its val c = [] → Value.slice A2 1 c2 = .slice none 0 0 := fun h => hu0.out (by rw [← htl, h]; rfl)
        have hRW := hid (RwP.of_own hOwn HOR.out hNil)
        have hR1 := b0.below hb (by omega)
        have hbw : Below w.heap.size w V := hw.trans (hb.mono (by omega))
        clear hOR hown htl hu0
        go_wp2_with fail
        refine (TableV_any _ _ _ _).mono ?_
        rintro e w2 ⟨rfl, hb2⟩
        have hR2 := hR1.below hb2 hR1.lt
        have hb3 := hbw.trans (hb2.mono hbw.size)
        obtain ⟨q0, q1, q2, q3, q4, qf⟩ := hR2.cells5
        have hz2 := hR2.lt
        have hRW2 := hid (RwP.keep (w' := w2) (S' := fun b => w.heap.size + 1 ≤ b ∧ b < w2.heap.size) hRW.out fun b hb => ⟨hb2.block b hb.2, by have := hb2.size; omega⟩)
        clear hb2 hR1 hbw hRW
        go_wp2_with fail
        refine end_cell Tryz.results17 rfl (Bk.set5 hR2 _ _ _ _ _) Tryz.underlying34 rfl info_sv rfl ?_
        exact ⟨_, rfl, RwP.keep hRW2.out fun b hb => ⟨heap_set5 w2 (by omega) _ _ _ _ _, by simp [World.setCell]; omega⟩, Below.set5 hb3 (Nat.le_refl _) _ _ _ _ _⟩
  · go_wp2_with fail
    have b0 : Bk (w.alloc (.cells #[.int .i64 0, .int .i64 0, .int .i64 0, .string ⟨#[]⟩, .slice none 0 0] 34)) w.heap.size 34 #[.int .i64 0, .int .i64 0, .int .i64 0, .string ⟨#[]⟩, .slice none 0 0] := Bk.new _ _ _
    have hz : (w.alloc (.cells #[.int .i64 0, .int .i64 0, .int .i64 0, .string ⟨#[]⟩, .slice none 0 0] 34)).heap.size = w.heap.size + 1 := by simp
    have hw : Below w.heap.size w (w.alloc (.cells #[.int .i64 0, .int .i64 0, .int .i64 0, .string ⟨#[]⟩, .slice none 0 0] 34)) := (Below.refl _ _).alloc (Nat.le_refl _) _
    generalize (w.alloc (.cells #[.int .i64 0, .int .i64 0, .int .i64 0, .string ⟨#[]⟩, .slice none 0 0] 34)) = W at *
    go_loopw [6, 7] (fun u i wr => ∃ (k : Nat) (us : List Value), k ≤ q ∧ i = .int .i64 k ∧ Hid (k = 0 → u = .slice none 0 0) ∧ wr.ownsRow (w.heap.size + 1) 26 1 u k us ∧ Hid (OR wr (w.heap.size + 1) 34 5 svCells us ((tab its val c).take k)) ∧ Below (w.heap.size + 1) W wr) (fun _ i _ => q - (intOf i).toNat)
    case atStart => exact ⟨0, [], Nat.zero_le _, rfl, hid (fun _ => rfl), World.ownsRow_nil _ _ _ _, hid (OR.nil _ _ _ _ _), Below.refl _ _⟩
    case round =>
      obtain ⟨j, us, hj', rfl, hu0, hown, hOR, hb⟩ := hrel
      have hbz := hb.size
      obtain ⟨V, hV⟩ : ∃ V, V = wr := ⟨_, rfl⟩
      subst hV
      by_cases hlt : j < q
      · obtain ⟨p, hp⟩ : ∃ p, j * c = p := ⟨_, rfl⟩
        have hpm : (j : Int) * (c : Int) = (p : Int) := by rw [← hp]; simp
        have hp120 : p ≤ 120 := by rw [← hp]; exact HB.out j hlt
        have HPp := hid hp
        have HTr := hid (show (tab its val c).take (j + 1) = (tab its val c).take j ++ [tabRow its val c j] by rw [List.take_add_one, tab_at its val c j (by rw [HN.out, HR.out]; exact hlt)]; rfl)
        have h0r : Below w.heap.size w V := hw.trans (hb.mono (by omega))
        have hdec : decide ((j : Int) < q) = true := decide_eq_true (by omega)
        clear hp
        go_wp2_with fail
        go_loopw [8, 9] (fun u i wr => ∃ (k : Nat), k ≤ c ∧ i = .int .i64 k ∧ wr.ownsRow V.heap.size 34 5 u k (((tabRow its val c j).take k).flatMap svCells) ∧ Below V.heap.size V wr) (fun _ i _ => c - (intOf i).toNat)
        case atStart => exact ⟨0, Nat.zero_le _, rfl, World.ownsRow_nil _ _ _ _, Below.refl _ _⟩
        case round =>
          obtain ⟨k, hk', rfl, hown1, hb1⟩ := hrel
          have hb1z := hb1.size
          by_cases hlt1 : k < c
          · obtain ⟨x, hx⟩ : ∃ x, p + k = x := ⟨_, rfl⟩
            have hxm : (p : Int) + (k : Int) = (x : Int) := by omega
            have hx126 : x ≤ 126 := by omega
            have hat := tabRow_at its val c j k hlt1
            rw [HPp.out, hx] at hat
            clear hx
            by_cases hxn : x < n
            · obtain ⟨b, o, rfl, hbB, hcell⟩ := HC.out (by rw [HN.out]; omega)
              obtain ⟨a, ha⟩ : ∃ a, its[x]? = some a := ⟨_, List.getElem?_eq_getElem (by rw [HN.out]; exact hxn)⟩
              rw [ha] at hat
              simp only at hat
              have h1r : Below w.heap.size w wr := h0r.trans (hb1.mono (by omega))
              have f := fun i (hi : i < 3) => flat_at itCells 3 itCells_len its x a i ha hi
              have g0 : wr.cell? ⟨b, o + x * 3, none⟩ = some (.int .i64 a.1) := (h1r.cell (p := ⟨b, o + x * 3, none⟩) hbB).trans (by have := hcell (x * 3 + 0) _ ((f 0 (by omega)).trans rfl); simpa using this)
              have g1 : wr.cell? ⟨b, o + x * 3 + 1, none⟩ = some (.int .i64 a.2.1) := (h1r.cell (p := ⟨b, o + x * 3 + 1, none⟩) hbB).trans (hcell (x * 3 + 1) _ ((f 1 (by omega)).trans rfl))
              have g2 : wr.cell? ⟨b, o + x * 3 + 2, none⟩ = some (.string a.2.2) := (h1r.cell (p := ⟨b, o + x * 3 + 2, none⟩) hbB).trans (hcell (x * 3 + 2) _ ((f 2 (by omega)).trans rfl))
              have hblt : b < wr.heap.size := by have := h1r.size; omega
              have HI : Hid (∀ W, Calls Tryz.prog 18 #[.agg #[.int .i64 a.1, .int .i64 a.2.1, .string a.2.2]] W fun e w' => e = .returned (svV (val a)) ∧ Below W.heap.size W w') := hid (HV.out a (List.mem_of_getElem? ha))
              generalize val a = A1 at *
              have HT : Hid (((tabRow its val c j).take (k + 1)).flatMap svCells = ((tabRow its val c j).take k).flatMap svCells ++ svCells A1) := hid (flat_take svCells _ k A1 hat)
              clear f hcell ha hat h1r hbB
              go_wp2_with fail
              refine (HI.out _).mono ?_
              rintro e w2 ⟨rfl, hb2⟩
              have hB2 := (Bk.new wr 34 #[.int .i64 0, .int .i64 0, .int .i64 0, .string ⟨#[]⟩, .slice none 0 0]).below hb2 (by simp)
              have hr2 : Below wr.heap.size wr w2 := Below.lift ((Below.refl wr.heap.size wr).alloc (Nat.le_refl _) _) (by simp) hb2
              have hz2' : wr.heap.size < w2.heap.size := by have := hb2.size; simp at this; omega
              have hown2 := own_keep hown1 hr2
              have hb3 : Below V.heap.size V w2 := Below.lift hb1 hb1.size hr2
              obtain ⟨d0, d1, d2, d3, d4, df⟩ := hB2.cells5
              have hown3 : (((((w2.setCell ⟨wr.heap.size, 0, none⟩ (.int .i64 A1.1)).setCell ⟨wr.heap.size, 1, none⟩ (.int .i64 A1.2.1)).setCell ⟨wr.heap.size, 2, none⟩ (.int .i64 A1.2.2.1)).setCell ⟨wr.heap.size, 3, none⟩ (.string A1.2.2.2)).setCell ⟨wr.heap.size, 4, none⟩ (.slice none 0 0)).ownsRow V.heap.size 34 5 _ k (((tabRow its val c j).take k).flatMap svCells) := own_far5 hown2 (fun e => by have := (hown1.lt _ e).2; omega) _ _ _ _ _
              have hb4 := Below.set5 hb3 (g := wr.heap.size) (by omega) (.int .i64 A1.1) (.int .i64 A1.2.1) (.int .i64 A1.2.2.1) (.string A1.2.2.2) (.slice none 0 0)
              clear hown1 hb1 hb2 hr2 g0 g1 g2 hB2 hown2 hb3
              unfold svV sv
              go_wp2_with (at_builtin; refine wpList_append_own _ rfl _ _ 26 rfl V.heap.size 34 i0 _ 5 64 Tryz.underlying26 hi hz0 hz1 hz2 rfl (by decide) _ _ _ rfl (hown3.alloc _) ⟨w2.heap.size, 0, none⟩ 1 1 (svCells A1) rfl rfl ?c1 ?c2 ?c3 ?c4 ?c5 ?_)
              case c1 =>
                intro i u hi
                rw [add_mid, Nat.zero_add, (Bk.new_at (by simp [World.setCell])).cell]
                simpa [svCells] using hi
              case c2 => intro u hu; simp [svCells] at hu; rcases hu with rfl | rfl | rfl | rfl | rfl <;> rfl
              case c3 => unfold maxLen; omega
              case c4 => omega
              case c5 => simp [World.setCell]; omega
              · intro v' w' hown' hgrow _
                have hb' : Below V.heap.size V w' := (hb4.alloc hb4.size _).grown hgrow (by simp [World.setCell]; omega) (fun g hg => ((hown3.lt) g hg).1)
                rw [← HT.out] at hown'
                clear hown3 hgrow hb4 d0 d1 d2 d3 d4 df
                go_wp2
                go_roundw
                case rel => first | exact ⟨k + 1, by omega, by go_num, hown', hb'⟩ | ((repeat apply Exists.intro); exact ⟨⟨k + 1, by omega, by go_num, hown', hb'⟩, rfl⟩)
                case measure => simp [intOf]; omega
            · have hnone : its[x]? = none := List.getElem?_eq_none (by rw [HN.out]; omega)
              rw [hnone] at hat
              simp only at hat
              have HT : Hid (((tabRow its val c j).take (k + 1)).flatMap svCells = ((tabRow its val c j).take k).flatMap svCells ++ svCells (0, 0, 0, es)) := hid (flat_take svCells _ k _ hat)
              clear hat hnone
              go_wp2_with (at_builtin; refine wpList_append_own _ rfl _ _ 26 rfl V.heap.size 34 i0 _ 5 64 Tryz.underlying26 hi hz0 hz1 hz2 rfl (by decide) _ _ _ rfl ((hown1.alloc _).alloc _) ⟨wr.heap.size + 1, 0, none⟩ 1 1 (svCells (0, 0, 0, es)) rfl rfl ?c1 ?c2 ?c3 ?c4 ?c5 ?_)
              case c1 =>
                intro i u hi
                rw [add_mid, Nat.zero_add, (Bk.new_at (by simp)).cell]
                simpa [svCells, es] using hi
              case c2 => intro u hu; simp [svCells] at hu; rcases hu with rfl | rfl | rfl <;> rfl
              case c3 => unfold maxLen; omega
              case c4 => omega
              case c5 => simp; omega
              · intro v' w' hown' hgrow _
                have hb' : Below V.heap.size V w' := ((hb1.alloc hb1z _).alloc (by simp; omega) _).grown hgrow (by simp; omega) (fun g hg => ((hown1.lt) g hg).1)
                rw [← HT.out] at hown'
                clear hown1 hgrow hb1
                go_wp2
                go_roundw
                case rel => first | exact ⟨k + 1, by omega, by go_num, hown', hb'⟩ | ((repeat apply Exists.intro); exact ⟨⟨k + 1, by omega, by go_num, hown', hb'⟩, rfl⟩)
                case measure => simp [intOf]; omega
          · have hkl : k = c := by omega
            subst hkl
            have hown3 : wr.ownsRow V.heap.size 34 5 u8 (tabRow its val k j).length ((tabRow its val k j).flatMap svCells) := by
              have := hown1
              rw [List.take_of_length_le (by rw [tabRow_len]; exact Nat.le_refl _)] at this
              rw [tabRow_len]; exact this
            obtain ⟨A2, c2, hv', _, _⟩ := Sl.of_own hown1
            subst hv'
            have hownV := own_keep hown hb1
            have hORV := hOR.out.keep hb1
            clear hown1 hOR
            go_wp2_with (at_builtin; refine wpList_append_lies _ rfl _ _ 32 rfl (w.heap.size + 1) 26 i1 _ 1 24 Tryz.underlying32 hj hy0 hy1 hy2 rfl (by decide) _ _ _ rfl (hownV.alloc _) ⟨wr.heap.size, 0, none⟩ 1 1 [.slice A2 k c2] rfl rfl ?c1 ?c2 (by decide) ?c3 ?c4 ?c5 (wr.heap.size + 1) ?c6 ?_)
            case c1 =>
              intro i u hi
              rw [add_mid, Nat.zero_add, (Bk.new _ _ _).cell]
              simpa using hi
            case c2 => intro u hu; simp at hu; subst hu; rfl
            case c3 => unfold maxLen; omega
            case c4 => omega
            case c5 => simp; omega
            case c6 => simp
            · intro gg cap w4 hown4 hgrow hat hlt4
              have hbn : Below (w.heap.size + 1) W w4 := ((hb.trans (hb1.mono (by omega))).alloc (by omega) _).grown hgrow (by simp; omega) (fun g hg => ((hownV.lt) g hg).1)
              have hnew : w4.ownsRow (w.heap.size + 1) 34 5 (.slice A2 k c2) (tabRow its val k j).length ((tabRow its val k j).flatMap svCells) :=
                ((own_base hown3 (by omega)).alloc _).kept hgrow (own_ne ((own_base hown3 (show w.heap.size + 1 ≤ V.heap.size by omega)).alloc (.cells #[.slice A2 k c2] 26)) (hownV.alloc _) (by decide))
              have hORn := ((hORV.alloc (.cells #[.slice A2 k c2] 26)).grown (hownV.alloc _) (by decide) hgrow).push hnew
              rw [← HTr.out] at hORn
              have HORn := hid hORn
              clear hORn hnew hgrow hat hownV hORV hown3 hown hb hb1 h0r
              go_wp2
              go_roundw
              case rel => first | exact ⟨j + 1, _, by omega, by go_num, hid (fun h => absurd h (by omega)), hown4, HORn, hbn⟩ | ((repeat apply Exists.intro); exact ⟨⟨j + 1, _, by omega, by go_num, hid (fun h => absurd h (by omega)), hown4, HORn, hbn⟩, rfl⟩)
              case measure => simp [intOf]; omega
      · have hkl : j = q := by omega
        subst hkl
        have htl : (tab its val c).length = j := by rw [tab_len, HN.out, HR.out]
        have HOR := hid (show OR V (w.heap.size + 1) 34 5 svCells us (tab its val c) by have := hOR.out; rwa [List.take_of_length_le (by rw [htl]; exact Nat.le_refl _)] at this)
        have hOwn : V.ownsRow (w.heap.size + 1) 26 1 u6 (tab its val c).length us := by rw [htl]; exact hown
        obtain ⟨A2, c2, hv', _, _⟩ := Sl.of_own hown
        subst hv'
        have hNil : tab its val c = [] → Value.slice A2 j c2 = .slice none 0 0 := fun h => hu0.out (by rw [← htl, h]; rfl)
        have hRW := hid (RwP.of_own hOwn HOR.out hNil)
        have hR1 := b0.below hb (by omega)
        have hbw : Below w.heap.size w V := hw.trans (hb.mono (by omega))
        clear hOR hown htl hu0
        go_wp2_with fail
        refine (TableV_any _ _ _ _).mono ?_
        rintro e w2 ⟨rfl, hb2⟩
        have hR2 := hR1.below hb2 hR1.lt
        have hb3 := hbw.trans (hb2.mono hbw.size)
        obtain ⟨q0, q1, q2, q3, q4, qf⟩ := hR2.cells5
        have hz2 := hR2.lt
        have hRW2 := hid (RwP.keep (w' := w2) (S' := fun b => w.heap.size + 1 ≤ b ∧ b < w2.heap.size) hRW.out fun b hb => ⟨hb2.block b hb.2, by have := hb2.size; omega⟩)
        clear hb2 hR1 hbw hRW
        go_wp2_with fail
        refine end_cell Tryz.results17 rfl (Bk.set5 hR2 _ _ _ _ _) Tryz.underlying34 rfl info_sv rfl ?_
        exact ⟨_, rfl, RwP.keep hRW2.out fun b hb => ⟨heap_set5 w2 (by omega) _ _ _ _ _, by simp [World.setCell]; omega⟩, Below.set5 hb3 (Nat.le_refl _) _ _ _ _ _⟩
end Go.Proofs.YtdanlcciefbboaaGreat
