import Derived.Test.YtdanlcciefbboaaGreatItem
import Derived.Test.YtdanlcciefbboaaGreatMem
import Derived.Test.YtdanlcciefbboaaGreatTabC
import Derived.Test.YtdanlcciefbboaaGreatOfM
namespace Go.Proofs.YtdanlcciefbboaaGreat
open Go.RowKit
attribute [local go_sem] run_store_float

def itFit (a : IT) : Bool := decide (a.2.2.size ≤ 2147483647)
theorem zzFits2_any (a : IT) (w : World) : Calls Tryz.prog 8 #[itV a] w fun e w' => e = .returned (.bool (itFit a)) ∧ Below w.heap.size w w' := by
  obtain ⟨k, n, t⟩ := a
  unfold itV itFit
  dsimp only
  by_cases h : t.size ≤ 2147483647
  · rw [decide_eq_true h]
    have h1 : ¬ (2147483647 : Int) < (t.size : Int) := by omega
    go_enter Tryz.func8, Tryz.ntmps8
    go_wp2_with fail
    go_ret
    exact ⟨rfl, (Below.refl _ _).alloc (Nat.le_refl _) _⟩
  · rw [decide_eq_false h]
    have h1 : (2147483647 : Int) < (t.size : Int) := by omega
    go_enter Tryz.func8, Tryz.ntmps8
    go_wp2_with fail
    go_ret
    exact ⟨rfl, (Below.refl _ _).alloc (Nat.le_refl _) _⟩

set_option maxRecDepth 100000 in
set_option maxHeartbeats 1000000 in
theorem zzFits1_any (its : List IT) (v : Value) (w : World) (h : Sl w w.heap.size 3 v its.length (its.flatMap itCells)) :
    Calls Tryz.prog 4 #[v] w fun e w' => ∃ b : Bool, e = .returned (.bool b) ∧ (b = true → its.length ≤ 2147483647 ∧ ∀ a ∈ its, a.2.2.size ≤ 2147483647) ∧ Below w.heap.size w w' := by
  obtain ⟨A, cap, rfl, hl, hcl⟩ := h
  have HC := hid hcl
  clear hcl hl
  by_cases hn : its.length ≤ 2147483647
  · have hn1 : ¬ (2147483647 : Int) < (its.length : Int) := by omega
    go_enter Tryz.func4, Tryz.ntmps4
    go_wp2_with fail
    go_loopw [10] (fun i wr => ∃ (k : Nat), k ≤ its.length ∧ i = .int .i64 k ∧ Hid (∀ a ∈ its.take k, a.2.2.size ≤ 2147483647) ∧ Below w.heap.size w wr) (fun i _ => its.length - (intOf i).toNat)
    case atStart => exact ⟨0, Nat.zero_le _, rfl, hid (fun a ha => by simp at ha), Below.refl _ _⟩
    case round =>
      obtain ⟨k, hk, rfl, hall, hb⟩ := hrel
      have hbz := hb.size
      by_cases hlt : k < its.length
      · obtain ⟨b, o, rfl, hbB, hcell⟩ := HC.out (by omega)
        obtain ⟨a, ha⟩ : ∃ a, its[k]? = some a := ⟨_, List.getElem?_eq_getElem hlt⟩
        have f := fun i (hi : i < 3) => flat_at itCells 3 itCells_len its k a i ha hi
        have g0 : wr.cell? ⟨b, o + k * 3, none⟩ = some (.int .i64 a.1) := (hb.cell (p := ⟨b, o + k * 3, none⟩) hbB).trans (by have := hcell (k * 3 + 0) _ ((f 0 (by omega)).trans rfl); simpa using this)
        have g1 : wr.cell? ⟨b, o + k * 3 + 1, none⟩ = some (.int .i64 a.2.1) := (hb.cell (p := ⟨b, o + k * 3 + 1, none⟩) hbB).trans (hcell (k * 3 + 1) _ ((f 1 (by omega)).trans rfl))
        have g2 : wr.cell? ⟨b, o + k * 3 + 2, none⟩ = some (.string a.2.2) := (hb.cell (p := ⟨b, o + k * 3 + 2, none⟩) hbB).trans (hcell (k * 3 + 2) _ ((f 2 (by omega)).trans rfl))
        have hblt : b < wr.heap.size := by omega
        have HT := hid (show its.take (k + 1) = its.take k ++ [a] by rw [List.take_add_one, ha]; rfl)
        have hZ : ∀ W, Calls Tryz.prog 8 #[.agg #[.int .i64 a.1, .int .i64 a.2.1, .string a.2.2]] W fun e w' => e = .returned (.bool (itFit a)) ∧ Below W.heap.size W w' := fun W => zzFits2_any a W
        have HZ := hid hZ
        clear hZ f hcell ha
        go_wp2_with fail
        refine (HZ.out _).mono ?_
        rintro e w2 ⟨rfl, hb2⟩
        have hb3 : Below w.heap.size w w2 := Below.lift (hb.alloc hbz _) (by simp; omega) hb2
        have hcase : (itFit a = true ∧ a.2.2.size ≤ 2147483647) ∨ itFit a = false := by
          unfold itFit
          by_cases h : a.2.2.size ≤ 2147483647
          · exact .inl ⟨decide_eq_true h, h⟩
          · exact .inr (decide_eq_false h)
        rcases hcase with ⟨h1, h2⟩ | h1
        · rw [h1]
          have hall2 : Hid (∀ x ∈ its.take (k + 1), x.2.2.size ≤ 2147483647) := hid (fun x hx => by
            rw [HT.out] at hx
            rcases List.mem_append.1 hx with hx | hx
            · exact hall.out x hx
            · obtain rfl := List.mem_singleton.1 hx; exact h2)
          clear g0 g1 g2 hb2 h1 h2
          go_wp2_with fail
          go_roundw
          case rel => exact ⟨k + 1, by omega, by go_num, hall2, hb3⟩
          case measure => simp [intOf]; omega
        · rw [h1]
          clear g0 g1 g2 hb2 h1
          go_wp2_with fail
          go_ret
          exact ⟨false, rfl, (fun h => Bool.noConfusion h), hb3⟩
      · have hkl : k = its.length := by omega
        subst hkl
        have hall2 : Hid (∀ x ∈ its, x.2.2.size ≤ 2147483647) := hid (fun x hx => hall.out x (by rw [List.take_length]; exact hx))
        go_wp2_with fail
        go_ret
        exact ⟨true, rfl, fun _ => ⟨hn, hall2.out⟩, hb⟩
  · have hn1 : (2147483647 : Int) < (its.length : Int) := by omega
    go_enter Tryz.func4, Tryz.ntmps4
    go_wp2_with fail
    go_ret
    exact ⟨false, rfl, (fun h => Bool.noConfusion h), Below.refl _ _⟩
end Go.Proofs.YtdanlcciefbboaaGreat
namespace Go.Proofs.YtdanlcciefbboaaGreat
open Go.RowKit

/-- the first argument is a matrix -/
def First5 (w : World) (v : Value) : Prop := ∃ (b o N c : Nat) (n d : Int) (t : ByteArray) (A : Option Addr) (m k : Nat), v = .slice (some ⟨b, o, none⟩) N c ∧ 0 < N ∧ N ≤ 1000 ∧ b < w.heap.size ∧
  w.cell? ⟨b, o, none⟩ = some (.int .i64 5) ∧ w.cell? ⟨b, o + 1, none⟩ = some (.int .i64 n) ∧ w.cell? ⟨b, o + 2, none⟩ = some (.int .i64 d) ∧ w.cell? ⟨b, o + 3, none⟩ = some (.string t) ∧ w.cell? ⟨b, o + 4, none⟩ = some (.slice A m k)
theorem First5.keep {w w' : World} {v : Value} (h : First5 w v) (hb : Below w.heap.size w w') : First5 w' v := by
  obtain ⟨b, o, N, c, n, d, t, A, m, k, h1, h2, h3, h4, h5, h6, h7, h8, h9⟩ := h
  have hz := hb.size
  exact ⟨b, o, N, c, n, d, t, A, m, k, h1, h2, h3, by omega, (hb.cell (p := ⟨b, o, none⟩) h4).trans h5, (hb.cell (p := ⟨b, o + 1, none⟩) h4).trans h6, (hb.cell (p := ⟨b, o + 2, none⟩) h4).trans h7, (hb.cell (p := ⟨b, o + 3, none⟩) h4).trans h8, (hb.cell (p := ⟨b, o + 4, none⟩) h4).trans h9⟩
end Go.Proofs.YtdanlcciefbboaaGreat
namespace Go.Proofs.YtdanlcciefbboaaGreat
open Go.RowKit
attribute [local go_sem] run_store_float

/-- the arguments of the law: a table, and single values -/
def withArgs (its ms : List IT) (c : Nat) : List SM := ((5, 0, 0, es), tab its ival c) :: (ms.take 10).map fun a => (ival a, [])

/-- a row that the call has just laid -/
theorem own_lit' {w : World} {g n sz base : Nat} {t : TypeId} {cs : Array Value} (h : Bk w g t cs) (hs : cs.size = n * sz) (hb : base ≤ g) (hn : n ≤ 65536) : w.ownsRow base t sz (.slice (some ⟨g, 0, none⟩) n n) n cs.toList :=
  ⟨by simpa using hs, .inr ⟨g, n, cs, rfl, hb, h, Nat.le_refl _, by unfold maxLen; omega, hs, List.take_of_length_le (by simp [hs])⟩⟩

set_option maxRecDepth 100000 in
set_option maxHeartbeats 2000000 in
theorem with_any (its ms : List IT) (cols : Int) (c : Nat) (hc : 1 + cols % 6 = (c : Int)) (N : Nat) (hNn : (N = its.length ∧ its.length ≤ 120) ∨ (120 < N ∧ its.length = 120)) (A : Option Addr) (cap : Nat) (hcap : N ≤ cap) (w : World)
    (hcl : 0 < its.length → ∃ b o, A = some ⟨b, o, none⟩ ∧ b < w.heap.size ∧ ∀ j u, (its.flatMap itCells)[j]? = some u → w.cell? ⟨b, o + j, none⟩ = some u)
    (v2 : Value) (h2 : Sl w w.heap.size 3 v2 ms.length (ms.flatMap itCells)) (hml : ms.length ≤ 2147483647) :
    Calls Tryz.prog 7 #[.slice A N cap, .int .i64 cols, v2] w fun e w' => ∃ (A' : Option Addr) (c' : Nat), e = .returned (.slice A' (withArgs its ms c).length c') ∧ (withArgs its ms c).length ≤ c' ∧ SlM w' (fun b => w.heap.size ≤ b ∧ b < w'.heap.size) 5 smCells 5 svCells (.slice A' (withArgs its ms c).length c') (withArgs its ms c) ∧ First5 w' (.slice A' (withArgs its ms c).length c') ∧ Below w.heap.size w w' := by
  have HT := hid (table_cut its ival (fun a _ W => val_any a W) cols c hc N hNn A cap hcap w hcl)
  obtain ⟨A2, cap2, rfl, hl2, hcl2⟩ := h2
  obtain ⟨i0, hi, hz0, hz1, hz2⟩ := info_parts infos_sw
  have HC := hid hcl2
  clear hcl2 hl2 hcl hNn hcap hc
  go_enter Tryz.func7, Tryz.ntmps7
  go_wp2_with fail
  refine HT.out.mono ?_
  rintro e w1 ⟨s, rfl, hr, hb1⟩
  have hone := hr.one
  have HR := hid hr
  clear hr HT
  go_wp2_with fail
  have k0 : Below w1.heap.size w1 (w1.alloc (.cells #[.int .i64 5, .int .i64 0, .int .i64 0, .string es, s] 34)) := (Below.refl _ _).alloc (Nat.le_refl _) _
  have hown0 : (w1.alloc (.cells #[.int .i64 5, .int .i64 0, .int .i64 0, .string es, s] 34)).ownsRow w1.heap.size 34 5 (.slice (some ⟨w1.heap.size, 0, none⟩) 1 1) 1 [.int .i64 5, .int .i64 0, .int .i64 0, .string es, s] := own_lit' (n := 1) (Bk.new w1 _ _) rfl (Nat.le_refl _) (by omega)
  go_loopw [7, 8] (fun u i wr => ∃ (k : Nat), k ≤ ms.length ∧ k ≤ 10 ∧ i = .int .i64 k ∧ wr.ownsRow w1.heap.size 34 5 u (1 + k) ([.int .i64 5, .int .i64 0, .int .i64 0, .string es, s] ++ ((ms.take k).map ival).flatMap svCells) ∧ Below w1.heap.size w1 wr) (fun _ i _ => 10 - (intOf i).toNat)
  case atStart => exact ⟨0, Nat.zero_le _, by omega, rfl, by simpa using hown0, k0⟩
  case round =>
    clear hown0 k0
    obtain ⟨k, hk, hk10, rfl, hown, hb⟩ := hrel
    have hbz := hb.size
    have hbw : Below w.heap.size w wr := hb1.trans (hb.mono hb1.size)
    by_cases hlt : k < ms.length ∧ k < 10
    · obtain ⟨hlt, hlt10⟩ := hlt
      obtain ⟨b, o, rfl, hbB, hcell⟩ := HC.out (by omega)
      obtain ⟨a, ha⟩ : ∃ a, ms[k]? = some a := ⟨_, List.getElem?_eq_getElem hlt⟩
      have f := fun i (hi : i < 3) => flat_at itCells 3 itCells_len ms k a i ha hi
      have g0 : wr.cell? ⟨b, o + k * 3, none⟩ = some (.int .i64 a.1) := (hbw.cell (p := ⟨b, o + k * 3, none⟩) hbB).trans (by have := hcell (k * 3 + 0) _ ((f 0 (by omega)).trans rfl); simpa using this)
      have g1 : wr.cell? ⟨b, o + k * 3 + 1, none⟩ = some (.int .i64 a.2.1) := (hbw.cell (p := ⟨b, o + k * 3 + 1, none⟩) hbB).trans (hcell (k * 3 + 1) _ ((f 1 (by omega)).trans rfl))
      have g2 : wr.cell? ⟨b, o + k * 3 + 2, none⟩ = some (.string a.2.2) := (hbw.cell (p := ⟨b, o + k * 3 + 2, none⟩) hbB).trans (hcell (k * 3 + 2) _ ((f 2 (by omega)).trans rfl))
      have hblt : b < wr.heap.size := by have := hbw.size; omega
      have HI : Hid (∀ W, Calls Tryz.prog 18 #[.agg #[.int .i64 a.1, .int .i64 a.2.1, .string a.2.2]] W fun e w' => e = .returned (svV (ival a)) ∧ Below W.heap.size W w') := hid (fun W => val_any a W)
      have HT : Hid (((ms.map ival).take (k + 1)).flatMap svCells = ((ms.map ival).take k).flatMap svCells ++ svCells (ival a)) := hid (flat_take svCells (ms.map ival) k _ (by rw [List.getElem?_map, ha]; rfl))
      generalize ival a = x at *
      clear f hcell ha hbB
      go_wp2_with fail
      refine (HI.out _).mono ?_
      rintro e w2 ⟨rfl, hb2⟩
      have hown2 := own_keep hown hb2
      have hb3 : Below w1.heap.size w1 w2 := Below.lift hb hbz hb2
      have hz3 := hb3.size
      clear hown hb hb2 hbw g0 g1 g2
      unfold svV sv
      go_wp2_with (at_builtin; refine wpList_append_own _ rfl _ _ 26 rfl w1.heap.size 34 i0 _ 5 64 Tryz.underlying26 hi hz0 hz1 hz2 rfl (by decide) _ _ _ rfl (hown2.alloc _) ⟨w2.heap.size, 0, none⟩ 1 1 (svCells x) rfl rfl ?c1 ?c2 ?c3 ?c4 ?c5 ?_)
      case c1 =>
        intro i u hi
        rw [add_mid, Nat.zero_add, (Bk.new _ _ _).cell]
        simpa [svCells] using hi
      case c2 => intro u hu; simp [svCells] at hu; rcases hu with rfl | rfl | rfl | rfl | rfl <;> rfl
      case c3 => unfold maxLen; omega
      case c4 => omega
      case c5 => simp; omega
      · intro v' w' hown' hgrow _
        have hb' : Below w1.heap.size w1 w' := (hb3.alloc hz3 _).grown hgrow (by simp; omega) (fun g hg => ((hown2.lt) g hg).1)
        have hown3 : w'.ownsRow w1.heap.size 34 5 v' (1 + (k + 1)) ([.int .i64 5, .int .i64 0, .int .i64 0, .string es, s] ++ ((ms.take (k + 1)).map ival).flatMap svCells) := by
          rw [List.map_take, HT.out, show 1 + (k + 1) = 1 + k + 1 by omega]; exact hown'
        clear hown2 hown' hgrow hb3
        go_wp2
        go_roundw
        case rel => first | exact ⟨k + 1, by omega, by omega, by go_num, hown3, hb'⟩ | ((repeat apply Exists.intro); exact ⟨⟨k + 1, by omega, by omega, by go_num, hown3, hb'⟩, rfl⟩)
        case measure => simp [intOf]; omega
    · have hkk : ms.take k = ms.take 10 := by
        rcases Nat.lt_or_ge k 10 with h | h
        · rw [List.take_of_length_le (by omega), List.take_of_length_le (by omega)]
        · rw [show k = 10 by omega]
      rw [hkk] at hown
      have hl10 : 1 + k = (1 + (ms.take 10).length) := by rw [← hkk, List.length_take]; omega
      have hRW : RwP wr (fun b => w.heap.size ≤ b ∧ b < wr.heap.size) 5 svCells s (tab its ival c) := RwP.keep HR.out fun b hb' => ⟨hb.block b hb'.2, hb'.1, by omega⟩
      have hfin : SlM wr (fun b => w.heap.size ≤ b ∧ b < wr.heap.size) 5 smCells 5 svCells u7 (withArgs its ms c) := by
        refine ⟨(((5, 0, 0, es), tab its ival c), s) :: (ms.take 10).map (fun a => ((ival a, []), .slice none 0 0)), ?_, ?_, ?_⟩
        · rw [withArgs, List.map_cons, List.map_map]; rfl
        · have h1 := SlP.of_own hown
          have e1 : ((((((5, 0, 0, es) : SV), tab its ival c), s) :: (ms.take 10).map (fun a => ((ival a, []), Value.slice none 0 0))).flatMap smCells) = [.int .i64 5, .int .i64 0, .int .i64 0, .string es, s] ++ ((ms.take 10).map ival).flatMap svCells := by
            rw [List.flatMap_cons, List.flatMap_map, List.flatMap_map]; rfl
          rw [e1, List.length_cons, List.length_map, Nat.add_comm, ← hl10]
          exact h1.keep fun b hb' => ⟨rfl, by have := hb1.size; omega, hb'.2⟩
        · intro p hp
          rcases List.mem_cons.1 hp with rfl | hp
          · exact hRW
          · obtain ⟨a, _, rfl⟩ := List.mem_map.1 hp
            exact RwP.none_ _ _ _ _
      have hWl : (withArgs its ms c).length = 1 + k := by rw [withArgs, List.length_cons, List.length_map, hl10]; omega
      obtain ⟨g, cap9, rfl, hnc, hglt, hcells⟩ : ∃ g cap9, u7 = .slice (some ⟨g, 0, none⟩) (1 + k) cap9 ∧ 1 + k ≤ cap9 ∧ g < wr.heap.size ∧ ∀ j u, ([.int .i64 5, .int .i64 0, .int .i64 0, .string es, s] ++ ((ms.take 10).map ival).flatMap svCells)[j]? = some u → wr.cell? ⟨g, j, none⟩ = some u := by
        rcases hown.2 with ⟨_, h0⟩ | ⟨g, cap9, cur, hv, hgB, hh, hnc, _⟩
        · omega
        · subst hv
          refine ⟨g, cap9, rfl, hnc, (Array.getElem?_eq_some_iff.1 hh).1, fun j u hu => ?_⟩
          have := hown.cells (g := g) rfl j u hu
          rw [add_mid, Nat.zero_add] at this
          exact this
      obtain ⟨A5, c5, hs5⟩ := hRW.form
      have hfirst : First5 wr (.slice (some ⟨g, 0, none⟩) (1 + k) cap9) := ⟨g, 0, 1 + k, cap9, 0, 0, es, A5, _, c5, rfl, by omega, by omega, hglt, hcells 0 _ rfl, hcells 1 _ rfl, hcells 2 _ rfl, hcells 3 _ rfl, by rw [← hs5]; exact hcells 4 _ rfl⟩
      have hF := hid (And.intro hnc (And.intro hfin hfirst))
      rw [← hWl] at hF
      have HWl := hid hWl
      clear hfin hRW hown hkk hfirst hcells hs5 hnc hl10 hWl
      have hstop : (¬ (k : Int) < (ms.length : Int)) ∨ ((k : Int) < (ms.length : Int) ∧ ¬ (k : Int) < 10) := by omega
      rcases hstop with hs | ⟨hs, hs10⟩
      all_goals
        go_wp2_with fail
        go_ret
        exact ⟨_, _, by rw [HWl.out]; rfl, hF.out.1, hF.out.2.1, hF.out.2.2, hbw⟩
end Go.Proofs.YtdanlcciefbboaaGreat
