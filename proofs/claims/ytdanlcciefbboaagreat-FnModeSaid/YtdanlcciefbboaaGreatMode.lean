import Derived.Test.YtdanlcciefbboaaGreatMiddle
import Derived.Test.YtdanlcciefbboaaGreatModeL
import Derived.Test.YtdanlcciefbboaaGreatItem
import Derived.Lib.QuietBelow
namespace Go.Proofs.YtdanlcciefbboaaGreat
open Go.RowKit Go.Sort
attribute [local go_sem] run_store_float

/-- a number, in sixteenths -/
def qn (a : SV) : Int := if a.2.2.1 = 1 then a.2.1 * 16 else if a.2.2.1 = 2 then a.2.1 * 8 else a.2.1 * 4
theorem qn_inj {a b : SV} (ha : numG a) (hb : numG b) (h : qn a = qn b) : a = b := by
  obtain ⟨k, n, d, t⟩ := a
  obtain ⟨k', n', d', t'⟩ := b
  obtain ⟨h1, h2, h3, h4⟩ := ha
  obtain ⟨g1, g2, g3, g4⟩ := hb
  unfold qn at h
  dsimp only at *
  subst h1; subst g1; subst h4; subst g4
  have : n = n' ∧ d = d' := by
    rcases h2 with rfl | ⟨rfl | rfl, h2⟩ <;> rcases g2 with rfl | ⟨rfl | rfl, g2⟩ <;> simp at h <;> omega
  obtain ⟨rfl, rfl⟩ := this
  rfl

set_option maxRecDepth 100000 in
theorem same_num (n d n' d' : Int) (z : Bool) (hz : z = (n == n' && d == d')) (w : World) :
    Calls Tryz.prog 151 #[sv 1 n d es, sv 1 n' d' es] w fun e w' => e = .returned (.bool z) ∧ Below w.heap.size w w' := by
  by_cases hn : n = n'
  · by_cases hd : d = d'
    · subst hn; subst hd
      have : z = true := by rw [hz]; simp
      subst this
      exact self_yes (1, n, d, es) w
    · have : z = false := by rw [hz]; simp [hd]
      subst this; subst hn
      have h1 : (d == d') = false := by simpa using hd
      have h2 : (d != d') = true := by simpa using hd
      clear hz
      unfold sv
      go_enter Tryz.func151, Tryz.ntmps151
      go_wp2_with fail
      go_ret
      exact ⟨rfl, ((Below.refl _ _).alloc (Nat.le_refl _) _).alloc (by simp) _⟩
  · have : z = false := by rw [hz]; simp [hn]
    subst this
    have h1 : (n == n') = false := by simpa using hn
    have h2 : (n != n') = true := by simpa using hn
    clear hz
    unfold sv
    go_enter Tryz.func151, Tryz.ntmps151
    go_wp2_with fail
    go_ret
    exact ⟨rfl, ((Below.refl _ _).alloc (Nat.le_refl _) _).alloc (by simp) _⟩
theorem same_err (t : ByteArray) (n d : Int) (w : World) :
    Calls Tryz.prog 151 #[sv 4 0 0 t, sv 1 n d es] w fun e w' => e = .returned (.bool false) ∧ Below w.heap.size w w' := by
  unfold sv
  go_enter Tryz.func151, Tryz.ntmps151
  go_wp2_with fail
  go_ret
  exact ⟨rfl, ((Below.refl _ _).alloc (Nat.le_refl _) _).alloc (by simp) _⟩
theorem same_G {a b : SV} (ha : numG a) (hb : numG b) (w : World) :
    Calls Tryz.prog 151 #[svV a, svV b] w fun e w' => e = .returned (.bool (qn a == qn b)) ∧ Below w.heap.size w w' := by
  by_cases h : qn a = qn b
  · have := qn_inj ha hb h
    subst this
    rw [show (qn a == qn a) = true by simp]
    exact self_yes a w
  · rw [show (qn a == qn b) = false by simpa using h]
    obtain ⟨k, n, d, t⟩ := a
    obtain ⟨k', n', d', t'⟩ := b
    obtain ⟨rfl, _, _, rfl⟩ := ha
    obtain ⟨rfl, _, _, rfl⟩ := hb
    refine same_num n d n' d' false ?_ w
    unfold qn at h
    dsimp only at h
    by_cases h1 : n = n'
    · by_cases h2 : d = d'
      · exact absurd (by rw [h1, h2]) h
      · simp [h2]
    · simp [h1]

def naS : ByteArray := ⟨#[35, 78, 47, 65]⟩
/-- the best so far: an error, or a number -/
def bestOk (s : Option Int) (B : SV) : Prop := (s = none ∧ B = (4, 0, 0, naS)) ∨ ∃ z, s = some z ∧ numG B ∧ qn B = z
theorem same_best {s : Option Int} {B a : SV} (h : bestOk s B) (ha : numG a) (w : World) :
    Calls Tryz.prog 151 #[svV B, svV a] w fun e w' => e = .returned (.bool (s == some (qn a))) ∧ Below w.heap.size w w' := by
  rcases h with ⟨rfl, rfl⟩ | ⟨z, rfl, hB, rfl⟩
  · obtain ⟨k, n, d, t⟩ := a
    obtain ⟨rfl, _, _, rfl⟩ := ha
    exact same_err naS n d w
  · have := same_G hB ha w
    rw [show (some (qn B) == some (qn a)) = (qn B == qn a) by rfl]
    exact this
/-- what the reference says of numbers: nothing, or the one that occurs most often -/
def modeAns (l : List SV) (a : SV) : Prop := a.1 = 6 ∨ (l ≠ [] ∧ (refMode (l.map qn)).2.2 = false ∧ bestOk (refMode (l.map qn)).1 a)

set_option maxRecDepth 100000 in
set_option maxHeartbeats 8000000 in
theorem mode_any (l : List SV) (hG : ∀ a ∈ l, numG a) (A : Option Addr) (n0 c : Nat) (w : World) (h : Sl w w.heap.size 5 (.slice A n0 c) l.length (l.flatMap svCells)) (hlen : l.length ≤ 100000) :
    Calls Tryz.prog 65 #[.slice A n0 c] w fun e w' => ∃ a : SV, e = .returned (svV a) ∧ modeAns l a ∧ Below w.heap.size w w' := by
  obtain ⟨A0, c0, hv, hl, hc⟩ := h
  injection hv with e1 e2 e3
  subst e1; subst e2; subst e3
  have HC := hid hc
  have HG := hid hG
  obtain ⟨N, hN⟩ : ∃ N, l.length = N := ⟨_, rfl⟩
  have HN := hid hN
  rw [hN] at hlen ⊢
  obtain ⟨L, hL⟩ : ∃ L, l.map qn = L := ⟨_, rfl⟩
  have HLx := hid hL
  have HAt : Hid (∀ (i : Nat) (x : SV), l[i]? = some x → L[i]? = some (qn x)) := hid (fun i x hx => by rw [← hL, List.getElem?_map, hx]; rfl)
  have HLl : Hid (L.length = N) := hid (by rw [← hL, List.length_map]; exact hN)
  clear hc hl hG hN hL
  go_enter Tryz.func65, Tryz.ntmps65
  go_wp2_with fail
  refine (err_any _ _).mono ?_
  rintro e w1 ⟨rfl, hb1⟩
  have bR1 := (Bk.new w 34 #[.int .i64 0, .int .i64 0, .int .i64 0, .string ⟨#[]⟩, .slice none 0 0]).below hb1 (by simp)
  have hd1 : Below w.heap.size w w1 := Below.lift ((Below.refl w.heap.size w).alloc (Nat.le_refl _) _) (by simp) hb1
  have hz1 : w.heap.size + 1 ≤ w1.heap.size := by have := hb1.size; simpa using this
  clear hb1
  unfold sv
  go_wp2_with fail
  have bB1 := Bk.new w1 34 #[.int .i64 4, .int .i64 0, .int .i64 0, .string ⟨#[35, 78, 47, 65]⟩, .slice none 0 0]
  have bR2 := bR1.alloc (.cells #[.int .i64 4, .int .i64 0, .int .i64 0, .string ⟨#[35, 78, 47, 65]⟩, .slice none 0 0] 34)
  have hd2 := hd1.alloc hd1.size (.cells #[.int .i64 4, .int .i64 0, .int .i64 0, .string ⟨#[35, 78, 47, 65]⟩, .slice none 0 0] 34)
  generalize w1.alloc (.cells #[.int .i64 4, .int .i64 0, .int .i64 0, .string ⟨#[35, 78, 47, 65]⟩, .slice none 0 0] 34) = W at *
  clear bR1 hd1
  generalize w1.heap.size = gB at *
  go_loopw [4, 5, 6, 7, 8] (fun mv tv iv _n _k wx => ∃ (i : Nat) (B : SV), i ≤ N ∧ iv = .int .i64 i ∧ mv = .int .i64 (((L.take i).foldl (refStep L) (none, 1, false)).2.1 : Nat) ∧ tv = .bool ((L.take i).foldl (refStep L) (none, 1, false)).2.2 ∧ Hid (bestOk ((L.take i).foldl (refStep L) (none, 1, false)).1 B) ∧ Hid (((L.take i).foldl (refStep L) (none, 1, false)).2.1 ≤ N + 1) ∧ Bk wx gB 34 #[.int .i64 B.1, .int .i64 B.2.1, .int .i64 B.2.2.1, .string B.2.2.2, .slice none 0 0] ∧ Bk wx w.heap.size 34 #[.int .i64 0, .int .i64 0, .int .i64 0, .string ⟨#[]⟩, .slice none 0 0] ∧ Below w.heap.size w wx) (fun _ _ iv _ _ _ => N - (intOf iv).toNat)
  case atStart => exact ⟨0, (4, 0, 0, naS), Nat.zero_le _, rfl, rfl, rfl, hid (.inl ⟨rfl, rfl⟩), hid (by show 1 ≤ N + 1; omega), bB1, bR2, hd2⟩
  case round =>
    clear bB1 bR2 hd2
    obtain ⟨i, B, hiN, rfl, rfl, rfl, hbest, hm0, bB, bR, hb⟩ := hrel
    have hbz := hb.size
    have hgB := bB.lt
    have hgR := bR.lt
    obtain ⟨st, hst⟩ : ∃ st, (L.take i).foldl (refStep L) (none, 1, false) = st := ⟨_, rfl⟩
    have Hst := hid hst
    rw [hst] at hbest hm0 ⊢
    clear hst
    obtain ⟨s0, m0, t0⟩ := st
    dsimp only at hbest hm0 ⊢
    by_cases hlt : i < N
    · obtain ⟨x, hx⟩ : ∃ x, l[i]? = some x := ⟨_, List.getElem?_eq_getElem (by rw [HN.out]; exact hlt)⟩
      have hxG := HG.out x (List.mem_of_getElem? hx)
      have hxL := HAt.out i x hx
      have hst1 : Hid ((L.take (i + 1)).foldl (refStep L) (none, 1, false) = refStep L (s0, m0, t0) (qn x)) := hid (by
        rw [List.take_add_one, hxL, List.foldl_append, Hst.out]; rfl)
      obtain ⟨b, o, rfl, hbB, hcell⟩ := HC.out (by rw [HN.out]; omega)
      have f := fun j (hj : j < 5) => flat_at svCells 5 svCells_len l i x j hx hj
      have p0 : w.cell? ⟨b, o + i * 5, none⟩ = some (.int .i64 x.1) := by have := hcell (i * 5 + 0) _ ((f 0 (by omega)).trans rfl); simpa using this
      have p1 : w.cell? ⟨b, o + i * 5 + 1, none⟩ = some (.int .i64 x.2.1) := hcell (i * 5 + 1) _ ((f 1 (by omega)).trans rfl)
      have p2 : w.cell? ⟨b, o + i * 5 + 2, none⟩ = some (.int .i64 x.2.2.1) := hcell (i * 5 + 2) _ ((f 2 (by omega)).trans rfl)
      have p3 : w.cell? ⟨b, o + i * 5 + 3, none⟩ = some (.string x.2.2.2) := hcell (i * 5 + 3) _ ((f 3 (by omega)).trans rfl)
      have p4 : w.cell? ⟨b, o + i * 5 + 4, none⟩ = some (.slice none 0 0) := hcell (i * 5 + 4) _ ((f 4 (by omega)).trans rfl)
      have HPx := hid (And.intro p0 (And.intro p1 (And.intro p2 (And.intro p3 p4))))
      have HCell := hid hcell
      have HX := hid hxG
      obtain ⟨qx, hqx⟩ : ∃ qx, qn x = qx := ⟨_, rfl⟩
      have HQx := hid hqx
      rw [hqx] at hst1
      clear f hcell hx hxL p0 p1 p2 p3 p4 hxG hqx
      obtain ⟨V, hV⟩ : ∃ V, V = wr := ⟨_, rfl⟩
      subst hV
      have hiI : (i : Int) < (N : Int) := by omega
      have hi0 : (0 : Int) ≤ (i : Int) := by omega
      go_wp2_with fail
      go_loopw [7, 8] (fun nv kv wx => ∃ (k cnt : Nat), k ≤ N ∧ cnt ≤ k ∧ kv = .int .i64 k ∧ nv = .int .i64 cnt ∧ Hid ((L.take k).count qx = cnt) ∧ Below V.heap.size V wx) (fun _ kv _ => N - (intOf kv).toNat)
      case atStart => exact ⟨0, 0, Nat.zero_le _, by omega, rfl, rfl, hid rfl, Below.refl _ _⟩
      case round =>
        obtain ⟨k, cnt, hkN, hck, rfl, rfl, hcnt, hbk⟩ := hrel
        have hbkz := hbk.size
        have hbw : Below w.heap.size w wr := hb.trans (hbk.mono hbz)
        by_cases hltk : k < N
        · obtain ⟨y, hy⟩ : ∃ y, l[k]? = some y := ⟨_, List.getElem?_eq_getElem (by rw [HN.out]; exact hltk)⟩
          have hyG := HG.out y (List.mem_of_getElem? hy)
          have hyL := HAt.out k y hy
          have f := fun j (hj : j < 5) => flat_at svCells 5 svCells_len l k y j hy hj
          have y0 := cell_regrown ((hbw.cell (p := ⟨b, o + k * 5, none⟩) hbB).trans (show w.cell? ⟨b, o + k * 5, none⟩ = some (.int .i64 y.1) by have := HCell.out (k * 5 + 0) _ ((f 0 (by omega)).trans rfl); simpa using this))
          have y1 := cell_regrown ((hbw.cell (p := ⟨b, o + k * 5 + 1, none⟩) hbB).trans (show w.cell? ⟨b, o + k * 5 + 1, none⟩ = some (.int .i64 y.2.1) from HCell.out (k * 5 + 1) _ ((f 1 (by omega)).trans rfl)))
          have y2 := cell_regrown ((hbw.cell (p := ⟨b, o + k * 5 + 2, none⟩) hbB).trans (show w.cell? ⟨b, o + k * 5 + 2, none⟩ = some (.int .i64 y.2.2.1) from HCell.out (k * 5 + 2) _ ((f 2 (by omega)).trans rfl)))
          have y3 := cell_regrown ((hbw.cell (p := ⟨b, o + k * 5 + 3, none⟩) hbB).trans (show w.cell? ⟨b, o + k * 5 + 3, none⟩ = some (.string y.2.2.2) from HCell.out (k * 5 + 3) _ ((f 3 (by omega)).trans rfl)))
          have y4 := cell_regrown ((hbw.cell (p := ⟨b, o + k * 5 + 4, none⟩) hbB).trans (show w.cell? ⟨b, o + k * 5 + 4, none⟩ = some (.slice none 0 0) from HCell.out (k * 5 + 4) _ ((f 4 (by omega)).trans rfl)))
          obtain ⟨a0, a1, a2, a3, a4⟩ := HPx.out
          have x0 := cell_regrown ((hbw.cell (p := ⟨b, o + i * 5, none⟩) hbB).trans a0)
          have x1 := cell_regrown ((hbw.cell (p := ⟨b, o + i * 5 + 1, none⟩) hbB).trans a1)
          have x2 := cell_regrown ((hbw.cell (p := ⟨b, o + i * 5 + 2, none⟩) hbB).trans a2)
          have x3 := cell_regrown ((hbw.cell (p := ⟨b, o + i * 5 + 3, none⟩) hbB).trans a3)
          have x4 := cell_regrown ((hbw.cell (p := ⟨b, o + i * 5 + 4, none⟩) hbB).trans a4)
          have hT : Hid ((L.take (k + 1)).count qx = cnt + (if qn y = qx then 1 else 0)) := hid (by
            rw [List.take_add_one, hyL]
            simp [List.count_append, List.count_cons, hcnt.out])
          obtain ⟨z, hz⟩ : ∃ z, (qn x == qn y) = z := ⟨_, rfl⟩
          have cS : ∀ d os, Calls Tryz.prog 151 #[.agg #[.int .i64 x.1, .int .i64 x.2.1, .int .i64 x.2.2.1, .string x.2.2.2, .slice none 0 0], .agg #[.int .i64 y.1, .int .i64 y.2.1, .int .i64 y.2.2.1, .string y.2.2.2, .slice none 0 0]] (grow (redrawn wr d) os) fun e w'' => e = .returned (.bool z) ∧ ∃ p : Regrown, w'' = grow (redrawn wr p.d) p.os := fun d os => Calls.regrown_of (hz ▸ same_G HX.out hyG _)
          have hcase : (z = true ∧ Hid ((L.take (k + 1)).count qx = cnt + 1)) ∨ (z = false ∧ Hid ((L.take (k + 1)).count qx = cnt)) := by
            by_cases h : qn y = qx
            · left; exact ⟨by rw [← hz, HQx.out, h]; simp, hid (by rw [hT.out, if_pos h])⟩
            · right; exact ⟨by rw [← hz, HQx.out]; simp; exact fun e => h e.symm, hid (by rw [hT.out, if_neg h]; rfl)⟩
          have hblt : b < wr.heap.size := by have := hbw.size; omega
          have hkI : (k : Int) < (N : Int) := by omega
          have hk0 : (0 : Int) ≤ (k : Int) := by omega
          clear f hy hyG hyL hT hz a0 a1 a2 a3 a4
          rcases hcase with ⟨rfl, hc2⟩ | ⟨rfl, hc2⟩
          · go_wp2_with fail
            refine wp_region_quiet_below (by kernel_rfl) (by kernel_rfl) ?_
            repeat (go_big_quiet_step (with_reducible exact cS _ _))
            refine wpQuiet_nil ?_
            intro _ hw'
            obtain ⟨⟨dq, osq⟩, hw''⟩ := hw'
            subst hw''
            go_wp2_with fail
            go_roundw
            case rel => exact ⟨k + 1, cnt + 1, by omega, by omega, by go_num, by go_num, hc2, Below.lift hbk hbkz (below_regrown wr dq osq)⟩
            case measure => simp [intOf]; omega
          · go_wp2_with fail
            refine wp_region_quiet_below (by kernel_rfl) (by kernel_rfl) ?_
            repeat (go_big_quiet_step (with_reducible exact cS _ _))
            refine wpQuiet_nil ?_
            intro _ hw'
            obtain ⟨⟨dq, osq⟩, hw''⟩ := hw'
            subst hw''
            go_wp2_with fail
            go_roundw
            case rel => exact ⟨k + 1, cnt, by omega, by omega, by go_num, rfl, hc2, Below.lift hbk hbkz (below_regrown wr dq osq)⟩
            case measure => simp [intOf]; omega
        · have hkN2 : L.take k = L := List.take_of_length_le (by rw [HLl.out]; omega)
          have hcn : Hid (L.count qx = cnt) := hid (by rw [← hcnt.out, hkN2])
          have bB' := bB.below hbk hgB
          have bR' := bR.below hbk hgR
          have hgB' := bB'.lt
          have hblt : b < wr.heap.size := by have := hbw.size; omega
          obtain ⟨a0, a1, a2, a3, a4⟩ := HPx.out
          have x0 := (hbw.cell (p := ⟨b, o + i * 5, none⟩) hbB).trans a0
          have x1 := (hbw.cell (p := ⟨b, o + i * 5 + 1, none⟩) hbB).trans a1
          have x2 := (hbw.cell (p := ⟨b, o + i * 5 + 2, none⟩) hbB).trans a2
          have x3 := (hbw.cell (p := ⟨b, o + i * 5 + 3, none⟩) hbB).trans a3
          have x4 := (hbw.cell (p := ⟨b, o + i * 5 + 4, none⟩) hbB).trans a4
          obtain ⟨q0, q1, q2, q3, q4, qf⟩ := bB'.cells5
          have hgBw : w.heap.size ≤ gB := by omega
          clear hkN2 hcnt a0 a1 a2 a3 a4 bB bR hbk
          by_cases hgt : m0 < cnt
          · have hr : Hid (refStep L (s0, m0, t0) qx = (some qx, cnt, false)) := hid (by unfold refStep; rw [hcn.out, if_pos hgt])
            have hgI : (m0 : Int) < (cnt : Int) := by omega
            have hF := hid (And.intro (Bk.set5 bB' (.int .i64 x.1) (.int .i64 x.2.1) (.int .i64 x.2.2.1) (.string x.2.2.2) (.slice none 0 0)) (And.intro (show Bk _ w.heap.size 34 _ from (heap_set5 wr (show w.heap.size ≠ gB by omega) (.int .i64 x.1) (.int .i64 x.2.1) (.int .i64 x.2.2.1) (.string x.2.2.2) (.slice none 0 0)).trans bR') (Below.set5 hbw hgBw (.int .i64 x.1) (.int .i64 x.2.1) (.int .i64 x.2.2.1) (.string x.2.2.2) (.slice none 0 0))))
            have hbo : Hid (bestOk (some qx) x) := hid (.inr ⟨qx, rfl, HX.out, HQx.out⟩)
            clear bB' bR' hbw
            go_wp2_with fail
            go_roundw
            case rel => exact ⟨i + 1, x, by omega, by go_num, by rw [hst1.out, hr.out], by rw [hst1.out, hr.out], by rw [hst1.out, hr.out]; exact hbo, by rw [hst1.out, hr.out]; exact hid (by dsimp only; omega), hF.out.1, hF.out.2.1, hF.out.2.2⟩
            case measure => simp [intOf]; omega
          · have hgI : ¬ (m0 : Int) < (cnt : Int) := by omega
            by_cases heq : cnt = m0
            · have heqI : ((cnt : Int) == (m0 : Int)) = true := by simp [heq]
              by_cases h1 : 1 < cnt
              · have h1I : (1 : Int) < (cnt : Int) := by omega
                obtain ⟨z, hz⟩ : ∃ z, (s0 == some qx) = z := ⟨_, rfl⟩
                have cS : ∀ d os, Calls Tryz.prog 151 #[.agg #[.int .i64 B.1, .int .i64 B.2.1, .int .i64 B.2.2.1, .string B.2.2.2, .slice none 0 0], .agg #[.int .i64 x.1, .int .i64 x.2.1, .int .i64 x.2.2.1, .string x.2.2.2, .slice none 0 0]] (grow (redrawn wr d) os) fun e w'' => e = .returned (.bool z) ∧ ∃ p : Regrown, w'' = grow (redrawn wr p.d) p.os := fun d os => Calls.regrown_of (by
                  have := same_best hbest.out HX.out (grow (redrawn wr d) os)
                  rw [HQx.out, hz] at this
                  exact this)
                have hcase : (z = true ∧ Hid (refStep L (s0, m0, t0) qx = (s0, m0, t0))) ∨ (z = false ∧ Hid (refStep L (s0, m0, t0) qx = (s0, m0, true))) := by
                  by_cases h : s0 = some qx
                  · left; exact ⟨by rw [← hz, h]; simp, hid (by unfold refStep; rw [hcn.out, if_neg hgt, if_neg (fun hh => hh.2.2 h)])⟩
                  · right; exact ⟨by rw [← hz]; simpa using h, hid (by unfold refStep; rw [hcn.out, if_neg hgt, if_pos ⟨heq, h1, h⟩])⟩
                have rx0 := cell_regrown x0
                have rx1 := cell_regrown x1
                have rx2 := cell_regrown x2
                have rx3 := cell_regrown x3
                have rx4 := cell_regrown x4
                have rq0 := cell_regrown q0
                have rq1 := cell_regrown q1
                have rq2 := cell_regrown q2
                have rq3 := cell_regrown q3
                have rq4 := cell_regrown q4
                have heq' := hid heq
                clear hz x0 x1 x2 x3 x4 q0 q1 q2 q3 q4 qf hgt heq
                rcases hcase with ⟨rfl, hr⟩ | ⟨rfl, hr⟩
                all_goals
                  go_wp2_with fail
                  refine wp_region_quiet_below (by kernel_rfl) (by kernel_rfl) ?_
                  repeat (go_big_quiet_step (with_reducible exact cS _ _))
                  refine wpQuiet_nil ?_
                  intro _ hw'
                  obtain ⟨⟨dq, osq⟩, hw''⟩ := hw'
                  subst hw''
                  have hbg := below_regrown wr dq osq
                  have hF := hid (And.intro (bB'.below hbg hgB') (And.intro (bR'.below hbg bR'.lt) (Below.lift hbw hbw.size hbg)))
                  clear bB' bR' hbw hbg
                  go_wp2_with fail
                  go_roundw
                  case rel => exact ⟨i + 1, B, by omega, by go_num, by rw [hst1.out, hr.out], by rw [hst1.out, hr.out], by rw [hst1.out, hr.out]; exact hbest, by rw [hst1.out, hr.out]; exact hm0, hF.out.1, hF.out.2.1, hF.out.2.2⟩
                  case measure => simp [intOf]; omega
              · have h1I : decide ((1 : Int) < (cnt : Int)) = false := decide_eq_false (by omega)
                have h1J : ¬ (1 : Int) < (cnt : Int) := by omega
                have h1K : (cnt : Int) ≤ 1 := by omega
                have hr : Hid (refStep L (s0, m0, t0) qx = (s0, m0, t0)) := hid (by unfold refStep; rw [hcn.out, if_neg hgt, if_neg (fun hh => h1 hh.2.1)])
                have heq' := hid heq
                clear hgt heq x0 x1 x2 x3 x4 q0 q1 q2 q3 q4 qf
                go_wp2_with fail
                refine wp_region_quiet_below (by kernel_rfl) (by kernel_rfl) ?_
                repeat (go_big_quiet_step (fail))
                refine wpQuiet_nil ?_
                intro _ hw'
                obtain ⟨⟨dq, osq⟩, hw''⟩ := hw'
                subst hw''
                have hbg := below_regrown wr dq osq
                have hF := hid (And.intro (bB'.below hbg hgB') (And.intro (bR'.below hbg bR'.lt) (Below.lift hbw hbw.size hbg)))
                clear bB' bR' hbw hbg
                go_wp2_with fail
                go_roundw
                case rel => exact ⟨i + 1, B, by omega, by go_num, by rw [hst1.out, hr.out], by rw [hst1.out, hr.out], by rw [hst1.out, hr.out]; exact hbest, by rw [hst1.out, hr.out]; exact hm0, hF.out.1, hF.out.2.1, hF.out.2.2⟩
                case measure => simp [intOf]; omega
            · have heqI : ((cnt : Int) == (m0 : Int)) = false := by rw [beq_eq_false_iff_ne]; omega
              have hr : Hid (refStep L (s0, m0, t0) qx = (s0, m0, t0)) := hid (by unfold refStep; rw [hcn.out, if_neg hgt, if_neg (fun hh => heq hh.1)])
              have heq' := hid heq
              clear hgt heq x0 x1 x2 x3 x4 q0 q1 q2 q3 q4 qf
              go_wp2_with fail
              refine wp_region_quiet_below (by kernel_rfl) (by kernel_rfl) ?_
              repeat (go_big_quiet_step (fail))
              refine wpQuiet_nil ?_
              intro _ hw'
              obtain ⟨⟨dq, osq⟩, hw''⟩ := hw'
              subst hw''
              have hbg := below_regrown wr dq osq
              have hF := hid (And.intro (bB'.below hbg hgB') (And.intro (bR'.below hbg bR'.lt) (Below.lift hbw hbw.size hbg)))
              clear bB' bR' hbw hbg
              go_wp2_with fail
              go_roundw
              case rel => exact ⟨i + 1, B, by omega, by go_num, by rw [hst1.out, hr.out], by rw [hst1.out, hr.out], by rw [hst1.out, hr.out]; exact hbest, by rw [hst1.out, hr.out]; exact hm0, hF.out.1, hF.out.2.1, hF.out.2.2⟩
              case measure => simp [intOf]; omega
    · have hiN2 : L.take i = L := List.take_of_length_le (by rw [HLl.out]; omega)
      have hRM : Hid (refMode L = (s0, m0, t0)) := hid (by unfold refMode; rw [← Hst.out, hiN2])
      obtain ⟨q0, q1, q2, q3, q4, qf⟩ := bB.cells5
      obtain ⟨r0, r1, r2, r3, r4, rf⟩ := bR.cells5
      clear hiN2 Hst
      have hcase : t0 = true ∨ (t0 = false ∧ ((N : Int) == 0) = true ∧ N = 0) ∨ (t0 = false ∧ ((N : Int) == 0) = false ∧ N ≠ 0) := by
        cases t0
        · right
          by_cases h : N = 0
          · left; exact ⟨rfl, by simp [h], h⟩
          · right; exact ⟨rfl, by simpa using h, h⟩
        · exact .inl rfl
      rcases hcase with rfl | ⟨rfl, hN0, hN0'⟩ | ⟨rfl, hN0, hN0'⟩
      · go_wp2_with fail
        refine (doubt_any _).mono ?_
        rintro e w3 ⟨rfl, hb3⟩
        have bR3 := bR.below hb3 hgR
        have hd3 := Below.lift hb hbz hb3
        obtain ⟨v0, v1, v2, v3, v4, vf⟩ := bR3.cells5
        have hlt3 := bR3.lt
        clear q0 q1 q2 q3 q4 qf r0 r1 r2 r3 r4 rf hb3
        unfold sv
        go_wp2_with fail
        exact end_cell Tryz.results65 rfl (Bk.set5 bR3 _ _ _ _ _) Tryz.underlying34 rfl info_sv rfl ⟨(6, 0, 0, es), rfl, .inl rfl, Below.set5 hd3 (Nat.le_refl _) _ _ _ _ _⟩
      · have hN0h := hid hN0'
        clear hN0'
        go_wp2_with fail
        refine (doubt_any _).mono ?_
        rintro e w3 ⟨rfl, hb3⟩
        have bR3 := bR.below hb3 hgR
        have hd3 := Below.lift hb hbz hb3
        obtain ⟨v0, v1, v2, v3, v4, vf⟩ := bR3.cells5
        have hlt3 := bR3.lt
        clear q0 q1 q2 q3 q4 qf r0 r1 r2 r3 r4 rf hb3
        unfold sv
        go_wp2_with fail
        exact end_cell Tryz.results65 rfl (Bk.set5 bR3 _ _ _ _ _) Tryz.underlying34 rfl info_sv rfl ⟨(6, 0, 0, es), rfl, .inl rfl, Below.set5 hd3 (Nat.le_refl _) _ _ _ _ _⟩
      · have hans : Hid (modeAns l B) := hid (.inr ⟨fun e => hN0' (by rw [← HN.out, e]; rfl), by rw [HLx.out, hRM.out], by rw [HLx.out, hRM.out]; exact hbest.out⟩)
        clear hN0'
        go_wp2_with fail
        exact end_cell Tryz.results65 rfl (Bk.set5 bR _ _ _ _ _) Tryz.underlying34 rfl info_sv rfl ⟨B, rfl, hans.out, Below.set5 hb (Nat.le_refl _) _ _ _ _ _⟩
end Go.Proofs.YtdanlcciefbboaaGreat
