import Derived.Test.YtdanlcciefbboaaGreatModeP
import Derived.Test.YtdanlcciefbboaaGreatSameM
import Derived.Deep.RegionHeld3
import Derived.Deep.Strs
namespace Go.Proofs.YtdanlcciefbboaaGreat
open Go.RowKit
attribute [local go_sem] run_store_float

theorem any_one (a : SV) : ([a].any unsure) = unsure a := by simp

set_option maxRecDepth 100000 in
set_option maxHeartbeats 4000000 in
/-- agrees of MODE -/
theorem agrees_MODE (ms : List SM) (hA : Asked ms) (hS : Shaped ms) (htx : ∀ a ∈ flatM ms, a.2.2.2.size ≤ 2147483647) (A : Option Addr) (c : Nat) (w : World) (h : ArgsM w ms A c) (h5 : First5 w (.slice A ms.length c)) (hpos : 0 < (flatM ms).length) :
    Calls Tryz.prog 5 #[.func (.func 6) #[] #[], .string ⟨#[77, 79, 68, 69]⟩, .slice A ms.length c] w fun e w' => e = .returned (.bool true) ∧ Below w.heap.size w w' := by
  have HC := hid (Call_MODE ms hA htx A c w h h5)
  have HD := hid (fun (rb rc : Nat) (wx : World) hrb gr (hx : ArgsM wx ms A c) => doubtful_table2 ms (flatM ms) rfl rb 0 rc A c wx hrb gr hx.mem hA.ok hA.len hA.rows hA.tot hpos)
  have HS := hid h
  have HP := hid (fun a ha h6 => mode_plain ms hA hS a ha h6)
  have HL := hid (fun (hsm : ∀ m ∈ ms, smOk m) (wx : World) (hx : ArgsM wx ms A c) => all_mat ms _ wx hx.mem hsm hA.len)
  have hlen := hA.len
  clear hA hS htx h h5 hpos
  go_enter Tryz.func5, Tryz.ntmps5
  go_wp2_with fail
  refine HC.out.mono ?_
  rintro e w1 ⟨want, rfl, hans, hb1⟩
  have Hans := hid hans
  have hw5 : want.1 ≠ 5 := by
    rcases hans with h | ⟨_, h | ⟨_, _, h | ⟨z, _, h, _⟩⟩⟩
    · omega
    · omega
    · rw [h.2]; decide
    · have := h.1; omega
  have H5 := hid hw5
  clear hans hw5 HC
  unfold svV sv
  go_wp2_with fail
  refine (Table_any _ _ _ _ rfl _).mono ?_
  rintro e w2 ⟨rfl, hb2⟩
  have hBv := Bk.new w1 34 #[.int .i64 want.1, .int .i64 want.2.1, .int .i64 want.2.2.1, .string want.2.2.2, .slice none 0 0]
  have hBr := Bk.new (w1.alloc (.cells #[.int .i64 want.1, .int .i64 want.2.1, .int .i64 want.2.2.1, .string want.2.2.2, .slice none 0 0] 34)) 26 #[.slice A ms.length c]
  have hBv2 := (hBv.alloc (.cells #[.slice A ms.length c] 26)).below hb2 (by simp; omega)
  have hBr2 := hBr.below hb2 (by simp)
  rw [show (w1.alloc (.cells #[.int .i64 want.1, .int .i64 want.2.1, .int .i64 want.2.2.1, .string want.2.2.2, .slice none 0 0] 34)).heap.size = w1.heap.size + 1 by simp] at hBr2
  have hz2 : w1.heap.size + 2 ≤ w2.heap.size := by have := hb2.size; simpa using this
  have hd2 : Below w.heap.size w w2 := Below.lift (((hb1).alloc hb1.size _).alloc (by have := hb1.size; simp; omega) _) (by have := hb1.size; simp; omega) hb2
  clear hb1 hb2 hBv hBr
  go_wp2_with fail
  have HBv := hid hBv2
  have HBr := hid hBr2
  clear hBv2 hBr2
  refine (HD.out (w1.heap.size + 1) _ w2 (by omega) (HBr.out.cell 0) (HS.out.keep hd2)).mono ?_
  rintro e w3 ⟨rfl, hb3⟩
  have hBv3 := HBv.out.below hb3 (by omega)
  have hd3 := Below.lift hd2 hd2.size hb3
  have hz3 : w1.heap.size < w3.heap.size := by have := hb3.size; omega
  clear hd2 hb3 HBv HBr HD
  obtain ⟨q0, q1, q2, q3, q4, _⟩ := hBv3.cells5
  cases hu : (flatM ms).any unsure
  · clear hu
    go_wp2_with fail
    refine (doubtful_flat want _ H5.out).mono ?_
    rintro e w4 ⟨rfl, hb4⟩
    have hBv4 := hBv3.below hb4 hz3
    have hd4 := Below.lift hd3 hd3.size hb4
    have hz4 : w1.heap.size < w4.heap.size := by have := hb4.size; omega
    clear hd3 hb4 hBv3 q0 q1 q2 q3 q4 hz3
    obtain ⟨q0, q1, q2, q3, q4, _⟩ := hBv4.cells5
    rw [any_one]
    cases hx : unsure want
    · have h6 : want.1 ≠ 6 := by
        intro e6
        unfold unsure at hx
        rw [e6] at hx
        cases hx
      obtain ⟨r, hF, hav, hok, hfin, hsm, ham⟩ := HP.out want Hans.out h6
      have HF : Hid (∀ W v', SlM W (fun b => b < W.heap.size) 4 amCells 4 avCells v' (ms.map amOf) → Calls Tryz.prog 6 #[v'] W fun e w' => e = .returned (iv want.1 (fnum want) want.2.2.2) ∧ Below W.heap.size W w') := hid (fun W v' hs => by
        have := implM_MODE (ms.map amOf) r hF v' W hs ham (by rw [List.length_map]; exact hlen)
        rw [hav] at this
        exact this)
      have HW := hid hok
      have HFW := hid hfin
      have HL2 := hid (HL.out hsm)
      clear hF hav hok hfin hsm ham h6 hx HP HL
      go_wp2_with fail
      have HS4 := hid (HS.out.keep hd4)
      clear hBv4 HS
      go_region_held3 (fun w' => w'.cell? ⟨w1.heap.size, 0, none⟩ = some (.int .i64 want.1) ∧ w'.cell? ⟨w1.heap.size, 1, none⟩ = some (.int .i64 want.2.1) ∧ w'.cell? ⟨w1.heap.size, 2, none⟩ = some (.int .i64 want.2.2.1) ∧ w'.cell? ⟨w1.heap.size, 3, none⟩ = some (.string want.2.2.2) ∧ w'.cell? ⟨w1.heap.size, 4, none⟩ = some (.slice none 0 0))
        (first | exact ⟨(hk7.cell (p := ⟨w1.heap.size, 0, none⟩) hz4).trans q0, (hk7.cell (p := ⟨w1.heap.size, 1, none⟩) hz4).trans q1, (hk7.cell (p := ⟨w1.heap.size, 2, none⟩) hz4).trans q2, (hk7.cell (p := ⟨w1.heap.size, 3, none⟩) hz4).trans q3, (hk7.cell (p := ⟨w1.heap.size, 4, none⟩) hz4).trans q4⟩ | exact ⟨(hk6.cell (p := ⟨w1.heap.size, 0, none⟩) hz4).trans q0, (hk6.cell (p := ⟨w1.heap.size, 1, none⟩) hz4).trans q1, (hk6.cell (p := ⟨w1.heap.size, 2, none⟩) hz4).trans q2, (hk6.cell (p := ⟨w1.heap.size, 3, none⟩) hz4).trans q3, (hk6.cell (p := ⟨w1.heap.size, 4, none⟩) hz4).trans q4⟩ | exact ⟨(hk5.cell (p := ⟨w1.heap.size, 0, none⟩) hz4).trans q0, (hk5.cell (p := ⟨w1.heap.size, 1, none⟩) hz4).trans q1, (hk5.cell (p := ⟨w1.heap.size, 2, none⟩) hz4).trans q2, (hk5.cell (p := ⟨w1.heap.size, 3, none⟩) hz4).trans q3, (hk5.cell (p := ⟨w1.heap.size, 4, none⟩) hz4).trans q4⟩ | exact ⟨q0, q1, q2, q3, q4⟩)
        (first
          | (go_at_call 13; refine (HL2.out w4.drew (HS4.out.keep (Below.drew (Below.refl _ _)))).mono ?_; rintro e w5 ⟨v5, rfl, hS5, hb5⟩; have hk5 : Below w4.heap.size w4 w5 := (Below.drew (Below.refl _ _)).trans hb5)
          | (go_at_call 6; refine (HF.out _ _ (hS5.keep fun b hb => ⟨rfl, hb.2⟩)).mono ?_; rintro e w6 ⟨rfl, hb6⟩; have hk6 : Below w4.heap.size w4 w6 := Below.lift hk5 hk5.size hb6)
          | (go_at_call 12; refine (same_yes want _ HW.out HFW.out).mono ?_; rintro e w7 ⟨rfl, hb7⟩; have hk7 : Below w4.heap.size w4 w7 := Below.lift hk6 hk6.size hb7))
      all_goals
        go_wp2_with fail
        go_ret
        exact ⟨rfl, hd4.trans (hk7.mono hd4.size)⟩
    · clear hx
      go_wp2_with fail
      go_ret
      exact ⟨rfl, hd4⟩
  · clear hu
    go_wp2_with fail
    go_ret
    exact ⟨rfl, hd3⟩
end Go.Proofs.YtdanlcciefbboaaGreat
namespace Go.Proofs.YtdanlcciefbboaaGreat
open Go.RowKit
attribute [local go_sem] run_store_float

theorem tab_mem {its : List IT} {val : IT → SV} {c : Nat} {r : List SV} (h : r ∈ tab its val c) : r.length = c ∧ ∀ a ∈ r, (∃ x ∈ its, a = val x) ∨ a = (0, 0, 0, es) := by
  unfold tab at h
  obtain ⟨i, _, rfl⟩ := List.mem_map.1 h
  refine ⟨tabRow_len _ _ _ _, fun a ha => ?_⟩
  unfold tabRow at ha
  obtain ⟨k, _, rfl⟩ := List.mem_map.1 ha
  cases hx : its[i * c + k]? with
  | none => right; rfl
  | some x => left; exact ⟨x, List.mem_of_getElem? hx, rfl⟩
theorem flatten_len {α : Type} {c : Nat} : ∀ {rows : List (List α)}, (∀ r ∈ rows, r.length = c) → rows.flatten.length = rows.length * c
  | [], _ => by simp
  | r :: rows, h => by
    rw [List.flatten_cons, List.length_append, h r (by simp), flatten_len fun r' hr => h r' (by simp [hr]), List.length_cons, Nat.add_mul]; omega
theorem tabN_pos (n c : Nat) : 1 ≤ tabN n c := by
  unfold tabN
  split
  · omega
  · rename_i h; exact Nat.pos_of_ne_zero h
theorem tabN_le (n c : Nat) (hn : n ≤ 120) : tabN n c ≤ 120 := (tab_bound n c 0 hn (tabN_pos n c)).2

section
variable {its ms : List IT} {c : Nat}
theorem withArgs_mem {m : SM} (h : m ∈ withArgs its ms c) : m = ((5, 0, 0, es), tab its ival c) ∨ ∃ a ∈ ms, m = (ival a, []) := by
  unfold withArgs at h
  rcases List.mem_cons.1 h with h | h
  · exact .inl h
  · obtain ⟨a, ha, rfl⟩ := List.mem_map.1 h
    exact .inr ⟨a, List.mem_of_mem_take ha, rfl⟩
theorem withArgs_len : (withArgs its ms c).length ≤ 11 := by
  unfold withArgs
  rw [List.length_cons, List.length_map, List.length_take]; omega
theorem valG.ne5 {a : SV} (h : valG a) : a.1 ≠ 5 := by
  rcases h with h | h | h | h
  · rw [h.1]; decide
  · omega
  · omega
  · omega
theorem valG_empty : valG (0, 0, 0, es) := .inr (.inr (.inl (.inl rfl)))
theorem flatM_with (hM : ∀ a ∈ ms, valG (ival a)) : flatM (withArgs its ms c) = (tab its ival c).flatten ++ (ms.take 10).map ival := by
  unfold flatM withArgs
  rw [List.flatMap_cons, if_pos rfl]
  congr 1
  rw [List.flatMap_map]
  have : ∀ l : List IT, (∀ a ∈ l, valG (ival a)) → (l.flatMap fun a => if ((ival a, ([] : List (List SV))) : SM).1.1 = 5 then ((ival a, ([] : List (List SV))) : SM).2.flatten else [((ival a, ([] : List (List SV))) : SM).1]) = l.map ival := by
    intro l
    induction l with
    | nil => intro _; rfl
    | cons a l ih =>
      intro h
      rw [List.flatMap_cons, List.map_cons, if_neg (h a (by simp)).ne5, ih fun x hx => h x (by simp [hx])]
      rfl
  exact this _ fun a ha => hM a (List.mem_of_mem_take ha)
theorem with_flat_mem (hM : ∀ a ∈ ms, valG (ival a)) {a : SV} (h : a ∈ flatM (withArgs its ms c)) : (∃ x ∈ its, a = ival x) ∨ (∃ x ∈ ms, a = ival x) ∨ a = (0, 0, 0, es) := by
  rw [flatM_with hM] at h
  rcases List.mem_append.1 h with h | h
  · obtain ⟨r, hr, ha⟩ := List.mem_flatten.1 h
    rcases (tab_mem hr).2 a ha with h | h
    · exact .inl h
    · exact .inr (.inr h)
  · obtain ⟨x, hx, rfl⟩ := List.mem_map.1 h
    exact .inr (.inl ⟨x, List.mem_of_mem_take hx, rfl⟩)

theorem ival_text (a : IT) (h : a.2.2.size ≤ 2147483647) : (ival a).2.2.2.size ≤ 2147483647 := by
  have h0 : es.size ≤ 2147483647 := by decide
  have hf : ∀ n, (fr4 n).2.2.2 = es := fun n => by
    unfold fr4
    dsimp only
    by_cases h2 : n % 2 ≠ 0
    · rw [if_pos h2]; split <;> rfl
    · rw [if_neg h2]
      by_cases h4 : n % 4 ≠ 0
      · rw [if_pos h4]; split <;> rfl
      · rw [if_neg h4]; split <;> rfl
  unfold ival
  split
  · split <;> exact h0
  split
  · rw [hf]; exact h0
  split
  · exact h
  split
  · exact h0
  split
  · show (errS (a.2.1 % 7)).size ≤ 2147483647
    unfold errS
    split
    · decide
    split
    · decide
    split
    · decide
    split
    · decide
    split
    · decide
    split <;> decide
  · exact h0

theorem asked_with (hc : 1 ≤ c ∧ c ≤ 6) (hn : its.length ≤ 120) (hG : ∀ a ∈ its, valG (ival a)) (hM : ∀ a ∈ ms, valG (ival a)) :
    Asked (withArgs its ms c) ∧ Shaped (withArgs its ms c) ∧ 0 < (flatM (withArgs its ms c)).length := by
  have hrow : ∀ r ∈ tab its ival c, r.length = c := fun r hr => (tab_mem hr).1
  have hfl : (tab its ival c).flatten.length = tabN its.length c * c := by rw [flatten_len hrow, tab_len]
  have hN := tabN_le its.length c hn
  have hN1 := tabN_pos its.length c
  have hb1 : tabN its.length c * c ≤ 120 * 6 := Nat.mul_le_mul hN hc.2
  have hb2 : 1 * 1 ≤ tabN its.length c * c := Nat.mul_le_mul hN1 hc.1
  have htot : (flatM (withArgs its ms c)).length ≤ 730 := by
    rw [flatM_with hM, List.length_append, hfl, List.length_map, List.length_take]; omega
  have hpos : 0 < (flatM (withArgs its ms c)).length := by
    rw [flatM_with hM, List.length_append, hfl]; omega
  have hl := withArgs_len (its := its) (ms := ms) (c := c)
  have hgood : ∀ a ∈ flatM (withArgs its ms c), valG a := fun a ha => by
    rcases with_flat_mem hM ha with ⟨x, hx, rfl⟩ | ⟨x, hx, rfl⟩ | rfl
    · exact hG x hx
    · exact hM x hx
    · exact valG_empty
  have hrne : ∀ r ∈ tab its ival c, r ≠ [] ∧ r.length ≤ 1000 ∧ ∀ a ∈ r, a.1 ≠ 5 := fun r hr => by
    have h1 := hrow r hr
    refine ⟨fun e => by rw [e] at h1; simp at h1; omega, by omega, fun a ha => ?_⟩
    rcases (tab_mem hr).2 a ha with ⟨x, hx, rfl⟩ | rfl
    · exact (hG x hx).ne5
    · decide
  refine ⟨⟨fun m hm => ?_, by omega, by unfold withArgs; simp, fun m hm => ?_, by omega, hgood⟩, ⟨by unfold withArgs; simp, by omega, fun m hm h5 => ?_, fun m hm h5 => ?_, by omega⟩, hpos⟩
  · rcases withArgs_mem hm with rfl | ⟨a, ha, rfl⟩
    · exact .inr ⟨rfl, hrne⟩
    · exact .inl ⟨(hM a ha).ne5, rfl⟩
  · rcases withArgs_mem hm with rfl | ⟨a, ha, rfl⟩
    · show (tab its ival c).length ≤ 1000
      rw [tab_len]; omega
    · exact Nat.zero_le _
  · rcases withArgs_mem hm with rfl | ⟨a, ha, rfl⟩
    · refine ⟨fun e => ?_, fun r hr => (hrne r hr).1, ?_, ?_⟩
      · have : (tab its ival c).length = 0 := by rw [show tab its ival c = [] from e]; rfl
        rw [tab_len] at this; omega
      · show (tab its ival c).length ≤ 1000
        rw [tab_len]; omega
      · show (tab its ival c).flatten.length ≤ 1000
        rw [hfl]; omega
    · exact absurd h5 (hM a ha).ne5
  · rcases withArgs_mem hm with rfl | ⟨a, ha, rfl⟩
    · exact absurd rfl h5
    · rfl
end

theorem take_cells {α : Type} (f : α → List Value) (l : List α) (k j : Nat) (u : Value) (h : ((l.take k).flatMap f)[j]? = some u) : (l.flatMap f)[j]? = some u := by
  have e : l.flatMap f = (l.take k).flatMap f ++ (l.drop k).flatMap f := by rw [← List.flatMap_append, List.take_append_drop]
  rw [e, List.getElem?_append_left (List.getElem?_eq_some_iff.1 h).1]
  exact h

set_option maxRecDepth 100000 in
set_option maxHeartbeats 1000000 in
/-- the law FnMode answers true -/
theorem law_FnMode (l more : List IT) (cols : Int) (A1 A2 : Option Addr) (c1 c2 : Nat) (w : World) (hc1 : l.length ≤ c1)
    (h1 : Sl w w.heap.size 3 (.slice A1 l.length c1) l.length (l.flatMap itCells)) (h2 : Sl w w.heap.size 3 (.slice A2 more.length c2) more.length (more.flatMap itCells)) :
    Calls Tryz.prog 3 #[.slice A1 l.length c1, .int .i64 cols, .slice A2 more.length c2] w fun e w' => e = .returned (.bool true) ∧ Below w.heap.size w w' := by
  obtain ⟨c, hc⟩ : ∃ c : Nat, 1 + cols % 6 = (c : Int) := ⟨(1 + cols % 6).toNat, by omega⟩
  have hc6 : 1 ≤ c ∧ c ≤ 6 := by omega
  have hil : (l.take 120).length ≤ 120 := by rw [List.length_take]; omega
  have HF1 := hid (zzFits1_any l _ w h1)
  have HF2 := hid (fun wx (hb : Below w.heap.size w wx) => zzFits1_any more _ wx ((h2.keep hb).more hb.size))
  have HWi := hid (fun (hm : more.length ≤ 2147483647) wx (hb : Below w.heap.size w wx) => with_any (l.take 120) more cols c hc l.length (by rw [List.length_take]; omega) A1 c1 hc1 wx
    (fun h0 => by
      obtain ⟨A', c', hv, _, hcl⟩ := (h1.keep hb).more hb.size
      injection hv with e1 _ _
      subst e1
      obtain ⟨b, o, hA, hbB, hcell⟩ := hcl (by rw [List.length_take] at h0; omega)
      exact ⟨b, o, hA, hbB, fun j u hu => hcell j u (take_cells itCells l 120 j u hu)⟩)
    _ ((h2.keep hb).more hb.size) hm)
  have HAg := hid (fun (hx1 : ∀ a ∈ l, a.2.2.size ≤ 2147483647) (hx2 : ∀ a ∈ more, a.2.2.size ≤ 2147483647) (A : Option Addr) (cc : Nat) (wx : World) (hx : ArgsM wx (withArgs (l.take 120) more c) A cc) (h5 : First5 wx (.slice A (withArgs (l.take 120) more c).length cc)) => by
    have hG : ∀ a ∈ l.take 120, valG (ival a) := fun a ha => ival_good a (hx1 a (List.mem_of_mem_take ha))
    have hM : ∀ a ∈ more, valG (ival a) := fun a ha => ival_good a (hx2 a ha)
    obtain ⟨hA, hS, hpos⟩ := asked_with (c := c) hc6 hil hG hM
    exact agrees_MODE _ hA hS (fun a ha => by
      rcases with_flat_mem hM ha with ⟨x, hx, rfl⟩ | ⟨x, hx, rfl⟩ | rfl
      · exact ival_text x (hx1 x (List.mem_of_mem_take hx))
      · exact ival_text x (hx2 x hx)
      · decide) A cc wx hx h5 hpos)
  clear h1 h2 hil hc hc6 hc1
  go_enter Tryz.func3, Tryz.ntmps3
  go_wp2_with fail
  refine HF1.out.mono ?_
  rintro e w1 ⟨b1, rfl, hz1, hb1⟩
  have HZ1 := hid hz1
  clear hz1
  cases b1
  · go_wp2_with fail
    go_ret
    exact ⟨rfl, hb1⟩
  · go_wp2_with fail
    refine (HF2.out w1 hb1).mono ?_
    rintro e w2 ⟨b2, rfl, hz2, hb2⟩
    have HZ2 := hid hz2
    have hd2 := Below.lift hb1 hb1.size hb2
    clear hz2 hb1 hb2
    cases b2
    · go_wp2_with fail
      go_ret
      exact ⟨rfl, hd2⟩
    · go_wp2_with fail
      refine (HWi.out (HZ2.out (by first | rfl | trivial)).1 w2 hd2).mono ?_
      rintro e w3 ⟨A', c', rfl, hcap, hSl, hF5, hb3⟩
      have HA := hid (show ArgsM w3 (withArgs (l.take 120) more c) A' c' from ⟨hcap, hSl.keep fun b hb => ⟨rfl, hb.2⟩⟩)
      have HF5 := hid hF5
      have hd3 := Below.lift hd2 hd2.size hb3
      clear hcap hSl hF5 hd2 hb3
      have HAg2 := hid (HAg.out (HZ1.out (by first | rfl | trivial)).2 (HZ2.out (by first | rfl | trivial)).2 A' c' w3 HA.out HF5.out)
      clear HAg HA HF5 HWi HF1 HF2 HZ1 HZ2
      generalize (withArgs (l.take 120) more c).length = n at *
      go_wp2_with fail
      refine HAg2.out.mono ?_
      rintro e w4 ⟨rfl, hb4⟩
      go_wp2_with fail
      go_ret
      exact ⟨rfl, Below.lift hd3 hd3.size hb4⟩
end Go.Proofs.YtdanlcciefbboaaGreat
namespace Go.Proofs.YtdanlcciefbboaaGreat
open Go.RowKit Go.Deep

theorem axiom_pick {α : Type} {n : Nat} {P : Nat → α → Prop} (d : α) (h : ∀ i, i < n → ∃ p, P i p) : ∃ f : Nat → α, ∀ i, i < n → P i (f i) := by
  have : ∀ i, ∃ p, i < n → P i p := fun i => by
    by_cases hi : i < n
    · obtain ⟨p, hp⟩ := h i hi
      exact ⟨p, fun _ => hp⟩
    · exact ⟨d, fun h => absurd h hi⟩
  exact Classical.axiomOfChoice this

set_option maxRecDepth 100000 in
/-- a slice of cells that came in -/
theorem open_items {H : Type} {enc : TypeId × Value → H} {W : World} {spare : Nat → Bool} {held : Bool} {fuel : Nat} {x : DataW H × List MemPlace} {a0 : Option Addr} {len cap : Nat}
    (h : DataW.trod enc Tryz.prog W 0 spare held fuel 22 [.slice a0 len cap] = some x) :
    ∃ its : List IT, len = its.length ∧ its.length ≤ cap ∧ Sl W W.heap.size 3 (.slice a0 its.length cap) its.length (its.flatMap itCells) := by
  have hci : Tryz.prog.cellsOf 3 = 1 := by kernel_rfl
  have hcs1 : Tryz.prog.cellsOf 9 = 1 := by kernel_rfl
  have hc3 : Tryz.prog.cellsOf 30 = 3 := by kernel_rfl
  rcases open_slice Tryz.underlying22 h with ⟨hcs, _⟩ | ⟨a, len', cap', m, n, D, Pl, hcs, _, hl, _, hmm, _, hel⟩
  · simp at hcs
    obtain ⟨rfl, rfl, rfl⟩ := hcs
    exact ⟨[], rfl, Nat.zero_le _, none, 0, rfl, rfl, fun h => absurd h (by simp)⟩
  · simp at hcs
    obtain ⟨rfl, rfl, rfl⟩ := hcs
    have hlm : len ≤ m := by rw [hmm]; split <;> omega
    have hp : ∀ i, i < len → ∃ p : IT, ∀ r, r < 3 → W.cell? ((a.add (i * 3)).add r) = (itCells p)[r]? := fun i hi => by
      obtain ⟨cs', h1, h2⟩ := hel i (by omega)
      rw [hc3] at h1
      obtain ⟨_, hlen, hcell⟩ := World.cells?_some h1
      obtain ⟨y0, y1, y2, k, _, _, e0, e1, e2⟩ := trod_struct3 Tryz.underlying30 h2
      obtain ⟨n0, g0, _, _⟩ := DataW.trod_int Tryz.underlying3 e0
      obtain ⟨n1, g1, _, _⟩ := DataW.trod_int Tryz.underlying3 e1
      obtain ⟨s2, g2, _, _⟩ := DataW.trod_string Tryz.underlying9 e2
      match cs', hlen with
      | [v0, v1, v2], _ =>
        dsimp only at g0 g1 g2
        rw [hci] at g0 g1
        rw [hcs1] at g2
        simp at g0 g1 g2
        subst g0; subst g1; subst g2
        refine ⟨(n0, n1, s2), fun r hr => (hcell r hr).trans ?_⟩
        match r, hr with
        | 0, _ => rfl
        | 1, _ => rfl
        | 2, _ => rfl
    obtain ⟨f, hf⟩ := axiom_pick (0, 0, es) hp
    have hil : ((List.range len).map f).length = len := by simp
    refine ⟨(List.range len).map f, hil.symm, by omega, some a, cap, rfl, flat_len itCells 3 itCells_len _, fun h0 => ?_⟩
    rw [hil] at h0
    have hc0 := hf 0 h0 0 (by omega)
    have hsp : a.spot = none := by
      have := World.cell?_spot (w := W) (a := (a.add (0 * 3)).add 0) (v := .int .i64 (f 0).1) hc0
      simpa [Addr.add] using this
    obtain ⟨b, o, sp⟩ := a
    dsimp only at hsp
    subst hsp
    have hblt : b < W.heap.size := by
      have h1 : W.cell? ⟨b, o, none⟩ = (itCells (f 0))[0]? := by simpa [Addr.add] using hc0
      exact block_lt_of_cell (a := ⟨b, o, none⟩) (h1.trans rfl)
    refine ⟨b, o, rfl, hblt, fun j u hu => ?_⟩
    have hj : j < len * 3 := by
      have := (List.getElem?_eq_some_iff.1 hu).1
      rw [flat_len itCells 3 itCells_len, hil] at this
      exact this
    have hji : j / 3 < len := by omega
    have hjr : j % 3 < 3 := Nat.mod_lt _ (by omega)
    have hjj : j / 3 * 3 + j % 3 = j := by omega
    have hat := flat_at itCells 3 itCells_len ((List.range len).map f) (j / 3) (f (j / 3)) (j % 3) (by rw [List.getElem?_map, List.getElem?_range hji]; rfl) hjr
    rw [hjj] at hat
    have := hf (j / 3) hji (j % 3) hjr
    rw [add_mid, add_mid, Nat.add_assoc, hjj] at this
    rw [this, ← hat, hu]
end Go.Proofs.YtdanlcciefbboaaGreat
