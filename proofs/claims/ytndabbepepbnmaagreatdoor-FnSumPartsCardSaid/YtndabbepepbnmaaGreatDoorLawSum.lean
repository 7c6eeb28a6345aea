import Derived.Test.YtndabbepepbnmaaGreatDoorSumA
import Derived.Test.YtndabbepepbnmaaGreatDoorSameM
namespace Go.Proofs.YtndabbepepbnmaaGreatDoor
open Go.RowKit
attribute [local go_sem] run_store_float

/-- another block's five cells are written anew -/
theorem Bk.by5 {w : World} {g q : Nat} {t : TypeId} {cs : Array Value} (h : Bk w g t cs) (hne : g ≠ q) (b0 b1 b2 b3 b4 : Value) :
    Bk (((((w.setCell ⟨q, 0, none⟩ b0).setCell ⟨q, 1, none⟩ b1).setCell ⟨q, 2, none⟩ b2).setCell ⟨q, 3, none⟩ b3).setCell ⟨q, 4, none⟩ b4) g t cs :=
  ((((h.far hne b0).far hne b1).far hne b2).far hne b3).far hne b4
abbrev colA (s : Value) : Array Value := #[.int .i64 5, .int .i64 0, .int .i64 0, .string es, s]
/-- one column's sum, asked for -/
theorem ask_col (zs : List Int) (hne : zs ≠ []) (hl : zs.length ≤ 120) (hz : ∀ z ∈ zs, -9999 ≤ z ∧ z ≤ 9999) (s : Value) (g : Nat) (w : World) (h : Bk w g 24 (colA s)) (hr : Rws w w.heap.size 5 svCells s (colRows zs)) :
    Calls Tryz.prog 31 #[.func (.func 32) #[] #[], .slice (some ⟨g, 0, none⟩) 1 1] w fun e w' => e = .returned (avV (1, enc zs.sum 0, es)) ∧ Below w.heap.size w w' := by
  have hF := SUM_cols [zs] (by simpa using hne) (by simpa using hl) (fun ys hy z hm => by obtain rfl := List.mem_singleton.1 hy; have := hz z hm; omega) (by simp; omega)
  rw [show [zs].flatten = zs by simp] at hF
  exact ask_SUM [colM zs] _ hF _ w (lit_col h hr) (fun m hm => by obtain rfl := List.mem_singleton.1 hm; exact colM_ok zs hl (fun z hm => by have := hz z hm; omega)) (fun m hm => by obtain rfl := List.mem_singleton.1 hm; exact colM_ok2 zs hne hl (fun z hm => by have := hz z hm; omega)) (by simp)
theorem ask_two (zs ys : List Int) (hne : zs ≠ []) (hne' : ys ≠ []) (hl : zs.length ≤ 120) (hl' : ys.length ≤ 120) (hz : ∀ z ∈ zs, -9999 ≤ z ∧ z ≤ 9999) (hy : ∀ z ∈ ys, -9999 ≤ z ∧ z ≤ 9999) (s s' : Value) (g : Nat) (w : World)
    (h : Bk w g 24 #[.int .i64 5, .int .i64 0, .int .i64 0, .string es, s, .int .i64 5, .int .i64 0, .int .i64 0, .string es, s']) (hr : Rws w w.heap.size 5 svCells s (colRows zs)) (hr' : Rws w w.heap.size 5 svCells s' (colRows ys)) :
    (Calls Tryz.prog 31 #[.func (.func 32) #[] #[], .slice (some ⟨g, 0, none⟩) 2 2] w fun e w' => e = .returned (avV (1, enc (zs ++ ys).sum 0, es)) ∧ Below w.heap.size w w') ∧
    (Calls Tryz.prog 31 #[.func (.func 34) #[] #[], .slice (some ⟨g, 0, none⟩) 2 2] w fun e w' => e = .returned (avV (1, enc ((zs ++ ys).length : Int) 0, es)) ∧ Below w.heap.size w w') := by
  have h0 : ∀ xs ∈ [zs, ys], xs ≠ [] := fun xs hx => by simp at hx; rcases hx with rfl | rfl <;> assumption
  have h1 : ∀ xs ∈ [zs, ys], xs.length ≤ 120 := fun xs hx => by simp at hx; rcases hx with rfl | rfl <;> assumption
  have h2 : ∀ xs ∈ [zs, ys], ∀ z ∈ xs, z.natAbs ≤ 10000 := fun xs hx z hm => by
    simp at hx
    rcases hx with rfl | rfl
    · have := hz z hm; omega
    · have := hy z hm; omega
  have hfl : [zs, ys].flatten = zs ++ ys := by simp
  have hF := SUM_cols [zs, ys] h0 h1 h2 (by rw [hfl, List.length_append]; omega)
  have hC := COUNT_cols [zs, ys] h0 h1 h2 (by rw [hfl, List.length_append]; omega)
  rw [hfl] at hF hC
  have hok : ∀ m ∈ [colM zs, colM ys], smOk m := fun m hm => by
    simp at hm
    rcases hm with rfl | rfl
    · exact colM_ok zs hl (fun z hm => by have := hz z hm; omega)
    · exact colM_ok ys hl' (fun z hm => by have := hy z hm; omega)
  have hok2 : ∀ m ∈ [colM zs, colM ys], amOk (amOf m) := fun m hm => by
    simp at hm
    rcases hm with rfl | rfl
    · exact colM_ok2 zs hne hl (fun z hm => by have := hz z hm; omega)
    · exact colM_ok2 ys hne' hl' (fun z hm => by have := hy z hm; omega)
  exact ⟨ask_SUM [colM zs, colM ys] _ hF _ w (lit_cols h hr hr') hok hok2 (by simp), ask_COUNT [colM zs, colM ys] _ hC _ w (lit_cols h hr hr') hok hok2 (by simp)⟩

theorem three_cols {w1 wx : World} {ga gb gc : Nat} {sa sb sc : Value} {zs ys xs : List Int} (ha : Bk wx ga 24 #[.int .i64 0, .int .i64 0, .int .i64 0, .string ⟨#[]⟩, .slice none 0 0]) (hb : Bk wx gb 24 #[.int .i64 0, .int .i64 0, .int .i64 0, .string ⟨#[]⟩, .slice none 0 0]) (hc : Bk wx gc 24 #[.int .i64 0, .int .i64 0, .int .i64 0, .string ⟨#[]⟩, .slice none 0 0])
    (hab : ga ≠ gb) (hac : ga ≠ gc) (hbc : gb ≠ gc) (la : w1.heap.size ≤ ga) (lb : w1.heap.size ≤ gb) (lc : w1.heap.size ≤ gc) (hw : Below w1.heap.size w1 wx)
    (ra : RwP wx (fun b => w1.heap.size ≤ b ∧ b < wx.heap.size ∧ b ≠ ga ∧ b ≠ gb ∧ b ≠ gc) 5 svCells sa (colRows zs)) (rb : RwP wx (fun b => w1.heap.size ≤ b ∧ b < wx.heap.size ∧ b ≠ ga ∧ b ≠ gb ∧ b ≠ gc) 5 svCells sb (colRows ys)) (rc : RwP wx (fun b => w1.heap.size ≤ b ∧ b < wx.heap.size ∧ b ≠ ga ∧ b ≠ gb ∧ b ≠ gc) 5 svCells sc (colRows xs)) :
    Bk (((((((((((((((wx.setCell ⟨ga, 0, none⟩ (.int .i64 5)).setCell ⟨ga, 1, none⟩ (.int .i64 0)).setCell ⟨ga, 2, none⟩ (.int .i64 0)).setCell ⟨ga, 3, none⟩ (.string es)).setCell ⟨ga, 4, none⟩ (sa)).setCell ⟨gb, 0, none⟩ (.int .i64 5)).setCell ⟨gb, 1, none⟩ (.int .i64 0)).setCell ⟨gb, 2, none⟩ (.int .i64 0)).setCell ⟨gb, 3, none⟩ (.string es)).setCell ⟨gb, 4, none⟩ (sb)).setCell ⟨gc, 0, none⟩ (.int .i64 5)).setCell ⟨gc, 1, none⟩ (.int .i64 0)).setCell ⟨gc, 2, none⟩ (.int .i64 0)).setCell ⟨gc, 3, none⟩ (.string es)).setCell ⟨gc, 4, none⟩ (sc)) ga 24 (colA sa) ∧ Bk (((((((((((((((wx.setCell ⟨ga, 0, none⟩ (.int .i64 5)).setCell ⟨ga, 1, none⟩ (.int .i64 0)).setCell ⟨ga, 2, none⟩ (.int .i64 0)).setCell ⟨ga, 3, none⟩ (.string es)).setCell ⟨ga, 4, none⟩ (sa)).setCell ⟨gb, 0, none⟩ (.int .i64 5)).setCell ⟨gb, 1, none⟩ (.int .i64 0)).setCell ⟨gb, 2, none⟩ (.int .i64 0)).setCell ⟨gb, 3, none⟩ (.string es)).setCell ⟨gb, 4, none⟩ (sb)).setCell ⟨gc, 0, none⟩ (.int .i64 5)).setCell ⟨gc, 1, none⟩ (.int .i64 0)).setCell ⟨gc, 2, none⟩ (.int .i64 0)).setCell ⟨gc, 3, none⟩ (.string es)).setCell ⟨gc, 4, none⟩ (sc)) gb 24 (colA sb) ∧ Bk (((((((((((((((wx.setCell ⟨ga, 0, none⟩ (.int .i64 5)).setCell ⟨ga, 1, none⟩ (.int .i64 0)).setCell ⟨ga, 2, none⟩ (.int .i64 0)).setCell ⟨ga, 3, none⟩ (.string es)).setCell ⟨ga, 4, none⟩ (sa)).setCell ⟨gb, 0, none⟩ (.int .i64 5)).setCell ⟨gb, 1, none⟩ (.int .i64 0)).setCell ⟨gb, 2, none⟩ (.int .i64 0)).setCell ⟨gb, 3, none⟩ (.string es)).setCell ⟨gb, 4, none⟩ (sb)).setCell ⟨gc, 0, none⟩ (.int .i64 5)).setCell ⟨gc, 1, none⟩ (.int .i64 0)).setCell ⟨gc, 2, none⟩ (.int .i64 0)).setCell ⟨gc, 3, none⟩ (.string es)).setCell ⟨gc, 4, none⟩ (sc)) gc 24 (colA sc) ∧ Below w1.heap.size w1 (((((((((((((((wx.setCell ⟨ga, 0, none⟩ (.int .i64 5)).setCell ⟨ga, 1, none⟩ (.int .i64 0)).setCell ⟨ga, 2, none⟩ (.int .i64 0)).setCell ⟨ga, 3, none⟩ (.string es)).setCell ⟨ga, 4, none⟩ (sa)).setCell ⟨gb, 0, none⟩ (.int .i64 5)).setCell ⟨gb, 1, none⟩ (.int .i64 0)).setCell ⟨gb, 2, none⟩ (.int .i64 0)).setCell ⟨gb, 3, none⟩ (.string es)).setCell ⟨gb, 4, none⟩ (sb)).setCell ⟨gc, 0, none⟩ (.int .i64 5)).setCell ⟨gc, 1, none⟩ (.int .i64 0)).setCell ⟨gc, 2, none⟩ (.int .i64 0)).setCell ⟨gc, 3, none⟩ (.string es)).setCell ⟨gc, 4, none⟩ (sc)) ∧
      Hid (Rws (((((((((((((((wx.setCell ⟨ga, 0, none⟩ (.int .i64 5)).setCell ⟨ga, 1, none⟩ (.int .i64 0)).setCell ⟨ga, 2, none⟩ (.int .i64 0)).setCell ⟨ga, 3, none⟩ (.string es)).setCell ⟨ga, 4, none⟩ (sa)).setCell ⟨gb, 0, none⟩ (.int .i64 5)).setCell ⟨gb, 1, none⟩ (.int .i64 0)).setCell ⟨gb, 2, none⟩ (.int .i64 0)).setCell ⟨gb, 3, none⟩ (.string es)).setCell ⟨gb, 4, none⟩ (sb)).setCell ⟨gc, 0, none⟩ (.int .i64 5)).setCell ⟨gc, 1, none⟩ (.int .i64 0)).setCell ⟨gc, 2, none⟩ (.int .i64 0)).setCell ⟨gc, 3, none⟩ (.string es)).setCell ⟨gc, 4, none⟩ (sc)) (((((((((((((((wx.setCell ⟨ga, 0, none⟩ (.int .i64 5)).setCell ⟨ga, 1, none⟩ (.int .i64 0)).setCell ⟨ga, 2, none⟩ (.int .i64 0)).setCell ⟨ga, 3, none⟩ (.string es)).setCell ⟨ga, 4, none⟩ (sa)).setCell ⟨gb, 0, none⟩ (.int .i64 5)).setCell ⟨gb, 1, none⟩ (.int .i64 0)).setCell ⟨gb, 2, none⟩ (.int .i64 0)).setCell ⟨gb, 3, none⟩ (.string es)).setCell ⟨gb, 4, none⟩ (sb)).setCell ⟨gc, 0, none⟩ (.int .i64 5)).setCell ⟨gc, 1, none⟩ (.int .i64 0)).setCell ⟨gc, 2, none⟩ (.int .i64 0)).setCell ⟨gc, 3, none⟩ (.string es)).setCell ⟨gc, 4, none⟩ (sc)).heap.size 5 svCells sa (colRows zs) ∧ Rws (((((((((((((((wx.setCell ⟨ga, 0, none⟩ (.int .i64 5)).setCell ⟨ga, 1, none⟩ (.int .i64 0)).setCell ⟨ga, 2, none⟩ (.int .i64 0)).setCell ⟨ga, 3, none⟩ (.string es)).setCell ⟨ga, 4, none⟩ (sa)).setCell ⟨gb, 0, none⟩ (.int .i64 5)).setCell ⟨gb, 1, none⟩ (.int .i64 0)).setCell ⟨gb, 2, none⟩ (.int .i64 0)).setCell ⟨gb, 3, none⟩ (.string es)).setCell ⟨gb, 4, none⟩ (sb)).setCell ⟨gc, 0, none⟩ (.int .i64 5)).setCell ⟨gc, 1, none⟩ (.int .i64 0)).setCell ⟨gc, 2, none⟩ (.int .i64 0)).setCell ⟨gc, 3, none⟩ (.string es)).setCell ⟨gc, 4, none⟩ (sc)) (((((((((((((((wx.setCell ⟨ga, 0, none⟩ (.int .i64 5)).setCell ⟨ga, 1, none⟩ (.int .i64 0)).setCell ⟨ga, 2, none⟩ (.int .i64 0)).setCell ⟨ga, 3, none⟩ (.string es)).setCell ⟨ga, 4, none⟩ (sa)).setCell ⟨gb, 0, none⟩ (.int .i64 5)).setCell ⟨gb, 1, none⟩ (.int .i64 0)).setCell ⟨gb, 2, none⟩ (.int .i64 0)).setCell ⟨gb, 3, none⟩ (.string es)).setCell ⟨gb, 4, none⟩ (sb)).setCell ⟨gc, 0, none⟩ (.int .i64 5)).setCell ⟨gc, 1, none⟩ (.int .i64 0)).setCell ⟨gc, 2, none⟩ (.int .i64 0)).setCell ⟨gc, 3, none⟩ (.string es)).setCell ⟨gc, 4, none⟩ (sc)).heap.size 5 svCells sb (colRows ys) ∧ Rws (((((((((((((((wx.setCell ⟨ga, 0, none⟩ (.int .i64 5)).setCell ⟨ga, 1, none⟩ (.int .i64 0)).setCell ⟨ga, 2, none⟩ (.int .i64 0)).setCell ⟨ga, 3, none⟩ (.string es)).setCell ⟨ga, 4, none⟩ (sa)).setCell ⟨gb, 0, none⟩ (.int .i64 5)).setCell ⟨gb, 1, none⟩ (.int .i64 0)).setCell ⟨gb, 2, none⟩ (.int .i64 0)).setCell ⟨gb, 3, none⟩ (.string es)).setCell ⟨gb, 4, none⟩ (sb)).setCell ⟨gc, 0, none⟩ (.int .i64 5)).setCell ⟨gc, 1, none⟩ (.int .i64 0)).setCell ⟨gc, 2, none⟩ (.int .i64 0)).setCell ⟨gc, 3, none⟩ (.string es)).setCell ⟨gc, 4, none⟩ (sc)) (((((((((((((((wx.setCell ⟨ga, 0, none⟩ (.int .i64 5)).setCell ⟨ga, 1, none⟩ (.int .i64 0)).setCell ⟨ga, 2, none⟩ (.int .i64 0)).setCell ⟨ga, 3, none⟩ (.string es)).setCell ⟨ga, 4, none⟩ (sa)).setCell ⟨gb, 0, none⟩ (.int .i64 5)).setCell ⟨gb, 1, none⟩ (.int .i64 0)).setCell ⟨gb, 2, none⟩ (.int .i64 0)).setCell ⟨gb, 3, none⟩ (.string es)).setCell ⟨gb, 4, none⟩ (sb)).setCell ⟨gc, 0, none⟩ (.int .i64 5)).setCell ⟨gc, 1, none⟩ (.int .i64 0)).setCell ⟨gc, 2, none⟩ (.int .i64 0)).setCell ⟨gc, 3, none⟩ (.string es)).setCell ⟨gc, 4, none⟩ (sc)).heap.size 5 svCells sc (colRows xs)) := by
  have hk : ∀ b, (w1.heap.size ≤ b ∧ b < wx.heap.size ∧ b ≠ ga ∧ b ≠ gb ∧ b ≠ gc) → (((((((((((((((wx.setCell ⟨ga, 0, none⟩ (.int .i64 5)).setCell ⟨ga, 1, none⟩ (.int .i64 0)).setCell ⟨ga, 2, none⟩ (.int .i64 0)).setCell ⟨ga, 3, none⟩ (.string es)).setCell ⟨ga, 4, none⟩ (sa)).setCell ⟨gb, 0, none⟩ (.int .i64 5)).setCell ⟨gb, 1, none⟩ (.int .i64 0)).setCell ⟨gb, 2, none⟩ (.int .i64 0)).setCell ⟨gb, 3, none⟩ (.string es)).setCell ⟨gb, 4, none⟩ (sb)).setCell ⟨gc, 0, none⟩ (.int .i64 5)).setCell ⟨gc, 1, none⟩ (.int .i64 0)).setCell ⟨gc, 2, none⟩ (.int .i64 0)).setCell ⟨gc, 3, none⟩ (.string es)).setCell ⟨gc, 4, none⟩ (sc)).heap[b]? = wx.heap[b]? ∧ b < (((((((((((((((wx.setCell ⟨ga, 0, none⟩ (.int .i64 5)).setCell ⟨ga, 1, none⟩ (.int .i64 0)).setCell ⟨ga, 2, none⟩ (.int .i64 0)).setCell ⟨ga, 3, none⟩ (.string es)).setCell ⟨ga, 4, none⟩ (sa)).setCell ⟨gb, 0, none⟩ (.int .i64 5)).setCell ⟨gb, 1, none⟩ (.int .i64 0)).setCell ⟨gb, 2, none⟩ (.int .i64 0)).setCell ⟨gb, 3, none⟩ (.string es)).setCell ⟨gb, 4, none⟩ (sb)).setCell ⟨gc, 0, none⟩ (.int .i64 5)).setCell ⟨gc, 1, none⟩ (.int .i64 0)).setCell ⟨gc, 2, none⟩ (.int .i64 0)).setCell ⟨gc, 3, none⟩ (.string es)).setCell ⟨gc, 4, none⟩ (sc)).heap.size := fun b h => ⟨by rw [heap_set5 _ h.2.2.2.2, heap_set5 _ h.2.2.2.1, heap_set5 _ h.2.2.1], by simpa [World.setCell] using h.2.1⟩
  exact ⟨((Bk.set5 ha _ _ _ _ _).by5 hab _ _ _ _ _).by5 hac _ _ _ _ _, (Bk.set5 (hb.by5 (Ne.symm hab) _ _ _ _ _) _ _ _ _ _).by5 hbc _ _ _ _ _, Bk.set5 ((hc.by5 (Ne.symm hac) _ _ _ _ _).by5 (Ne.symm hbc) _ _ _ _ _) _ _ _ _ _,
    Below.set5 (Below.set5 (Below.set5 hw la _ _ _ _ _) lb _ _ _ _ _) lc _ _ _ _ _, hid ⟨ra.keep hk, rb.keep hk, rc.keep hk⟩⟩

/-- a row of two numbers, just laid -/
theorem lit_nums {w : World} {g a b : Nat} (h : Bk w g 42 #[.int .i64 1, .float .f64 a, .string es, .slice none 0 0, .int .i64 1, .float .f64 b, .string es, .slice none 0 0]) :
    SlM w (fun b => b < w.heap.size) 4 amCells 4 avCells (.slice (some ⟨g, 0, none⟩) 2 2) [((1, a, es), []), ((1, b, es), [])] :=
  ⟨[(((1, a, es), []), .slice none 0 0), (((1, b, es), []), .slice none 0 0)], rfl, (Sl.lit (n := 2) (sz := 4) h 2 rfl), fun p hp => by
    simp at hp
    rcases hp with rfl | rfl
    · exact RwP.none_ _ _ _ _
    · exact RwP.none_ _ _ _ _⟩

theorem sub_row {w : World} {b o c n k m : Nat} {xs : List Int} (hc : ∀ (j : Nat) (u : Value), (xs.map (Value.int .i64))[j]? = some u → w.cell? ⟨b, o + j, none⟩ = some u) (hb : b < w.heap.size) (ys : List Int) (hy : ∀ j, j < m → ys[j]? = xs[k + j]?) (hl : ys.length = m) (ho : n = o + k) :
    Sl w w.heap.size 1 (.slice (some ⟨b, n, none⟩) m c) ys.length (ys.map (Value.int .i64)) := by
  refine ⟨_, c, by rw [hl], by simp, fun _ => ⟨b, n, rfl, hb, fun j u hu => ?_⟩⟩
  have hj : j < m := by have := (List.getElem?_eq_some_iff.1 hu).1; simpa [hl] using this
  rw [List.getElem?_map, hy j hj, ← List.getElem?_map] at hu
  rw [ho, Nat.add_assoc]
  exact hc (k + j) u hu

set_option maxRecDepth 100000 in
set_option maxHeartbeats 4000000 in
theorem sumParts_in (n c : Nat) (A : Option Addr) (Z : Nat → Int) (ar : Int) (w : World) (hn : n ≤ 2147483647) (hZ : ∀ i, i < n → ∃ a, A = some a ∧ w.cell? (a.add i) = some (.int .i64 (Z i))) :
    Calls Tryz.prog 7 #[.slice A n c, .int .i64 ar] w fun e w' => e = .returned (.bool true) ∧ Below w.heap.size w w' := by
  obtain ⟨zs, hzs⟩ : ∃ zs, tinyL ((List.range n).map Z) = zs := ⟨_, rfl⟩
  have hsm : ∀ z ∈ zs, -9999 ≤ z ∧ z ≤ 9999 := by rw [← hzs]; exact tinyL_small _
  have hlen : zs.length ≤ 120 := by rw [← hzs]; simp [tinyL]; omega
  have HT := hid (tiny_any n c A Z w hn hZ)
  rw [hzs] at HT
  have HS := hid hsm
  clear hzs hsm hZ
  go_enter Tryz.func7, Tryz.ntmps7
  go_wp2_with fail
  refine HT.out.mono ?_
  rintro e w1 ⟨v, rfl, hown, hb1⟩
  clear HT
  obtain ⟨A1, c1, rfl, _, _⟩ := Sl.of_own hown
  obtain ⟨N, hN⟩ : ∃ N, zs.length = N := ⟨_, rfl⟩
  have HN := hid hN
  rw [hN] at hlen hown ⊢
  have HO := hid hown
  clear hN hown
  by_cases h2 : N < 2
  · go_wp2_with fail
    go_ret
    exact ⟨rfl, hb1⟩
  obtain ⟨b, rfl, hbB, hNc, hcell⟩ : ∃ b, A1 = some ⟨b, 0, none⟩ ∧ b < w1.heap.size ∧ N ≤ c1 ∧ ∀ (j : Nat) (u : Value), (zs.map (Value.int .i64))[j]? = some u → w1.cell? ⟨b, 0 + j, none⟩ = some u := by
    have hown := HO.out
    rcases hown.2 with ⟨_, h0⟩ | ⟨g, cap, cur, hv, hg, hh, hnc, _⟩
    · omega
    · injection hv with e1 _ e3
      subst e1; subst e3
      refine ⟨g, rfl, (Array.getElem?_eq_some_iff.1 hh).1, hnc, fun j u hu => ?_⟩
      have := hown.cells (g := g) rfl j u hu
      rw [add_mid] at this
      exact this
  have HCell := hid hcell
  clear hcell HO
  go_wp2_with fail
  refine (part_any ar ((N : Int) - 1) (by omega) (by omega) _).mono ?_
  rintro e w2 ⟨rfl, rfl⟩
  obtain ⟨k, hk⟩ : ∃ k : Nat, 1 + ar % ((N : Int) - 1) = (k : Int) := ⟨(1 + ar % ((N : Int) - 1)).toNat, by
    have := Int.emod_nonneg ar (show (N : Int) - 1 ≠ 0 by omega)
    omega⟩
  have hk1 : 1 ≤ k ∧ k < N := by
    have h1 := Int.emod_nonneg ar (show (N : Int) - 1 ≠ 0 by omega)
    have h3 := Int.emod_lt_of_pos ar (show (0 : Int) < (N : Int) - 1 by omega)
    omega
  obtain ⟨hk1, hk2⟩ := hk1
  have HL := hid (fun wx (h : Below w1.heap.size w1 wx) j u (hu : (zs.map (Value.int .i64))[j]? = some u) => (h.cell (p := ⟨b, 0 + j, none⟩) hbB).trans (HCell.out j u hu))
  have hC1 : Hid (∀ wx, Below w1.heap.size w1 wx → Calls Tryz.prog 30 #[.slice (some ⟨b, 0, none⟩) k c1] wx fun e w' => ∃ s, e = .returned (.agg #[.int .i64 5, .int .i64 0, .int .i64 0, .string es, s]) ∧ Rwn wx w' 5 svCells s (colRows (zs.take k)) ∧ Below wx.heap.size wx w') := hid (fun wx h => by
    have hl : (zs.take k).length = k := by rw [List.length_take, HN.out]; omega
    refine column_any (zs.take k) (fun e => by rw [e] at hl; simp at hl; omega) (fun z hz => by have := HS.out z (List.mem_of_mem_take hz); omega) (by omega) _ wx ?_
    exact sub_row (o := 0) (k := 0) (HL.out wx h) (Nat.lt_of_lt_of_le hbB h.size) (zs.take k) (fun j hj => by rw [List.getElem?_take_of_lt hj, Nat.zero_add]) hl rfl)
  have hC2 : Hid (∀ wx, Below w1.heap.size w1 wx → Calls Tryz.prog 30 #[.slice (some ⟨b, k, none⟩) (N - k) (c1 - k)] wx fun e w' => ∃ s, e = .returned (.agg #[.int .i64 5, .int .i64 0, .int .i64 0, .string es, s]) ∧ Rwn wx w' 5 svCells s (colRows (zs.drop k)) ∧ Below wx.heap.size wx w') := hid (fun wx h => by
    have hl : (zs.drop k).length = N - k := by rw [List.length_drop, HN.out]
    refine column_any (zs.drop k) (fun e => by rw [e] at hl; simp at hl; omega) (fun z hz => by have := HS.out z (List.mem_of_mem_drop hz); omega) (by omega) _ wx ?_
    exact sub_row (o := 0) (k := k) (HL.out wx h) (Nat.lt_of_lt_of_le hbB h.size) (zs.drop k) (fun j _ => by rw [List.getElem?_drop]) hl (by omega))
  have hC3 : Hid (∀ wx, Below w1.heap.size w1 wx → Calls Tryz.prog 30 #[.slice (some ⟨b, 0, none⟩) N c1] wx fun e w' => ∃ s, e = .returned (.agg #[.int .i64 5, .int .i64 0, .int .i64 0, .string es, s]) ∧ Rwn wx w' 5 svCells s (colRows zs) ∧ Below wx.heap.size wx w') := hid (fun wx h => by
    refine column_any zs (fun e => by have := HN.out; rw [e] at this; simp at this; omega) (fun z hz => by have := HS.out z hz; omega) (by rw [HN.out]; exact hlen) _ wx ?_
    exact sub_row (o := 0) (k := 0) (HL.out wx h) (Nat.lt_of_lt_of_le hbB h.size) zs (fun j _ => by rw [Nat.zero_add]) HN.out rfl)
  clear HCell HL
  go_wp2_with fail
  refine wp_region_duties 13 [(0, 26), (1, 27), (2, 28), (3, 29), (4, 30), (5, 31), (6, 32), (7, 33), (8, 34), (9, 35), (10, 6), (11, 7), (12, 8)]
    [.is (.slice (some ⟨b, 0, none⟩) N c1), .is (.int .i64 k), .is (.slice (some ⟨b, 0, none⟩) k c1), .mat (5, 0, 0, es) (colRows (zs.take k)),
      .is (.slice (some ⟨b, 0, none⟩) N c1), .is (.int .i64 k), .is (.slice (some ⟨b, k, none⟩) (N - k) (c1 - k)), .mat (5, 0, 0, es) (colRows (zs.drop k)),
      .is (.slice (some ⟨b, 0, none⟩) N c1), .mat (5, 0, 0, es) (colRows zs),
      .new 24 #[.int .i64 0, .int .i64 0, .int .i64 0, .string ⟨#[]⟩, .slice none 0 0], .new 24 #[.int .i64 0, .int .i64 0, .int .i64 0, .string ⟨#[]⟩, .slice none 0 0], .new 24 #[.int .i64 0, .int .i64 0, .int .i64 0, .string ⟨#[]⟩, .slice none 0 0]]
    (by kernel_rfl) (by kernel_rfl) (by decide) (by kernel_rfl) (by kernel_rfl) (by kernel_rfl) (by kernel_rfl) rfl (by kernel_rfl) ?_ ?_
  · intro v wx lo hi hb hf hlow hap
    obtain ⟨sa, ha, hra⟩ := hf 3 _ rfl
    obtain ⟨sb, hbv, hrb⟩ := hf 7 _ rfl
    obtain ⟨sc, hcv, hrc⟩ := hf 9 _ rfl
    obtain ⟨ga, hga, hBa, hga1, hga2⟩ := hf 10 _ rfl
    obtain ⟨gb, hgb, hBb, hgb1, hgb2⟩ := hf 11 _ rfl
    obtain ⟨gc, hgc, hBc, hgc1, hgc2⟩ := hf 12 _ rfl
    have l3 := hlow 3 (by omega)
    have l7 := hlow 7 (by omega)
    have l9 := hlow 9 (by omega)
    have l10 := hlow 10 (by omega)
    have l11 := hlow 11 (by omega)
    have l12 := hlow 12 (by omega)
    have hab : ga ≠ gb := by have := hap 10 11 (by omega) (by omega) (by omega); omega
    have hac : ga ≠ gc := by have := hap 10 12 (by omega) (by omega) (by omega); omega
    have hbc : gb ≠ gc := by have := hap 11 12 (by omega) (by omega) (by omega); omega
    have RA := hid (hra.imp (S' := fun b => w1.heap.size ≤ b ∧ b < wx.heap.size ∧ b ≠ ga ∧ b ≠ gb ∧ b ≠ gc) fun b hb => by
      have h1 := hap 3 10 (by omega) (by omega) (by omega)
      have h2 := hap 3 11 (by omega) (by omega) (by omega)
      have h3 := hap 3 12 (by omega) (by omega) (by omega)
      omega)
    have RB := hid (hrb.imp (S' := fun b => w1.heap.size ≤ b ∧ b < wx.heap.size ∧ b ≠ ga ∧ b ≠ gb ∧ b ≠ gc) fun b hb => by
      have h1 := hap 7 10 (by omega) (by omega) (by omega)
      have h2 := hap 7 11 (by omega) (by omega) (by omega)
      have h3 := hap 7 12 (by omega) (by omega) (by omega)
      omega)
    have RC := hid (hrc.imp (S' := fun b => w1.heap.size ≤ b ∧ b < wx.heap.size ∧ b ≠ ga ∧ b ≠ gb ∧ b ≠ gc) fun b hb => by
      have h1 := hap 9 10 (by omega) (by omega) (by omega)
      have h2 := hap 9 11 (by omega) (by omega) (by omega)
      have h3 := hap 9 12 (by omega) (by omega) (by omega)
      omega)
    obtain ⟨Aa, ca, rfl⟩ := hra.form
    obtain ⟨Ab, cb, rfl⟩ := hrb.form
    obtain ⟨Ac, cc, rfl⟩ := hrc.form
    clear hf hap hra hrb hrc hC1 hC2 hC3
    rw [fill_eq_sets]
    simp only [sets, List.setIfInBounds_toArray, List.set_cons_succ, List.set_cons_zero, List.drop_succ_cons, List.drop_zero, ha, hbv, hcv, hga, hgb, hgc]
    obtain ⟨a0, a1, a2, a3, a4, af⟩ := hBa.cells5
    obtain ⟨b0, b1, b2, b3, b4, bf⟩ := hBb.cells5
    obtain ⟨d0, d1, d2, d3, d4, df⟩ := hBc.cells5
    obtain ⟨ba, bb, bc, bX, RX⟩ := three_cols hBa hBb hBc hab hac hbc (by omega) (by omega) (by omega) hb RA.out RB.out RC.out
    clear RA RB RC
    generalize (colRows (zs.take k)).length = La at *
    generalize (colRows (zs.drop k)).length = Lb at *
    generalize (colRows zs).length = Lc at *
    have hba := Ne.symm hab
    have hca := Ne.symm hac
    have hcb := Ne.symm hbc
    unfold smV
    dsimp only
    go_wp2_with fail
    clear a0 a1 a2 a3 a4 af b0 b1 b2 b3 b4 bf d0 d1 d2 d3 d4 df hBa hBb hBc l3 l7 l9 l10 l11 l12 hga hgb hgc ha hbv hcv hga1 hga2 hgb1 hgb2 hgc1 hgc2 hlow hb
    generalize (((((((((((((((wx.setCell ⟨ga, 0, none⟩ (.int .i64 5)).setCell ⟨ga, 1, none⟩ (.int .i64 0)).setCell ⟨ga, 2, none⟩ (.int .i64 0)).setCell ⟨ga, 3, none⟩ (.string es)).setCell ⟨ga, 4, none⟩ (.slice Aa La ca)).setCell ⟨gb, 0, none⟩ (.int .i64 5)).setCell ⟨gb, 1, none⟩ (.int .i64 0)).setCell ⟨gb, 2, none⟩ (.int .i64 0)).setCell ⟨gb, 3, none⟩ (.string es)).setCell ⟨gb, 4, none⟩ (.slice Ab Lb cb)).setCell ⟨gc, 0, none⟩ (.int .i64 5)).setCell ⟨gc, 1, none⟩ (.int .i64 0)).setCell ⟨gc, 2, none⟩ (.int .i64 0)).setCell ⟨gc, 3, none⟩ (.string es)).setCell ⟨gc, 4, none⟩ (.slice Ac Lc cc)) = X at *
    have HA := RX
    clear RX
    have hwX : Below w.heap.size w X := hb1.trans (bX.mono hb1.size)
    have lenA : (zs.take k).length = k := by rw [List.length_take, HN.out]; omega
    have lenB : (zs.drop k).length = N - k := by rw [List.length_drop, HN.out]
    have neA : zs.take k ≠ [] := fun e => by rw [e] at lenA; simp at lenA; omega
    have neB : zs.drop k ≠ [] := fun e => by rw [e] at lenB; simp at lenB; omega
    have neC : zs ≠ [] := fun e => by have := HN.out; rw [e] at this; simp at this; omega
    have smA : ∀ z ∈ zs.take k, -9999 ≤ z ∧ z ≤ 9999 := fun z hz => HS.out z (List.mem_of_mem_take hz)
    have smB : ∀ z ∈ zs.drop k, -9999 ≤ z ∧ z ≤ 9999 := fun z hz => HS.out z (List.mem_of_mem_drop hz)
    obtain ⟨SA, hSA⟩ : ∃ S, (zs.take k).sum = S := ⟨_, rfl⟩
    obtain ⟨SB, hSB⟩ : ∃ S, (zs.drop k).sum = S := ⟨_, rfl⟩
    have hSC : zs.sum = SA + SB := by rw [← hSA, ← hSB, ← List.sum_append, List.take_append_drop]
    have hSAb : SA.natAbs ≤ 1200000 := by rw [← hSA]; have := sum_bound (zs.take k) (fun z hz => by have := smA z hz; omega); omega
    have hSBb : SB.natAbs ≤ 1200000 := by rw [← hSB]; have := sum_bound (zs.drop k) (fun z hz => by have := smB z hz; omega); omega
    have HLa := hid (fun wx (hb : Below X.heap.size X wx) => Rws.below HA.out.1 hb hb.size)
    have HLb := hid (fun wx (hb : Below X.heap.size X wx) => Rws.below HA.out.2.1 hb hb.size)
    have HLc := hid (fun wx (hb : Below X.heap.size X wx) => Rws.below HA.out.2.2 hb hb.size)
    have cA : Hid (∀ wx g, Below X.heap.size X wx → Bk wx g 24 (colA (.slice Aa La ca)) → Calls Tryz.prog 31 #[.func (.func 32) #[] #[], .slice (some ⟨g, 0, none⟩) 1 1] wx fun e w' => e = .returned (.agg #[.int .i64 1, .float .f64 (enc SA 0), .string es, .slice none 0 0]) ∧ Below wx.heap.size wx w') :=
      hid (fun wx g hb h => by rw [← hSA]; exact ask_col (zs.take k) neA (by omega) smA _ g wx h (HLa.out wx hb))
    have cB : Hid (∀ wx g, Below X.heap.size X wx → Bk wx g 24 (colA (.slice Ab Lb cb)) → Calls Tryz.prog 31 #[.func (.func 32) #[] #[], .slice (some ⟨g, 0, none⟩) 1 1] wx fun e w' => e = .returned (.agg #[.int .i64 1, .float .f64 (enc SB 0), .string es, .slice none 0 0]) ∧ Below wx.heap.size wx w') :=
      hid (fun wx g hb h => by rw [← hSB]; exact ask_col (zs.drop k) neB (by omega) smB _ g wx h (HLb.out wx hb))
    have cC : Hid (∀ wx g, Below X.heap.size X wx → Bk wx g 24 (colA (.slice Ac Lc cc)) → Calls Tryz.prog 31 #[.func (.func 32) #[] #[], .slice (some ⟨g, 0, none⟩) 1 1] wx fun e w' => e = .returned (.agg #[.int .i64 1, .float .f64 (enc (SA + SB) 0), .string es, .slice none 0 0]) ∧ Below wx.heap.size wx w') :=
      hid (fun wx g hb h => by rw [← hSC]; exact ask_col zs neC (by have := HN.out; omega) HS.out _ g wx h (HLc.out wx hb))
    have cAB := hid (fun wx g (hb : Below X.heap.size X wx) h => ask_two (zs.take k) (zs.drop k) neA neB (by omega) (by omega) smA smB (.slice Aa La ca) (.slice Ab Lb cb) g wx h (HLa.out wx hb) (HLb.out wx hb))
    rw [List.take_append_drop, hSC, HN.out] at cAB
    have cN := hid (fun wx => number_yes (N : Int) (by omega) (by omega) wx)
    have cS := hid (SUM_nums SA SB (by omega) (by omega))
    clear HLa HLb HLc hSA hSB hSC smA smB neA neB neC lenA lenB HS
    have hga := ba.lt
    have hgb := bb.lt
    have hgc := bc.lt
    refine wp_region_duties 8 [(0, 36), (1, 37), (2, 38), (3, 39), (4, 40), (5, 41), (6, 9), (7, 10)]
      [.is (.agg (colA (.slice Aa La ca))), .lit 1 24 (colA (.slice Aa La ca)), .is (.agg #[.int .i64 1, .float .f64 (enc SA 0), .string es, .slice none 0 0]), .is (.agg (colA (.slice Ab Lb cb))), .lit 1 24 (colA (.slice Ab Lb cb)), .is (.agg #[.int .i64 1, .float .f64 (enc SB 0), .string es, .slice none 0 0]),
        .new 42 #[.int .i64 0, .float .f64 0, .string ⟨#[]⟩, .slice none 0 0], .new 42 #[.int .i64 0, .float .f64 0, .string ⟨#[]⟩, .slice none 0 0]]
      (by kernel_rfl) (by kernel_rfl) (by decide) (by kernel_rfl) (by kernel_rfl) (by kernel_rfl) (by kernel_rfl) rfl (by kernel_rfl) ?_ ?_
    · intro v' wy lo hi hb hf hlow hap
      have hx2 : v' 2 = .agg #[.int .i64 1, .float .f64 (enc SA 0), .string es, .slice none 0 0] := hf 2 _ rfl
      have hx5 : v' 5 = .agg #[.int .i64 1, .float .f64 (enc SB 0), .string es, .slice none 0 0] := hf 5 _ rfl
      obtain ⟨gx, hgx, hBx, hgx1, hgx2⟩ := hf 6 _ rfl
      obtain ⟨gy, hgy, hBy, hgy1, hgy2⟩ := hf 7 _ rfl
      have l6 := hlow 6 (by omega)
      have l7 := hlow 7 (by omega)
      have hxy : gx ≠ gy := by have := hap 6 7 (by omega) (by omega) (by omega); omega
      have hyx := Ne.symm hxy
      obtain ⟨a0, a1, a2, a3, af⟩ := hBx.cells4
      obtain ⟨b0, b1, b2, b3, bf⟩ := hBy.cells4
      clear hf hap hlow
      rw [fill_eq_sets]
      simp only [sets, List.setIfInBounds_toArray, List.set_cons_succ, List.set_cons_zero, List.drop_succ_cons, List.drop_zero, hx2, hx5, hgx, hgy]
      go_wp2_with fail
      have bx : Bk ((((((((wy.setCell ⟨gx, 0, none⟩ (.int .i64 1)).setCell ⟨gx, 1, none⟩ (.float .f64 (enc SA 0))).setCell ⟨gx, 2, none⟩ (.string es)).setCell ⟨gx, 3, none⟩ (.slice none 0 0)).setCell ⟨gy, 0, none⟩ (.int .i64 1)).setCell ⟨gy, 1, none⟩ (.float .f64 (enc SB 0))).setCell ⟨gy, 2, none⟩ (.string es)).setCell ⟨gy, 3, none⟩ (.slice none 0 0)) gx 42 #[.int .i64 1, .float .f64 (enc SA 0), .string es, .slice none 0 0] := (((((Bk.set4 hBx _ _ _ _).far (p := ⟨gy, 0, none⟩) hxy _).far (p := ⟨gy, 1, none⟩) hxy _).far (p := ⟨gy, 2, none⟩) hxy _).far (p := ⟨gy, 3, none⟩) hxy _)
      have bY : Below X.heap.size X ((((((((wy.setCell ⟨gx, 0, none⟩ (.int .i64 1)).setCell ⟨gx, 1, none⟩ (.float .f64 (enc SA 0))).setCell ⟨gx, 2, none⟩ (.string es)).setCell ⟨gx, 3, none⟩ (.slice none 0 0)).setCell ⟨gy, 0, none⟩ (.int .i64 1)).setCell ⟨gy, 1, none⟩ (.float .f64 (enc SB 0))).setCell ⟨gy, 2, none⟩ (.string es)).setCell ⟨gy, 3, none⟩ (.slice none 0 0)) := Below.set4 (Below.set4 hb (by omega) _ _ _ _) (by omega) _ _ _ _
      have hzY : ((((((((wy.setCell ⟨gx, 0, none⟩ (.int .i64 1)).setCell ⟨gx, 1, none⟩ (.float .f64 (enc SA 0))).setCell ⟨gx, 2, none⟩ (.string es)).setCell ⟨gx, 3, none⟩ (.slice none 0 0)).setCell ⟨gy, 0, none⟩ (.int .i64 1)).setCell ⟨gy, 1, none⟩ (.float .f64 (enc SB 0))).setCell ⟨gy, 2, none⟩ (.string es)).setCell ⟨gy, 3, none⟩ (.slice none 0 0)).heap.size = wy.heap.size := by simp [World.setCell]
      clear a0 a1 a2 a3 af b0 b1 b2 b3 bf hBx hBy hb
      refine (implM_SUM _ _ cS.out _ _ (lit_nums (Bk.new_at (by simp [World.setCell]))) (fun m hm => by
        simp at hm
        rcases hm with rfl | rfl
        · exact .inl ⟨rfl, fun _ => fin_enc SA 0 (by omega) (by omega), by show (1 : Int) ≠ 5; omega⟩
        · exact .inl ⟨rfl, fun _ => fin_enc SB 0 (by omega) (by omega), by show (1 : Int) ≠ 5; omega⟩) (by simp)).mono ?_
      rintro e w5 ⟨rfl, hb5⟩
      generalize ((((((((wy.setCell ⟨gx, 0, none⟩ (.int .i64 1)).setCell ⟨gx, 1, none⟩ (.float .f64 (enc SA 0))).setCell ⟨gx, 2, none⟩ (.string es)).setCell ⟨gx, 3, none⟩ (.slice none 0 0)).setCell ⟨gy, 0, none⟩ (.int .i64 1)).setCell ⟨gy, 1, none⟩ (.float .f64 (enc SB 0))).setCell ⟨gy, 2, none⟩ (.string es)).setCell ⟨gy, 3, none⟩ (.slice none 0 0)) = Y at *
      have hb6 : Below Y.heap.size Y w5 := Below.lift ((Below.refl _ _).alloc (Nat.le_refl _) _) (by simp) hb5
      have b5 : Below X.heap.size X w5 := bY.trans (hb6.mono bY.size)
      have bx5 := bx.below hb6 bx.lt
      have hz5 := b5.size
      clear hb5 hb6 bY bx hzY cS
      dsimp only [avV, iv, Res.av]
      go_wp2_with fail
      have bz10 := Bk.new w5 42 #[.int .i64 1, .float .f64 (enc (SA + SB) 0), .string es, .slice none 0 0]
      have hw5 := (Below.refl w5.heap.size w5).alloc (Nat.le_refl _) (.cells #[.int .i64 1, .float .f64 (enc (SA + SB) 0), .string es, .slice none 0 0] 42)
      have b10 : Below X.heap.size X (w5.alloc (.cells #[.int .i64 1, .float .f64 (enc (SA + SB) 0), .string es, .slice none 0 0] 42)) := b5.trans (hw5.mono hz5)
      have bx10 := bx5.below hw5 bx5.lt
      have a10 := ba.below b10 hga
      have b10' := bb.below b10 hgb
      have c10 := bc.below b10 hgc
      have cAB1 := hid (fun wx g hb h => (cAB.out wx g hb h).1)
      have cAB2 := hid (fun wx g hb h => (cAB.out wx g hb h).2)
      have hEq : (FloatKind.f64.format.order (enc (SA + SB) 0) (enc (SA + SB) 0) == some .eq) = true := by
        have := fin_enc (SA + SB) 0 (by omega) (by omega)
        unfold fin at this
        rw [this]; rfl
      have hfd : ∀ wx : World, (Instr.field 42 (iv 1 (enc (SA + SB) 0) es) 1).run Tryz.prog wx = .ok (.float .f64 (enc (SA + SB) 0)) wx := fun _ => by kernel_rfl
      unfold iv at hfd
      have cN' := cN
      generalize hgz : w5.heap.size = gz at *
      generalize w5.alloc (.cells #[.int .i64 1, .float .f64 (enc (SA + SB) 0), .string es, .slice none 0 0] 42) = w10 at *
      clear cA cB cAB b5 bx5 hw5 hz5 hgz cN' ba bb bc bX
      unfold avV iv at cAB1 cAB2
      unfold iv at cN
      dsimp only at cAB1 cAB2
      generalize enc (SA + SB) 0 = x at *
      generalize enc (N : Int) 0 = y at *
      refine wp_region_duties 31 [(0, 46), (1, 47), (2, 48), (3, 49), (4, 50), (5, 51), (6, 52), (7, 53), (8, 54), (9, 55), (10, 56), (11, 57), (12, 58), (13, 59), (14, 60), (15, 61), (16, 62), (17, 63), (18, 64), (19, 65), (20, 66), (21, 67), (22, 68), (23, 69), (24, 70), (25, 71), (26, 72), (27, 73), (28, 74), (29, 75), (30, 76)]
        [.is (.pointer (some ⟨gx, 0, none⟩)), .is (.int .i64 1), .is (.bool true), .is (.bool true), .is (.agg (colA (.slice Ac Lc cc))), .lit 1 24 (colA (.slice Ac Lc cc)), .is (.agg #[.int .i64 1, .float .f64 x, .string es, .slice none 0 0]), .is (.float .f64 x), .is (.pointer (some ⟨gz, 1, none⟩)), .is (.float .f64 x), .is (.bool true), .is (.bool true), .is (.bool true), .is (.agg (colA (.slice Aa La ca))), .is (.agg (colA (.slice Ab Lb cb))), .lit 2 24 #[.int .i64 5, .int .i64 0, .int .i64 0, .string es, .slice Aa La ca, .int .i64 5, .int .i64 0, .int .i64 0, .string es, .slice Ab Lb cb], .is (.agg #[.int .i64 1, .float .f64 x, .string es, .slice none 0 0]), .is (.float .f64 x), .is (.pointer (some ⟨gz, 1, none⟩)), .is (.float .f64 x), .is (.bool true), .is (.bool true), .is (.bool true), .is (.agg (colA (.slice Aa La ca))), .is (.agg (colA (.slice Ab Lb cb))), .lit 2 24 #[.int .i64 5, .int .i64 0, .int .i64 0, .string es, .slice Aa La ca, .int .i64 5, .int .i64 0, .int .i64 0, .string es, .slice Ab Lb cb], .is (.agg #[.int .i64 1, .float .f64 y, .string es, .slice none 0 0]), .is (.slice (some ⟨b, 0, none⟩) N c1), .is (.int .i64 N), .is (.bool true), .is (.bool true)]
        (by kernel_rfl) (by kernel_rfl) (by decide) (by kernel_rfl) (by kernel_rfl) (by kernel_rfl) (by kernel_rfl) rfl (by kernel_rfl) ?_ ?_
      · intro v'' wv lo hi hb hf hlow hap
        have e30 : v'' 30 = .bool true := hf 30 _ rfl
        clear hf hlow hap
        rw [fill_eq_sets]
        simp only [sets, List.setIfInBounds_toArray, List.set_cons_succ, List.set_cons_zero, List.drop_succ_cons, List.drop_zero, e30]
        go_wp2_with fail
        go_ret
        exact ⟨rfl, hwX.trans ((b10.trans (hb.mono b10.size)).mono hwX.size)⟩
      simp only [Duties]
      refine ⟨?_, ?_, ?_, ?_, ?_, ?_, ?_, ?_, ?_, ?_, ?_, ?_, ?_, ?_, ?_, ?_, ?_, ?_, ?_, ?_, ?_, ?_, ?_, ?_, ?_, ?_, ?_, ?_, ?_, ?_, ?_, trivial⟩
      · intro v'' wv hb hpre
        refine ⟨by rfl, fun B hB => ?_⟩
        have e9 : B.tmps[9]?.getD undef = .pointer (some ⟨gx, 0, none⟩) := got_out hB (by rfl)
        clear hB hpre
        unfold Oper.wp
        go_simp
        exact ⟨_, rfl, Below.refl _ _, rfl⟩
      · intro v'' wv hb hpre
        refine ⟨by rfl, fun B hB => ?_⟩
        obtain ⟨_, _, _, _, _, h0⟩ := hpre 0 _ rfl (by kernel_rfl)
        have e0 : B.tmps[46]?.getD undef = (.pointer (some ⟨gx, 0, none⟩)) := (got_in hB (by rfl) (by simp)).trans h0
        obtain ⟨q0, q1, q2, q3, qf⟩ := (bx10.below (Below.undrew hb) bx10.lt).cells4
        clear hB hpre h0
        unfold Oper.wp
        go_simp
        exact ⟨_, rfl, Below.refl _ _, rfl⟩
      · intro v'' wv hb hpre
        refine ⟨by rfl, fun B hB => ?_⟩
        obtain ⟨_, _, _, _, _, h0⟩ := hpre 1 _ rfl (by kernel_rfl)
        have e0 : B.tmps[47]?.getD undef = (.int .i64 1) := (got_in hB (by rfl) (by simp)).trans h0
        clear hB hpre h0
        unfold Oper.wp
        go_simp
        exact ⟨_, rfl, Below.refl _ _, rfl⟩
      · intro v'' wv hb hpre
        refine ⟨by rfl, fun B hB => ?_⟩
        obtain ⟨_, _, _, _, _, h0⟩ := hpre 2 _ rfl (by kernel_rfl)
        have e0 : B.tmps[48]?.getD undef = (.bool true) := (got_in hB (by rfl) (by simp)).trans h0
        clear hB hpre h0
        unfold Oper.wp
        go_simp
        exact ⟨_, rfl, Below.refl _ _, rfl⟩
      · intro v'' wv hb hpre
        have hw' : v'' 3 = .bool true := by obtain ⟨_, _, _, _, _, h⟩ := hpre 3 _ rfl (by kernel_rfl); exact h
        refine ⟨wanted_if (b := true) (by rfl) (by rfl) (by rfl) (by simp) hw', fun B hB => ?_⟩
        have e9 : B.tmps[8]?.getD undef = .pointer (some ⟨gc, 0, none⟩) := got_out hB (by rfl)
        obtain ⟨q0, q1, q2, q3, q4, qf⟩ := (c10.below (Below.undrew hb) c10.lt).cells5
        clear hB hpre hw'
        unfold Oper.wp
        go_simp
        exact ⟨_, rfl, Below.refl _ _, rfl⟩
      · intro v'' wv hb hpre
        have hw' : v'' 3 = .bool true := by obtain ⟨_, _, _, _, _, h⟩ := hpre 3 _ rfl (by kernel_rfl); exact h
        refine ⟨wanted_if (b := true) (by rfl) (by rfl) (by rfl) (by simp) hw', fun B hB => ?_⟩
        obtain ⟨_, _, _, _, _, h0⟩ := hpre 4 _ rfl (by kernel_rfl)
        have e0 : B.tmps[50]?.getD undef = (.agg (colA (.slice Ac Lc cc))) := (got_in hB (by rfl) (by simp)).trans h0
        clear hB hpre h0 hw'
        unfold Oper.wp
        go_simp
        exact ⟨_, rfl, (Below.refl _ _).alloc (Nat.le_refl _) _, wv.heap.size, rfl, Bk.new _ _ _, Nat.le_refl _, by simp⟩
      · intro v'' wv hb hpre
        have hw' : v'' 3 = .bool true := by obtain ⟨_, _, _, _, _, h⟩ := hpre 3 _ rfl (by kernel_rfl); exact h
        refine ⟨wanted_if (b := true) (by rfl) (by rfl) (by rfl) (by simp) hw', fun B hB => ?_⟩
        obtain ⟨_, _, _, _, _, g, h0, hBk, _, _⟩ := hpre 5 _ rfl (by kernel_rfl)
        have e0 : B.tmps[51]?.getD undef = .slice (some ⟨g, 0, none⟩) 1 1 := (got_in hB (by rfl) (by simp)).trans h0
        have HBk := hid hBk
        clear hB hpre hBk h0 hw'
        unfold Oper.wp
        go_simp
        refine (cC.out _ g (b10.trans ((Below.undrew hb).mono b10.size)) HBk.out).mono ?_
        rintro e w' ⟨rfl, hb'⟩
        exact ⟨_, rfl, hb', rfl⟩
      · intro v'' wv hb hpre
        have hw' : v'' 3 = .bool true := by obtain ⟨_, _, _, _, _, h⟩ := hpre 3 _ rfl (by kernel_rfl); exact h
        refine ⟨wanted_if (b := true) (by rfl) (by rfl) (by rfl) (by simp) hw', fun B hB => ?_⟩
        obtain ⟨_, _, _, _, _, h0⟩ := hpre 6 _ rfl (by kernel_rfl)
        have e0 : B.tmps[52]?.getD undef = (.agg #[.int .i64 1, .float .f64 x, .string es, .slice none 0 0]) := (got_in hB (by rfl) (by simp)).trans h0
        clear hB hpre h0 hw'
        unfold Oper.wp
        go_simp
        exact ⟨_, rfl, Below.refl _ _, rfl⟩
      · intro v'' wv hb hpre
        have hw' : v'' 3 = .bool true := by obtain ⟨_, _, _, _, _, h⟩ := hpre 3 _ rfl (by kernel_rfl); exact h
        refine ⟨wanted_if (b := true) (by rfl) (by rfl) (by rfl) (by simp) hw', fun B hB => ?_⟩
        have e9 : B.tmps[11]?.getD undef = .pointer (some ⟨gz, 0, none⟩) := got_out hB (by rfl)
        clear hB hpre hw'
        unfold Oper.wp
        go_simp
        exact ⟨_, rfl, Below.refl _ _, rfl⟩
      · intro v'' wv hb hpre
        have hw' : v'' 3 = .bool true := by obtain ⟨_, _, _, _, _, h⟩ := hpre 3 _ rfl (by kernel_rfl); exact h
        refine ⟨wanted_if (b := true) (by rfl) (by rfl) (by rfl) (by simp) hw', fun B hB => ?_⟩
        obtain ⟨_, _, _, _, _, h0⟩ := hpre 8 _ rfl (by kernel_rfl)
        have e0 : B.tmps[54]?.getD undef = (.pointer (some ⟨gz, 1, none⟩)) := (got_in hB (by rfl) (by simp)).trans h0
        obtain ⟨q0, q1, q2, q3, qf⟩ := (bz10.below (Below.undrew hb) bz10.lt).cells4
        clear hB hpre h0 hw'
        unfold Oper.wp
        go_simp
        exact ⟨_, rfl, Below.refl _ _, rfl⟩
      · intro v'' wv hb hpre
        have hw' : v'' 3 = .bool true := by obtain ⟨_, _, _, _, _, h⟩ := hpre 3 _ rfl (by kernel_rfl); exact h
        refine ⟨wanted_if (b := true) (by rfl) (by rfl) (by rfl) (by simp) hw', fun B hB => ?_⟩
        obtain ⟨_, _, _, _, _, h0⟩ := hpre 7 _ rfl (by kernel_rfl)
        have e0 : B.tmps[53]?.getD undef = (.float .f64 x) := (got_in hB (by rfl) (by simp)).trans h0
        obtain ⟨_, _, _, _, _, h1⟩ := hpre 9 _ rfl (by kernel_rfl)
        have e1 : B.tmps[55]?.getD undef = (.float .f64 x) := (got_in hB (by rfl) (by simp)).trans h1
        clear hB hpre h0 h1 hw'
        unfold Oper.wp
        go_simp
        exact ⟨_, rfl, Below.refl _ _, rfl⟩
      · intro v'' wv hb hpre
        refine ⟨by rfl, fun B hB => ?_⟩
        obtain ⟨_, _, _, _, _, h0⟩ := hpre 3 _ rfl (by kernel_rfl)
        have e0 : B.tmps[49]?.getD undef = (.bool true) := (got_in hB (by rfl) (by simp)).trans h0
        obtain ⟨_, _, _, _, _, h1⟩ := hpre 10 _ rfl (by kernel_rfl)
        have e1 : B.tmps[56]?.getD undef = (.bool true) := (got_in hB (by rfl) (by simp)).trans h1
        clear hB hpre h0 h1
        unfold Oper.wp
        go_simp
        exact ⟨_, rfl, Below.refl _ _, rfl⟩
      · intro v'' wv hb hpre
        refine ⟨by rfl, fun B hB => ?_⟩
        obtain ⟨_, _, _, _, _, h0⟩ := hpre 11 _ rfl (by kernel_rfl)
        have e0 : B.tmps[57]?.getD undef = (.bool true) := (got_in hB (by rfl) (by simp)).trans h0
        clear hB hpre h0
        unfold Oper.wp
        go_simp
        exact ⟨_, rfl, Below.refl _ _, rfl⟩
      · intro v'' wv hb hpre
        have hw' : v'' 12 = .bool true := by obtain ⟨_, _, _, _, _, h⟩ := hpre 12 _ rfl (by kernel_rfl); exact h
        refine ⟨wanted_if (b := true) (by rfl) (by rfl) (by rfl) (by simp) hw', fun B hB => ?_⟩
        have e9 : B.tmps[6]?.getD undef = .pointer (some ⟨ga, 0, none⟩) := got_out hB (by rfl)
        obtain ⟨q0, q1, q2, q3, q4, qf⟩ := (a10.below (Below.undrew hb) a10.lt).cells5
        clear hB hpre hw'
        unfold Oper.wp
        go_simp
        exact ⟨_, rfl, Below.refl _ _, rfl⟩
      · intro v'' wv hb hpre
        have hw' : v'' 12 = .bool true := by obtain ⟨_, _, _, _, _, h⟩ := hpre 12 _ rfl (by kernel_rfl); exact h
        refine ⟨wanted_if (b := true) (by rfl) (by rfl) (by rfl) (by simp) hw', fun B hB => ?_⟩
        have e9 : B.tmps[7]?.getD undef = .pointer (some ⟨gb, 0, none⟩) := got_out hB (by rfl)
        obtain ⟨q0, q1, q2, q3, q4, qf⟩ := (b10'.below (Below.undrew hb) b10'.lt).cells5
        clear hB hpre hw'
        unfold Oper.wp
        go_simp
        exact ⟨_, rfl, Below.refl _ _, rfl⟩
      · intro v'' wv hb hpre
        have hw' : v'' 12 = .bool true := by obtain ⟨_, _, _, _, _, h⟩ := hpre 12 _ rfl (by kernel_rfl); exact h
        refine ⟨wanted_if (b := true) (by rfl) (by rfl) (by rfl) (by simp) hw', fun B hB => ?_⟩
        obtain ⟨_, _, _, _, _, h0⟩ := hpre 13 _ rfl (by kernel_rfl)
        have e0 : B.tmps[59]?.getD undef = (.agg (colA (.slice Aa La ca))) := (got_in hB (by rfl) (by simp)).trans h0
        obtain ⟨_, _, _, _, _, h1⟩ := hpre 14 _ rfl (by kernel_rfl)
        have e1 : B.tmps[60]?.getD undef = (.agg (colA (.slice Ab Lb cb))) := (got_in hB (by rfl) (by simp)).trans h1
        clear hB hpre h0 h1 hw'
        unfold Oper.wp
        go_simp
        exact ⟨_, rfl, (Below.refl _ _).alloc (Nat.le_refl _) _, wv.heap.size, rfl, Bk.new _ _ _, Nat.le_refl _, by simp⟩
      · intro v'' wv hb hpre
        have hw' : v'' 12 = .bool true := by obtain ⟨_, _, _, _, _, h⟩ := hpre 12 _ rfl (by kernel_rfl); exact h
        refine ⟨wanted_if (b := true) (by rfl) (by rfl) (by rfl) (by simp) hw', fun B hB => ?_⟩
        obtain ⟨_, _, _, _, _, g, h0, hBk, _, _⟩ := hpre 15 _ rfl (by kernel_rfl)
        have e0 : B.tmps[61]?.getD undef = .slice (some ⟨g, 0, none⟩) 2 2 := (got_in hB (by rfl) (by simp)).trans h0
        have HBk := hid hBk
        clear hB hpre hBk h0 hw'
        unfold Oper.wp
        go_simp
        refine (cAB1.out _ g (b10.trans ((Below.undrew hb).mono b10.size)) HBk.out).mono ?_
        rintro e w' ⟨rfl, hb'⟩
        exact ⟨_, rfl, hb', rfl⟩
      · intro v'' wv hb hpre
        have hw' : v'' 12 = .bool true := by obtain ⟨_, _, _, _, _, h⟩ := hpre 12 _ rfl (by kernel_rfl); exact h
        refine ⟨wanted_if (b := true) (by rfl) (by rfl) (by rfl) (by simp) hw', fun B hB => ?_⟩
        obtain ⟨_, _, _, _, _, h0⟩ := hpre 16 _ rfl (by kernel_rfl)
        have e0 : B.tmps[62]?.getD undef = (.agg #[.int .i64 1, .float .f64 x, .string es, .slice none 0 0]) := (got_in hB (by rfl) (by simp)).trans h0
        clear hB hpre h0 hw'
        unfold Oper.wp
        go_simp
        exact ⟨_, rfl, Below.refl _ _, rfl⟩
      · intro v'' wv hb hpre
        have hw' : v'' 12 = .bool true := by obtain ⟨_, _, _, _, _, h⟩ := hpre 12 _ rfl (by kernel_rfl); exact h
        refine ⟨wanted_if (b := true) (by rfl) (by rfl) (by rfl) (by simp) hw', fun B hB => ?_⟩
        have e9 : B.tmps[11]?.getD undef = .pointer (some ⟨gz, 0, none⟩) := got_out hB (by rfl)
        clear hB hpre hw'
        unfold Oper.wp
        go_simp
        exact ⟨_, rfl, Below.refl _ _, rfl⟩
      · intro v'' wv hb hpre
        have hw' : v'' 12 = .bool true := by obtain ⟨_, _, _, _, _, h⟩ := hpre 12 _ rfl (by kernel_rfl); exact h
        refine ⟨wanted_if (b := true) (by rfl) (by rfl) (by rfl) (by simp) hw', fun B hB => ?_⟩
        obtain ⟨_, _, _, _, _, h0⟩ := hpre 18 _ rfl (by kernel_rfl)
        have e0 : B.tmps[64]?.getD undef = (.pointer (some ⟨gz, 1, none⟩)) := (got_in hB (by rfl) (by simp)).trans h0
        obtain ⟨q0, q1, q2, q3, qf⟩ := (bz10.below (Below.undrew hb) bz10.lt).cells4
        clear hB hpre h0 hw'
        unfold Oper.wp
        go_simp
        exact ⟨_, rfl, Below.refl _ _, rfl⟩
      · intro v'' wv hb hpre
        have hw' : v'' 12 = .bool true := by obtain ⟨_, _, _, _, _, h⟩ := hpre 12 _ rfl (by kernel_rfl); exact h
        refine ⟨wanted_if (b := true) (by rfl) (by rfl) (by rfl) (by simp) hw', fun B hB => ?_⟩
        obtain ⟨_, _, _, _, _, h0⟩ := hpre 17 _ rfl (by kernel_rfl)
        have e0 : B.tmps[63]?.getD undef = (.float .f64 x) := (got_in hB (by rfl) (by simp)).trans h0
        obtain ⟨_, _, _, _, _, h1⟩ := hpre 19 _ rfl (by kernel_rfl)
        have e1 : B.tmps[65]?.getD undef = (.float .f64 x) := (got_in hB (by rfl) (by simp)).trans h1
        clear hB hpre h0 h1 hw'
        unfold Oper.wp
        go_simp
        exact ⟨_, rfl, Below.refl _ _, rfl⟩
      · intro v'' wv hb hpre
        refine ⟨by rfl, fun B hB => ?_⟩
        obtain ⟨_, _, _, _, _, h0⟩ := hpre 12 _ rfl (by kernel_rfl)
        have e0 : B.tmps[58]?.getD undef = (.bool true) := (got_in hB (by rfl) (by simp)).trans h0
        obtain ⟨_, _, _, _, _, h1⟩ := hpre 20 _ rfl (by kernel_rfl)
        have e1 : B.tmps[66]?.getD undef = (.bool true) := (got_in hB (by rfl) (by simp)).trans h1
        clear hB hpre h0 h1
        unfold Oper.wp
        go_simp
        exact ⟨_, rfl, Below.refl _ _, rfl⟩
      · intro v'' wv hb hpre
        refine ⟨by rfl, fun B hB => ?_⟩
        obtain ⟨_, _, _, _, _, h0⟩ := hpre 21 _ rfl (by kernel_rfl)
        have e0 : B.tmps[67]?.getD undef = (.bool true) := (got_in hB (by rfl) (by simp)).trans h0
        clear hB hpre h0
        unfold Oper.wp
        go_simp
        exact ⟨_, rfl, Below.refl _ _, rfl⟩
      · intro v'' wv hb hpre
        have hw' : v'' 22 = .bool true := by obtain ⟨_, _, _, _, _, h⟩ := hpre 22 _ rfl (by kernel_rfl); exact h
        refine ⟨wanted_if (b := true) (by rfl) (by rfl) (by rfl) (by simp) hw', fun B hB => ?_⟩
        have e9 : B.tmps[6]?.getD undef = .pointer (some ⟨ga, 0, none⟩) := got_out hB (by rfl)
        obtain ⟨q0, q1, q2, q3, q4, qf⟩ := (a10.below (Below.undrew hb) a10.lt).cells5
        clear hB hpre hw'
        unfold Oper.wp
        go_simp
        exact ⟨_, rfl, Below.refl _ _, rfl⟩
      · intro v'' wv hb hpre
        have hw' : v'' 22 = .bool true := by obtain ⟨_, _, _, _, _, h⟩ := hpre 22 _ rfl (by kernel_rfl); exact h
        refine ⟨wanted_if (b := true) (by rfl) (by rfl) (by rfl) (by simp) hw', fun B hB => ?_⟩
        have e9 : B.tmps[7]?.getD undef = .pointer (some ⟨gb, 0, none⟩) := got_out hB (by rfl)
        obtain ⟨q0, q1, q2, q3, q4, qf⟩ := (b10'.below (Below.undrew hb) b10'.lt).cells5
        clear hB hpre hw'
        unfold Oper.wp
        go_simp
        exact ⟨_, rfl, Below.refl _ _, rfl⟩
      · intro v'' wv hb hpre
        have hw' : v'' 22 = .bool true := by obtain ⟨_, _, _, _, _, h⟩ := hpre 22 _ rfl (by kernel_rfl); exact h
        refine ⟨wanted_if (b := true) (by rfl) (by rfl) (by rfl) (by simp) hw', fun B hB => ?_⟩
        obtain ⟨_, _, _, _, _, h0⟩ := hpre 23 _ rfl (by kernel_rfl)
        have e0 : B.tmps[69]?.getD undef = (.agg (colA (.slice Aa La ca))) := (got_in hB (by rfl) (by simp)).trans h0
        obtain ⟨_, _, _, _, _, h1⟩ := hpre 24 _ rfl (by kernel_rfl)
        have e1 : B.tmps[70]?.getD undef = (.agg (colA (.slice Ab Lb cb))) := (got_in hB (by rfl) (by simp)).trans h1
        clear hB hpre h0 h1 hw'
        unfold Oper.wp
        go_simp
        exact ⟨_, rfl, (Below.refl _ _).alloc (Nat.le_refl _) _, wv.heap.size, rfl, Bk.new _ _ _, Nat.le_refl _, by simp⟩
      · intro v'' wv hb hpre
        have hw' : v'' 22 = .bool true := by obtain ⟨_, _, _, _, _, h⟩ := hpre 22 _ rfl (by kernel_rfl); exact h
        refine ⟨wanted_if (b := true) (by rfl) (by rfl) (by rfl) (by simp) hw', fun B hB => ?_⟩
        obtain ⟨_, _, _, _, _, g, h0, hBk, _, _⟩ := hpre 25 _ rfl (by kernel_rfl)
        have e0 : B.tmps[71]?.getD undef = .slice (some ⟨g, 0, none⟩) 2 2 := (got_in hB (by rfl) (by simp)).trans h0
        have HBk := hid hBk
        clear hB hpre hBk h0 hw'
        unfold Oper.wp
        go_simp
        refine (cAB2.out _ g (b10.trans ((Below.undrew hb).mono b10.size)) HBk.out).mono ?_
        rintro e w' ⟨rfl, hb'⟩
        exact ⟨_, rfl, hb', rfl⟩
      · intro v'' wv hb hpre
        have hw' : v'' 22 = .bool true := by obtain ⟨_, _, _, _, _, h⟩ := hpre 22 _ rfl (by kernel_rfl); exact h
        refine ⟨wanted_if (b := true) (by rfl) (by rfl) (by rfl) (by simp) hw', fun B hB => ?_⟩
        have e9 : B.tmps[0]?.getD undef = .slice (some ⟨b, 0, none⟩) N c1 := got_out hB (by rfl)
        clear hB hpre hw'
        unfold Oper.wp
        go_simp
        exact ⟨_, rfl, Below.refl _ _, rfl⟩
      · intro v'' wv hb hpre
        have hw' : v'' 22 = .bool true := by obtain ⟨_, _, _, _, _, h⟩ := hpre 22 _ rfl (by kernel_rfl); exact h
        refine ⟨wanted_if (b := true) (by rfl) (by rfl) (by rfl) (by simp) hw', fun B hB => ?_⟩
        obtain ⟨_, _, _, _, _, h0⟩ := hpre 27 _ rfl (by kernel_rfl)
        have e0 : B.tmps[73]?.getD undef = (.slice (some ⟨b, 0, none⟩) N c1) := (got_in hB (by rfl) (by simp)).trans h0
        clear hB hpre h0 hw'
        unfold Oper.wp
        go_simp
        exact ⟨_, rfl, Below.refl _ _, rfl⟩
      · intro v'' wv hb hpre
        have hw' : v'' 22 = .bool true := by obtain ⟨_, _, _, _, _, h⟩ := hpre 22 _ rfl (by kernel_rfl); exact h
        refine ⟨wanted_if (b := true) (by rfl) (by rfl) (by rfl) (by simp) hw', fun B hB => ?_⟩
        obtain ⟨_, _, _, _, _, h0⟩ := hpre 26 _ rfl (by kernel_rfl)
        have e0 : B.tmps[72]?.getD undef = (.agg #[.int .i64 1, .float .f64 y, .string es, .slice none 0 0]) := (got_in hB (by rfl) (by simp)).trans h0
        obtain ⟨_, _, _, _, _, h1⟩ := hpre 28 _ rfl (by kernel_rfl)
        have e1 : B.tmps[74]?.getD undef = (.int .i64 N) := (got_in hB (by rfl) (by simp)).trans h1
        clear hB hpre h0 h1 hw'
        unfold Oper.wp
        go_simp
        refine (cN.out _).mono ?_
        rintro e w' ⟨rfl, hb'⟩
        exact ⟨_, rfl, hb', rfl⟩
      · intro v'' wv hb hpre
        refine ⟨by rfl, fun B hB => ?_⟩
        obtain ⟨_, _, _, _, _, h0⟩ := hpre 22 _ rfl (by kernel_rfl)
        have e0 : B.tmps[68]?.getD undef = (.bool true) := (got_in hB (by rfl) (by simp)).trans h0
        obtain ⟨_, _, _, _, _, h1⟩ := hpre 29 _ rfl (by kernel_rfl)
        have e1 : B.tmps[75]?.getD undef = (.bool true) := (got_in hB (by rfl) (by simp)).trans h1
        clear hB hpre h0 h1
        unfold Oper.wp
        go_simp
        exact ⟨_, rfl, Below.refl _ _, rfl⟩
    · simp only [Duties]
      refine ⟨?_, ?_, ?_, ?_, ?_, ?_, ?_, ?_, trivial⟩
      · intro v wy hb hpre
        refine ⟨by rfl, fun B hB => ?_⟩
        have e0 : B.tmps[6]?.getD undef = .pointer (some ⟨ga, 0, none⟩) := got_out hB (by rfl)
        obtain ⟨q0, q1, q2, q3, q4, qf⟩ := (ba.below (Below.undrew hb) hga).cells5
        clear hB hpre
        unfold Oper.wp
        go_simp
        exact ⟨_, rfl, Below.refl _ _, rfl⟩
      · intro v wy hb hpre
        refine ⟨by rfl, fun B hB => ?_⟩
        obtain ⟨_, _, _, _, _, h0⟩ := hpre 0 _ rfl (by kernel_rfl)
        have e0 : B.tmps[36]?.getD undef = .agg (colA (.slice Aa La ca)) := (got_in hB (by rfl) (by simp)).trans h0
        clear hB hpre h0
        unfold Oper.wp
        go_simp
        exact ⟨_, rfl, (Below.refl _ _).alloc (Nat.le_refl _) _, wy.heap.size, rfl, Bk.new _ _ _, Nat.le_refl _, by simp⟩
      · intro v wy hb hpre
        refine ⟨by rfl, fun B hB => ?_⟩
        obtain ⟨_, _, _, _, _, g, h0, hBk, _, _⟩ := hpre 1 _ rfl (by kernel_rfl)
        have e0 : B.tmps[37]?.getD undef = .slice (some ⟨g, 0, none⟩) 1 1 := (got_in hB (by rfl) (by simp)).trans h0
        have HBk := hid hBk
        clear hB hpre h0 hBk
        unfold Oper.wp
        go_simp
        refine (cA.out _ g (Below.undrew hb) HBk.out).mono ?_
        rintro e w' ⟨rfl, hb'⟩
        exact ⟨_, rfl, hb', rfl⟩
      · intro v wy hb hpre
        refine ⟨by rfl, fun B hB => ?_⟩
        have e0 : B.tmps[7]?.getD undef = .pointer (some ⟨gb, 0, none⟩) := got_out hB (by rfl)
        obtain ⟨q0, q1, q2, q3, q4, qf⟩ := (bb.below (Below.undrew hb) hgb).cells5
        clear hB hpre
        unfold Oper.wp
        go_simp
        exact ⟨_, rfl, Below.refl _ _, rfl⟩
      · intro v wy hb hpre
        refine ⟨by rfl, fun B hB => ?_⟩
        obtain ⟨_, _, _, _, _, h0⟩ := hpre 3 _ rfl (by kernel_rfl)
        have e0 : B.tmps[39]?.getD undef = .agg (colA (.slice Ab Lb cb)) := (got_in hB (by rfl) (by simp)).trans h0
        clear hB hpre h0
        unfold Oper.wp
        go_simp
        exact ⟨_, rfl, (Below.refl _ _).alloc (Nat.le_refl _) _, wy.heap.size, rfl, Bk.new _ _ _, Nat.le_refl _, by simp⟩
      · intro v wy hb hpre
        refine ⟨by rfl, fun B hB => ?_⟩
        obtain ⟨_, _, _, _, _, g, h0, hBk, _, _⟩ := hpre 4 _ rfl (by kernel_rfl)
        have e0 : B.tmps[40]?.getD undef = .slice (some ⟨g, 0, none⟩) 1 1 := (got_in hB (by rfl) (by simp)).trans h0
        have HBk := hid hBk
        clear hB hpre h0 hBk
        unfold Oper.wp
        go_simp
        refine (cB.out _ g (Below.undrew hb) HBk.out).mono ?_
        rintro e w' ⟨rfl, hb'⟩
        exact ⟨_, rfl, hb', rfl⟩
      all_goals
        intro v wy hb hpre
        refine ⟨by rfl, fun B hB => ?_⟩
        clear hB hpre
        unfold Oper.wp
        go_simp
        exact ⟨_, rfl, (Below.refl _ _).alloc (Nat.le_refl _) _, wy.heap.size, rfl, Bk.new _ _ _, Nat.le_refl _, by simp⟩
  · simp only [Duties]
    have hi1 : (k : Int) ≤ (c1 : Int) := by omega
    have hi2 : (k : Int) ≤ (N : Int) := by omega
    have hi3 : (N : Int) ≤ (c1 : Int) := by omega
    have hi4 : c1 ≠ k := by omega
    refine ⟨?_, ?_, ?_, ?_, ?_, ?_, ?_, ?_, ?_, ?_, ?_, ?_, ?_, trivial⟩
    · intro v wx hb hpre
      refine ⟨by rfl, fun B hB => ?_⟩
      have e0 : B.tmps[0]?.getD undef = .slice (some ⟨b, 0, none⟩) N c1 := got_out hB (by rfl)
      clear hB hpre
      unfold Oper.wp
      go_simp
      exact ⟨_, rfl, Below.refl _ _, rfl⟩
    · intro v wx hb hpre
      refine ⟨by rfl, fun B hB => ?_⟩
      have e0 : B.tmps[5]?.getD undef = .int .i64 k := got_out hB (by rfl)
      clear hB hpre
      unfold Oper.wp
      go_simp
      exact ⟨_, rfl, Below.refl _ _, rfl⟩
    · intro v wx hb hpre
      refine ⟨by rfl, fun B hB => ?_⟩
      obtain ⟨_, _, _, _, _, h0⟩ := hpre 0 _ rfl (by kernel_rfl)
      obtain ⟨_, _, _, _, _, h1⟩ := hpre 1 _ rfl (by kernel_rfl)
      have e0 : B.tmps[26]?.getD undef = .slice (some ⟨b, 0, none⟩) N c1 := (got_in hB (by rfl) (by simp)).trans h0
      have e1 : B.tmps[27]?.getD undef = .int .i64 k := (got_in hB (by rfl) (by simp)).trans h1
      clear hB hpre h0 h1
      unfold Oper.wp
      go_simp
      exact ⟨_, rfl, Below.refl _ _, rfl⟩
    · intro v wx hb hpre
      refine ⟨by rfl, fun B hB => ?_⟩
      obtain ⟨_, _, _, _, _, h0⟩ := hpre 2 _ rfl (by kernel_rfl)
      have e0 : B.tmps[28]?.getD undef = .slice (some ⟨b, 0, none⟩) k c1 := (got_in hB (by rfl) (by simp)).trans h0
      clear hB hpre h0
      unfold Oper.wp
      go_simp
      refine (hC1.out _ (Below.undrew hb)).mono ?_
      rintro e w' ⟨s, rfl, hr, hb'⟩
      exact ⟨_, rfl, hb', s, rfl, hr⟩
    · intro v wx hb hpre
      refine ⟨by rfl, fun B hB => ?_⟩
      have e0 : B.tmps[0]?.getD undef = .slice (some ⟨b, 0, none⟩) N c1 := got_out hB (by rfl)
      clear hB hpre
      unfold Oper.wp
      go_simp
      exact ⟨_, rfl, Below.refl _ _, rfl⟩
    · intro v wx hb hpre
      refine ⟨by rfl, fun B hB => ?_⟩
      have e0 : B.tmps[5]?.getD undef = .int .i64 k := got_out hB (by rfl)
      clear hB hpre
      unfold Oper.wp
      go_simp
      exact ⟨_, rfl, Below.refl _ _, rfl⟩
    · intro v wx hb hpre
      refine ⟨by rfl, fun B hB => ?_⟩
      obtain ⟨_, _, _, _, _, h0⟩ := hpre 4 _ rfl (by kernel_rfl)
      obtain ⟨_, _, _, _, _, h1⟩ := hpre 5 _ rfl (by kernel_rfl)
      have e0 : B.tmps[30]?.getD undef = .slice (some ⟨b, 0, none⟩) N c1 := (got_in hB (by rfl) (by simp)).trans h0
      have e1 : B.tmps[31]?.getD undef = .int .i64 k := (got_in hB (by rfl) (by simp)).trans h1
      clear hB hpre h0 h1
      unfold Oper.wp
      go_simp
      exact ⟨_, rfl, Below.refl _ _, rfl⟩
    · intro v wx hb hpre
      refine ⟨by rfl, fun B hB => ?_⟩
      obtain ⟨_, _, _, _, _, h0⟩ := hpre 6 _ rfl (by kernel_rfl)
      have e0 : B.tmps[32]?.getD undef = .slice (some ⟨b, k, none⟩) (N - k) (c1 - k) := (got_in hB (by rfl) (by simp)).trans h0
      clear hB hpre h0
      unfold Oper.wp
      go_simp
      refine (hC2.out _ (Below.undrew hb)).mono ?_
      rintro e w' ⟨s, rfl, hr, hb'⟩
      exact ⟨_, rfl, hb', s, rfl, hr⟩
    · intro v wx hb hpre
      refine ⟨by rfl, fun B hB => ?_⟩
      have e0 : B.tmps[0]?.getD undef = .slice (some ⟨b, 0, none⟩) N c1 := got_out hB (by rfl)
      clear hB hpre
      unfold Oper.wp
      go_simp
      exact ⟨_, rfl, Below.refl _ _, rfl⟩
    · intro v wx hb hpre
      refine ⟨by rfl, fun B hB => ?_⟩
      obtain ⟨_, _, _, _, _, h0⟩ := hpre 8 _ rfl (by kernel_rfl)
      have e0 : B.tmps[34]?.getD undef = .slice (some ⟨b, 0, none⟩) N c1 := (got_in hB (by rfl) (by simp)).trans h0
      clear hB hpre h0
      unfold Oper.wp
      go_simp
      refine (hC3.out _ (Below.undrew hb)).mono ?_
      rintro e w' ⟨s, rfl, hr, hb'⟩
      exact ⟨_, rfl, hb', s, rfl, hr⟩
    all_goals
      intro v wx hb hpre
      refine ⟨by rfl, fun B hB => ?_⟩
      clear hB hpre
      unfold Oper.wp
      go_simp
      exact ⟨_, rfl, (Below.refl _ _).alloc (Nat.le_refl _) _, wx.heap.size, rfl, Bk.new _ _ _, Nat.le_refl _, by simp⟩

theorem law_FnSumParts (n c : Nat) (A : Option Addr) (Z : Nat → Int) (ar : Int) (w : World) (hn : n ≤ maxLen) (hZ : ∀ i, i < n → ∃ a, A = some a ∧ w.cell? (a.add i) = some (.int .i64 (Z i))) :
    Calls Tryz.prog 7 #[.slice A n c, .int .i64 ar] w fun e w' => e = .returned (.bool true) ∧ Below w.heap.size w w' := by
  unfold maxLen at hn
  by_cases h1 : 2147483647 < n
  · clear hZ
    go_enter Tryz.func7, Tryz.ntmps7
    go_wp2_with fail
    go_ret
    exact ⟨rfl, Below.refl _ _⟩
  · exact sumParts_in n c A Z ar w (by omega) hZ
end Go.Proofs.YtndabbepepbnmaaGreatDoor
