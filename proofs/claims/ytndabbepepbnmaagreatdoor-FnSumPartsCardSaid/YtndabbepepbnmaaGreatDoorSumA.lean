import Derived.Test.YtndabbepepbnmaaGreatDoorAsk
import Derived.Test.YtndabbepepbnmaaGreatDoorSumL
import Derived.Test.YtndabbepepbnmaaGreatDoorCountL
namespace Go.Proofs.YtndabbepepbnmaaGreatDoor
open Go.RowKit

theorem FS_ints (l : List Int) : ∀ (a : Int) (M : Nat), a.natAbs ≤ M → (∀ z ∈ l, z.natAbs ≤ 10000) → M + l.length * 10000 ≤ 1000000000 → FS (enc a 0) (l.map fun z => enc z 0) (enc (a + l.sum) 0) := by
  induction l with
  | nil => intro a M _ _ _; show enc a 0 = enc (a + [].sum) 0; simp
  | cons z l ih =>
    intro a M ha hz hM
    have h1 := hz z (by simp)
    rw [List.length_cons] at hM
    refine ⟨enc (a + z) 0, add_whole a z 0 (by omega) (by omega) (by omega) (by omega), ?_⟩
    have := ih (a + z) (M + 10000) (by omega) (fun y hy => hz y (by simp [hy])) (by omega)
    rw [List.sum_cons, ← Int.add_assoc]
    exact this

theorem nums_cols (l : List (List Int)) (hne : ∀ zs ∈ l, zs ≠ []) : nums ((l.map colM).map amOf) = l.flatten.map fun z => enc z 0 := by
  unfold nums
  induction l with
  | nil => rfl
  | cons zs l ih =>
    rw [List.map_cons, List.map_cons, List.flatMap_cons, ih (fun y hy => hne y (by simp [hy])), List.flatten_cons, List.map_append]
    congr 1
    unfold numsOf
    rw [if_neg (by rw [colM_rows]; simpa using hne zs (by simp)), colM_flat, List.map_map]
    rfl

theorem colM_num (zs : List Int) (hne : zs ≠ []) (hl : zs.length ≤ 120) (hz : ∀ z ∈ zs, z.natAbs ≤ 10000) : numAm (amOf (colM zs)) := by
  refine .inr ⟨by rw [colM_rows]; simpa using hne, fun a ha => ?_, fun r hr => ?_, by rw [colM_rows, List.length_map]; omega, by rw [colM_flat, List.length_map]; omega⟩
  · rw [colM_flat] at ha
    obtain ⟨z, hzm, rfl⟩ := List.mem_map.1 ha
    have := hz z hzm
    exact ⟨rfl, nz_whole z (by omega)⟩
  · rw [colM_rows] at hr
    obtain ⟨z, _, rfl⟩ := List.mem_map.1 hr
    simp

theorem sum_bound (l : List Int) (hz : ∀ z ∈ l, z.natAbs ≤ 10000) : l.sum.natAbs ≤ l.length * 10000 := by
  induction l with
  | nil => simp
  | cons z l ih =>
    have h1 := hz z (by simp)
    have h2 := ih (fun y hy => hz y (by simp [hy]))
    rw [List.sum_cons, List.length_cons]
    omega

theorem SUM_cols (l : List (List Int)) (hne : ∀ zs ∈ l, zs ≠ []) (hl : ∀ zs ∈ l, zs.length ≤ 120) (hz : ∀ zs ∈ l, ∀ z ∈ zs, z.natAbs ≤ 10000) (hf : l.flatten.length ≤ 10000) :
    FnM 109 ((l.map colM).map amOf) (.num (enc l.flatten.sum 0)) := by
  have hz' : ∀ z ∈ l.flatten, z.natAbs ≤ 10000 := fun z hm => by
    obtain ⟨zs, h1, h2⟩ := List.mem_flatten.1 hm
    exact hz zs h1 z h2
  have hb := sum_bound l.flatten hz'
  have := SUM_walk ((l.map colM).map amOf) (enc l.flatten.sum 0) (fun m hm => by
    obtain ⟨x, hx, rfl⟩ := List.mem_map.1 hm
    obtain ⟨zs, hzs, rfl⟩ := List.mem_map.1 hx
    exact colM_num zs (hne zs hzs) (hl zs hzs) (hz zs hzs)) (by
    rw [nums_cols l hne]
    have := FS_ints l.flatten 0 0 (by simp) hz' (by omega)
    rw [enc_zero, Int.zero_add] at this
    exact this) (fin_enc _ 0 (by omega) (by omega))
  rw [nz_whole _ (by omega)] at this
  exact this

theorem SUM_nums (a b : Int) (ha : a.natAbs ≤ 100000000) (hb : b.natAbs ≤ 100000000) : FnM 109 [((1, enc a 0, es), []), ((1, enc b 0, es), [])] (.num (enc (a + b) 0)) := by
  have := SUM_walk [((1, enc a 0, es), []), ((1, enc b 0, es), [])] (enc (a + b) 0) (fun m hm => by
    simp at hm
    rcases hm with rfl | rfl
    · exact .inl ⟨rfl, rfl, nz_whole a (by omega)⟩
    · exact .inl ⟨rfl, rfl, nz_whole b (by omega)⟩) (by
    show FS 0 [enc a 0, enc b 0] _
    refine ⟨enc a 0, ?_, enc (a + b) 0, add_whole a b 0 (by omega) (by omega) (by omega) (by omega), rfl⟩
    have := add_whole 0 a 0 (by simp) (by omega) (by omega) (by omega)
    rw [enc_zero, Int.zero_add] at this
    exact this) (fin_enc _ 0 (by omega) (by omega))
  rw [nz_whole _ (by omega)] at this
  exact this

theorem COUNT_cols (l : List (List Int)) (hne : ∀ zs ∈ l, zs ≠ []) (hl : ∀ zs ∈ l, zs.length ≤ 120) (hz : ∀ zs ∈ l, ∀ z ∈ zs, z.natAbs ≤ 10000) (hf : l.flatten.length ≤ 10000) :
    FnM 110 ((l.map colM).map amOf) (.num (enc (l.flatten.length : Int) 0)) :=
  COUNT_walk _ _ (fun m hm => by
    obtain ⟨x, hx, rfl⟩ := List.mem_map.1 hm
    obtain ⟨zs, hzs, rfl⟩ := List.mem_map.1 hx
    exact colM_num zs (hne zs hzs) (hl zs hzs) (hz zs hzs)) (by rw [nums_cols l hne, List.length_map]) (by omega)

theorem colM_cells (zs : List Int) (s : Value) : smCells (colM zs, s) = [.int .i64 5, .int .i64 0, .int .i64 0, .string es, s] := rfl
/-- a row of one column, just laid -/
theorem lit_col {w : World} {g : Nat} {s : Value} {zs : List Int} (h : Bk w g 24 #[.int .i64 5, .int .i64 0, .int .i64 0, .string es, s]) (hr : Rws w w.heap.size 5 svCells s (colRows zs)) :
    SlM w (fun b => b < w.heap.size) 5 smCells 5 svCells (.slice (some ⟨g, 0, none⟩) 1 1) [colM zs] :=
  ⟨[(colM zs, s)], rfl, (Sl.lit (n := 1) (sz := 5) h 1 rfl), fun p hp => by obtain rfl := List.mem_singleton.1 hp; exact hr⟩
theorem lit_cols {w : World} {g : Nat} {s s' : Value} {zs ys : List Int} (h : Bk w g 24 #[.int .i64 5, .int .i64 0, .int .i64 0, .string es, s, .int .i64 5, .int .i64 0, .int .i64 0, .string es, s']) (hr : Rws w w.heap.size 5 svCells s (colRows zs)) (hr' : Rws w w.heap.size 5 svCells s' (colRows ys)) :
    SlM w (fun b => b < w.heap.size) 5 smCells 5 svCells (.slice (some ⟨g, 0, none⟩) 2 2) [colM zs, colM ys] :=
  ⟨[(colM zs, s), (colM ys, s')], rfl, (Sl.lit (n := 2) (sz := 5) h 2 rfl), fun p hp => by
    simp at hp
    rcases hp with rfl | rfl
    · exact hr
    · exact hr'⟩
end Go.Proofs.YtndabbepepbnmaaGreatDoor
