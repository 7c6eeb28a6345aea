import Derived.Test.YtdanlcciefbboaaGreatSo14
import Derived.Test.YtdanlcciefbboaaGreatMx
import Derived.Test.YtdanlcciefbboaaGreatFl
import Derived.Sort.AssemblyPlain
namespace Go.Proofs.YtdanlcciefbboaaGreat
open Go.RowKit Go.Sort

theorem calleesF : CalleesF where
  ins := insertionSort_flt
  brk := breakPatterns_flt
  piv := choosePivot_flt
  par := partialInsertionSort_flt
  peq := partitionEqualOrdered_flt
  prt := partitionOrdered_flt
theorem plainF : PlainF where
  swo := swo_ltF
  ins := insertionSort_holds
  par := partialInsertionSort_holds
  prt := partition_holds _
  peq := partitionEqual_holds _
  pdq := pdq_sorts _
theorem pdqWalkF : pdqWalk_flt := fun blk off cap a b limit d w hH hb hab hbd hsz hl hB =>
  pdqsort_flt calleesF plainF (b - a + 1) blk off cap a b limit d w (by omega) hH hb hab hbd hsz hl hB

/-- the same floats in their order -/
def sortF (zs : List Fz) : List Fz := (Sort.sort ltF zs.toArray).toList
theorem sortF_perm (zs : List Fz) : (sortF zs).Perm zs := by
  have h := (sort_sorts ltF swo_ltF zs.toArray).1
  obtain ⟨h1, _, h3⟩ := h
  have e : (Sort.sort ltF zs.toArray).extract 0 zs.toArray.size = Sort.sort ltF zs.toArray := by rw [← h1]; simp
  rw [e] at h3
  simpa [sortF] using h3
theorem sortF_len (zs : List Fz) : (sortF zs).length = zs.length := (sortF_perm zs).length_eq

set_option maxRecDepth 100000 in
/-- sort.Float64s on a row of the call's own -/
theorem float64s_own (zs : List Fz) (v : Value) (base : Nat) (w : World) (h : w.ownsRow base 39 1 v zs.length (zs.map encF)) (hne : zs ≠ []) (hlen : zs.length < 4611686018427387904) :
    Calls Tryz.prog 47 #[v] w fun e w' => e = .returned (.tuple #[]) ∧ w'.ownsRow base 39 1 v zs.length ((sortF zs).map encF) ∧ w.grownBy w' v.ownBlock := by
  have hpos : 0 < zs.length := List.length_pos_iff.2 hne
  obtain ⟨_, ⟨_, h0⟩ | ⟨g, cap, cur, rfl, hb, hh, h1, h2, h3, h4⟩⟩ := h
  · omega
  rw [Nat.mul_one] at h4
  have hH : Holds encF w g 0 zs.toArray := by
    intro j hj
    have hj' : j < zs.length := by simpa using hj
    refine ⟨?_, frozen_of_row w g _ cur _ hh⟩
    rw [Nat.zero_add, cell_of_row w g j cur _ _ hh]
    have := congrArg (fun l => l[j]?) h4
    simp only [List.getElem?_take_of_lt hj', Array.getElem?_toList] at this
    rw [this]
    simp [hj']
  have hg : g < w.heap.size := (Array.getElem?_eq_some_iff.1 hh).1
  have hc := Float64s_flt pdqWalkF g 0 cap zs.toArray w hH hg (by simpa using hlen)
  rw [show zs.toArray.size = zs.length by simp] at hc
  refine hc.mono ?_
  rintro e w' ⟨he, n, os, rfl⟩
  obtain ⟨S, hS⟩ : ∃ S, Sort.sort ltF zs.toArray = S := ⟨_, rfl⟩
  have hSl : S.size = zs.length := by have := sortF_len zs; rw [sortF, hS] at this; simpa using this
  rw [show sortF zs = S.toList by rw [sortF, hS], hS]
  have hheap : (grow (putRow encF (Sort.ahead w n) g 0 S) os).heap[g]? = some (.cells (putCells encF 0 S cur) 39 (0, 0)) := by
    rw [heap_grow_old _ _ (by simpa using hg)]
    simp [putRow, mapBlock, Sort.ahead, Array.getElem?_modify, hh, onCells]
  refine ⟨he, ⟨by simp [hSl], .inr ⟨g, cap, _, rfl, hb, hheap, h1, h2, by simpa [putCells] using h3, ?_⟩⟩, rfl, rfl, rfl, by simp, fun k hk hne => ?_⟩
  · apply List.ext_getElem?
    intro j
    by_cases hj : j < zs.length
    · rw [Nat.mul_one, List.getElem?_take_of_lt hj, Array.getElem?_toList]
      have hjc : j < cur.size := by omega
      have hjS : j < S.size := by omega
      simp [putCells, hjc, hjS]
    · rw [List.getElem?_take_eq_none (by omega), List.getElem?_eq_none (by simp; omega)]
  · rw [heap_grow_old _ _ (by simpa using hk)]
    have : g ≠ k := fun e => hne (by rw [e]; rfl)
    simp [putRow, mapBlock, Sort.ahead, Array.getElem?_modify, this]

/-- a whole number in sixteenths -/
def fzOf (z : Int) : Fz := if h : (z * 16).natAbs < 9007199254740992 then ⟨z * 16, h⟩ else ⟨0, by decide⟩
theorem fzOf_val {z : Int} (h : z.natAbs ≤ 1000000) : (fzOf z).1 = z * 16 := by
  unfold fzOf
  rw [dif_pos (by omega)]
theorem encF_fzOf {z : Int} (h : z.natAbs ≤ 1000000) : encF (fzOf z) = .float .f64 (enc z 0) := by
  show Value.float .f64 (bitsF (fzOf z)) = _
  rw [bitsF_eq, fzOf_val h]
  have := enc_shift z 0 4 (by omega) (by omega)
  rw [show (2 : Int) ^ 4 = 16 from rfl] at this
  rw [this]
/-- whole numbers in their order -/
noncomputable def srt (zs : List Int) : List Int := (sortF (zs.map fzOf)).map fun x => x.1 / 16
theorem srt_mem {zs : List Int} (hz : ∀ z ∈ zs, z.natAbs ≤ 1000000) : ∀ x ∈ sortF (zs.map fzOf), ∃ z ∈ zs, x = fzOf z ∧ x.1 / 16 = z := by
  intro x hx
  have := (sortF_perm (zs.map fzOf)).mem_iff.1 hx
  obtain ⟨z, hzm, rfl⟩ := List.mem_map.1 this
  exact ⟨z, hzm, rfl, by rw [fzOf_val (hz z hzm)]; omega⟩
theorem srt_bound {zs : List Int} {B : Nat} (hB : B ≤ 1000000) (hz : ∀ z ∈ zs, z.natAbs ≤ B) : ∀ z ∈ srt zs, z.natAbs ≤ B := by
  intro z h
  obtain ⟨x, hx, rfl⟩ := List.mem_map.1 h
  obtain ⟨y, hy, _, h2⟩ := srt_mem (fun z hz' => Nat.le_trans (hz z hz') hB) x hx
  rw [h2]; exact hz y hy
theorem srt_len (zs : List Int) : (srt zs).length = zs.length := by simp [srt, sortF_len]
/-- the cells of whole numbers, as floats -/
def flI (zs : List Int) : List Value := zs.map fun z => .float .f64 (enc z 0)
theorem flI_of {zs : List Int} (hz : ∀ z ∈ zs, z.natAbs ≤ 1000000) : (zs.map fzOf).map encF = flI zs := by
  rw [flI, List.map_map]
  exact List.map_congr_left fun z h => encF_fzOf (hz z h)
theorem flI_srt {zs : List Int} (hz : ∀ z ∈ zs, z.natAbs ≤ 1000000) : (sortF (zs.map fzOf)).map encF = flI (srt zs) := by
  rw [flI, srt, List.map_map]
  apply List.map_congr_left
  intro x hx
  obtain ⟨z, hzm, h1, h2⟩ := srt_mem hz x hx
  show encF x = .float .f64 (enc (x.1 / 16) 0)
  rw [h2, h1, encF_fzOf (hz z hzm)]

/-- sort.Float64s on a row of whole numbers -/
theorem float64s_ints (zs : List Int) (hz : ∀ z ∈ zs, z.natAbs ≤ 1000000) (hne : zs ≠ []) (hlen : zs.length ≤ 1000) (v : Value) (base : Nat) (w : World) (h : w.ownsRow base 39 1 v zs.length (flI zs)) :
    Calls Tryz.prog 47 #[v] w fun e w' => e = .returned (.tuple #[]) ∧ w'.ownsRow base 39 1 v zs.length (flI (srt zs)) ∧ w.grownBy w' v.ownBlock := by
  have := float64s_own (zs.map fzOf) v base w (by rw [flI_of hz, List.length_map]; exact h) (by simpa using hne) (by rw [List.length_map]; omega)
  rw [flI_srt hz, List.length_map] at this
  exact this
end Go.Proofs.YtdanlcciefbboaaGreat
