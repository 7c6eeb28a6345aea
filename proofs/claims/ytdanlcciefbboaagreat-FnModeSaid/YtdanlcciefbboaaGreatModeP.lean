import Derived.Test.YtdanlcciefbboaaGreatCallM
import Derived.Test.YtdanlcciefbboaaGreatModeX
import Derived.Test.YtdanlcciefbboaaGreatAllM
import Derived.Test.YtdanlcciefbboaaGreatWith
namespace Go.Proofs.YtdanlcciefbboaaGreat
open Go.RowKit

/-- arguments whose shape fits the walk of MODE -/
structure Shaped (ms : List SM) : Prop where
  ne : ms ≠ []
  len : ms.length ≤ 20
  mat : ∀ m ∈ ms, m.1.1 = 5 → m.2 ≠ [] ∧ (∀ r ∈ m.2, r ≠ []) ∧ m.2.length ≤ 1000 ∧ m.2.flatten.length ≤ 1000
  flat : ∀ m ∈ ms, m.1.1 ≠ 5 → m.2 = []
  tot : (flatM ms).length ≤ 2000

theorem qn_bound {a : SV} (h : numG a) : (qn a).natAbs < 9007199254740992 := by
  obtain ⟨_, _, h3, _⟩ := h
  unfold qn
  split
  · omega
  · split <;> omega
theorem fnum_num {a : SV} (h : numG a) : fnum a = enc (qn a) 4 := by
  obtain ⟨k, n, d, t⟩ := a
  obtain ⟨h1, h2, h3, h4⟩ := h
  dsimp only at *
  subst h1
  unfold fnum qn
  dsimp only
  rw [if_pos rfl]
  have hn : n.natAbs < 9007199254740992 := by omega
  rcases h2 with rfl | ⟨rfl | rfl, _⟩
  · rw [show ((1 : Int).toNat.log2) = 0 from by decide]
    have := enc_shift n 0 4 hn (by omega)
    rw [show (2 : Int) ^ 4 = 16 from rfl] at this
    rw [if_pos rfl, ← this]
  · rw [show ((2 : Int).toNat.log2) = 1 from by decide]
    have := enc_shift n 1 3 hn (by omega)
    rw [show (2 : Int) ^ 3 = 8 from rfl] at this
    rw [if_neg (by decide), if_pos rfl, ← this]
  · rw [show ((4 : Int).toNat.log2) = 2 from by decide]
    have := enc_shift n 2 2 hn (by omega)
    rw [show (2 : Int) ^ 2 = 4 from rfl] at this
    rw [if_neg (by decide), if_neg (by decide), ← this]
theorem svOk_num {a : SV} (h : numG a) : svOk a := by
  obtain ⟨h1, h2, h3, h4⟩ := h
  refine ⟨fun _ => ?_, by rw [h1]; decide⟩
  rcases h2 with h2 | ⟨h2 | h2, _⟩
  · exact ⟨0, by omega, by rw [h2]; rfl, by omega⟩
  · exact ⟨1, by omega, by rw [h2]; rfl, by omega⟩
  · exact ⟨2, by omega, by rw [h2]; rfl, by omega⟩

/-- a number as an element of the sort -/
def fzQ (z : Int) : Fz := if h : z.natAbs < 9007199254740992 then ⟨z, h⟩ else ⟨0, by decide⟩
theorem fzQ_val {z : Int} (h : z.natAbs < 9007199254740992) : (fzQ z).1 = z := by unfold fzQ; rw [dif_pos h]
theorem encF_fzQ {a : SV} (h : numG a) : encF (fzQ (qn a)) = .float .f64 (fnum a) := by
  show Value.float .f64 (bitsF (fzQ (qn a))) = _
  rw [bitsF_eq, fzQ_val (qn_bound h), fnum_num h]

theorem rowsOf_flatten (rows : List (List SV)) : (rowsOf rows).flatten = rows.flatten.map avOf := by
  unfold rowsOf; rw [List.map_flatten]
theorem cellsA_of {m : SM} (h : m.1.1 ≠ 5 → m.2 = []) (h5 : m.1.1 = 5 → m.2 ≠ []) : cellsA (amOf m) = (flat1 m).map avOf := by
  unfold cellsA amOf flat1
  dsimp only
  by_cases h0 : m.1.1 = 5
  · rw [if_pos h0, if_neg (by unfold rowsOf; simpa using h5 h0), rowsOf_flatten]
  · rw [if_neg h0, h h0, if_pos (show rowsOf [] = [] from rfl)]; rfl
theorem numC_of (l : List SV) (h : ∀ a ∈ l, a.1 = 1 → numG a) : numC (l.map avOf) = ((numsOf l).map qn).map fun z => encF (fzQ z) := by
  unfold numC numsOf
  rw [List.filter_map, List.map_map, List.map_map]
  have e : (fun a : AV => a.1 == 1) ∘ avOf = fun a : SV => a.1 == 1 := rfl
  rw [e]
  apply List.map_congr_left
  intro a ha
  obtain ⟨h1, h2⟩ := List.mem_filter.1 ha
  show Value.float .f64 (fnum a) = encF (fzQ (qn a))
  rw [encF_fzQ (h a h1 (by simpa using h2))]

theorem numK_of (ms : List SM) (hS : Shaped ms) (hG : ∀ a ∈ flatM ms, a.1 = 1 → numG a) : numK (ms.map amOf) = ((numsOf (flatM ms)).map qn).map fun z => encF (fzQ z) := by
  have hs1 := hS.flat
  have hs2 := fun m hm h => (hS.mat m hm h).1
  clear hS
  induction ms with
  | nil => rfl
  | cons m ms ih =>
    have e1 : flatM (m :: ms) = flat1 m ++ flatM ms := by unfold flatM flat1; rw [List.flatMap_cons]
    have e2 : numK ((m :: ms).map amOf) = numC (cellsA (amOf m)) ++ numK (ms.map amOf) := by unfold numK; rw [List.map_cons, List.flatMap_cons]
    rw [e1] at hG ⊢
    rw [e2, numsOf_append, List.map_append, List.map_append, cellsA_of (hs1 m (by simp)) (hs2 m (by simp)), numC_of _ (fun a ha => hG a (by simp [ha])),
      ih (fun a ha => hG a (by simp [ha])) (fun m' hm => hs1 m' (by simp [hm])) (fun m' hm => hs2 m' (by simp [hm]))]

theorem len_flatten_le {α : Type} : ∀ {rows : List (List α)} {r : List α}, r ∈ rows → r.length ≤ rows.flatten.length
  | r0 :: rows, r, h => by
    rw [List.flatten_cons, List.length_append]
    rcases List.mem_cons.1 h with rfl | h
    · omega
    · have := len_flatten_le h; omega
theorem mem_flatM {ms : List SM} {m : SM} (hm : m ∈ ms) {a : SV} (ha : a ∈ flat1 m) : a ∈ flatM ms := List.mem_flatMap.2 ⟨m, hm, ha⟩

/-- the program's answer -/
def modeGood (ms : List SM) (a : SV) : Prop := ∃ r, FnM 24 (ms.map amOf) r ∧ r.av = (a.1, fnum a, a.2.2.2) ∧ svOk a ∧ fin (fnum a) ∧ (∀ m ∈ ms, smOk m) ∧ ∀ m ∈ ms.map amOf, amOk m

theorem mode_plain (ms : List SM) (hA : Asked ms) (hS : Shaped ms) (a : SV) (hr : refAns ms a) (h6 : a.1 ≠ 6) : modeGood ms a := by
  rcases hr with h | ⟨hM, h | ⟨hne, htw, hbest⟩⟩
  · exact absurd h h6
  · exact absurd h h6
  have hG : ∀ x ∈ flatM ms, x.1 = 1 → numG x := fun x hx h1 => by
    rcases hA.good x hx with h | h | h | h
    · exact h
    · omega
    · omega
    · omega
  obtain ⟨L, hL⟩ : ∃ L, (numsOf (flatM ms)).map qn = L := ⟨_, rfl⟩
  rw [hL] at htw hbest
  have hLb : ∀ z ∈ L, z.natAbs < 9007199254740992 := fun z hz => by
    rw [← hL] at hz
    obtain ⟨x, hx, rfl⟩ := List.mem_map.1 hz
    obtain ⟨h1, h2⟩ := List.mem_filter.1 hx
    exact qn_bound (hG x h1 (by simpa using h2))
  have hL0 : L ≠ [] := fun e => hne (by rw [← List.length_eq_zero_iff, ← List.length_map (f := qn), hL, e]; rfl)
  have hLl : L.length ≤ 2000 := by
    rw [← hL, List.length_map]
    exact Nat.le_trans (numsOf_le _) hS.tot
  obtain ⟨Z, hZ⟩ : ∃ Z, L.map fzQ = Z := ⟨_, rfl⟩
  have hZv : Z.map (·.1) = L := by
    rw [← hZ, List.map_map]
    have : L.map ((fun x : Fz => x.1) ∘ fzQ) = L.map id := List.map_congr_left fun z hz => fzQ_val (hLb z hz)
    rw [this, List.map_id]
  have hK : numK (ms.map amOf) = Z.map encF := by
    rw [numK_of ms hS hG, hL, ← hZ, List.map_map]; rfl
  have hSm : ∀ m ∈ ms, smOk m := fun m hm => by
    by_cases h5 : m.1.1 = 5
    · obtain ⟨_, _, h3, h4⟩ := hS.mat m hm h5
      refine .inr ⟨h5, h3, fun r hr => ?_⟩
      have hrl : r.length ≤ m.2.flatten.length := by
        exact len_flatten_le hr
      refine ⟨by omega, fun x hx => ?_⟩
      have hxm : x ∈ flat1 m := by unfold flat1; rw [if_pos h5]; exact List.mem_flatten.2 ⟨r, hr, hx⟩
      have hxk : x.1 = 0 ∨ x.1 = 1 ∨ x.1 = 2 := by
        rcases hM m hm with h | ⟨_, h⟩
        · omega
        · exact h x (List.mem_flatten.2 ⟨r, hr, hx⟩)
      rcases hxk with h | h | h
      · exact ⟨fun e => by omega, by omega⟩
      · exact svOk_num (hG x (mem_flatM hm hxm) h)
      · exact ⟨fun e => by omega, by omega⟩
    · refine .inl ⟨hS.flat m hm h5, ?_⟩
      rcases hM m hm with h | ⟨h, _⟩
      · exact svOk_num (hG m.1 (mem_flatM hm (by unfold flat1; rw [if_neg h5]; simp)) h)
      · exact absurd h h5
  have hAm : ∀ m ∈ ms.map amOf, amOk m := fun m' hm' => by
    obtain ⟨m, hm, rfl⟩ := List.mem_map.1 hm'
    rcases hSm m hm with ⟨h0, hv⟩ | ⟨h5, hl, hr⟩
    · refine .inl ⟨by unfold amOf; rw [h0]; rfl, avOk_of _ hv⟩
    · refine .inr ⟨h5, ?_, by unfold amOf rowsOf; simpa using hl, fun r hr' => ?_⟩
      · unfold amOf rowsOf; simpa using (hS.mat m hm h5).1
      · unfold amOf rowsOf at hr'
        obtain ⟨r0, hr0, rfl⟩ := List.mem_map.1 hr'
        refine ⟨by rw [List.length_map]; exact (hr r0 hr0).1, fun x hx => ?_⟩
        obtain ⟨y, hy, rfl⟩ := List.mem_map.1 hx
        exact avOk_of _ ((hr r0 hr0).2 y hy)
  have hMo : ∀ m ∈ ms.map amOf, argMo m := fun m' hm' => by
    obtain ⟨m, hm, rfl⟩ := List.mem_map.1 hm'
    have hcell : ∀ x ∈ flat1 m, x.1 = 1 → nz (fnum x) = fnum x ∧ fin (fnum x) := fun x hx h1 => by
      have hg := hG x (mem_flatM hm hx) h1
      rw [fnum_num hg]
      exact ⟨nz_enc _ 4 (qn_bound hg) (by omega), fin_enc _ 4 (qn_bound hg) (by omega)⟩
    by_cases h5 : m.1.1 = 5
    · obtain ⟨h1, h2, h3, h4⟩ := hS.mat m hm h5
      refine .inr ⟨by unfold amOf rowsOf; simpa using h1, fun r hr => ?_, by unfold amOf rowsOf; simpa using h3, ?_, fun x hx => ?_⟩
      · unfold amOf rowsOf at hr
        obtain ⟨r0, hr0, rfl⟩ := List.mem_map.1 hr
        simpa using h2 r0 hr0
      · show (rowsOf m.2).flatten.length ≤ 1000
        rw [rowsOf_flatten, List.length_map]; exact h4
      · have hx' : x ∈ (rowsOf m.2).flatten := hx
        rw [rowsOf_flatten] at hx'
        obtain ⟨y, hy, rfl⟩ := List.mem_map.1 hx'
        have hyf : y ∈ flat1 m := by unfold flat1; rw [if_pos h5]; exact hy
        have hyk : y.1 = 0 ∨ y.1 = 1 ∨ y.1 = 2 := by
          rcases hM m hm with h | ⟨_, h⟩
          · omega
          · exact h y hy
        rcases hyk with h | h | h
        · exact .inl h
        · exact .inr (.inl ⟨h, hcell y hyf h⟩)
        · exact .inr (.inr h)
    · have h1 : m.1.1 = 1 := by
        rcases hM m hm with h | ⟨h, _⟩
        · exact h
        · exact absurd h h5
      have := hcell m.1 (by unfold flat1; rw [if_neg h5]; simp) h1
      refine .inl ⟨by unfold amOf; rw [hS.flat m hm h5]; rfl, h1, this.1, this.2⟩
  have hW := MODE_walk (ms.map amOf) hMo (by simpa using hS.ne) (by rw [List.length_map]; exact hS.len) Z (by rw [← hZ]; simpa using hL0) hK (by rw [← hZ, List.length_map]; exact hLl)
  have hP : ((sortF Z).map (·.1)).Perm L := by
    rw [← hZv]
    exact (sortF_perm Z).map _
  have hms := mode_same hP htw
  obtain ⟨s, hs⟩ : ∃ s, (sortF Z).map (·.1) = s := ⟨_, rfl⟩
  rw [hs] at hW hms
  rcases hbest with ⟨hn, rfl⟩ | ⟨z, hz, hGa, hqa⟩
  · rcases hms with ⟨_, h0⟩ | ⟨x, hx, _⟩
    · refine ⟨_, hW, ?_, ⟨fun e => absurd e (by decide), by decide⟩, ?_, hSm, hAm⟩
      · unfold modeR; rw [if_pos h0]; rfl
      · exact fin_zero
    · rw [hn] at hx; cases hx
  · rcases hms with ⟨h, _⟩ | ⟨x, hx, h0, h1⟩
    · rw [hz] at h; cases h
    · rw [hz] at hx
      injection hx with hx
      subst hx
      refine ⟨_, hW, ?_, svOk_num hGa, ?_, hSm, hAm⟩
      · unfold modeR; rw [if_neg h0, h1]
        show ((1 : Int), enc z 4, es) = _
        rw [fnum_num hGa, hqa, hGa.1, hGa.2.2.2]
      · rw [fnum_num hGa]; exact fin_enc _ 4 (qn_bound hGa) (by omega)
end Go.Proofs.YtdanlcciefbboaaGreat
