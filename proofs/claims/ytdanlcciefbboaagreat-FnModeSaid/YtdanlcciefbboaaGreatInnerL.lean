import Derived.Test.YtdanlcciefbboaaGreatInner
namespace Go.Proofs.YtdanlcciefbboaaGreat
open Go.RowKit
attribute [local go_sem] run_store_float

/-- an argument that is spoken of: flat, or rows of flat ones -/
def amOk (m : AM) : Prop := (m.2 = [] ∧ avOk m.1) ∨ (m.1.1 = 5 ∧ m.2 ≠ [] ∧ m.2.length ≤ 1000 ∧ ∀ r ∈ m.2, r.length ≤ 1000 ∧ ∀ a ∈ r, avOk a)
theorem amOk.len {m : AM} (h : amOk m) : amLen m := by
  rcases h with ⟨h, _⟩ | ⟨_, _, h, h2⟩
  · unfold amLen; rw [h]; simp
  · exact ⟨h, fun r hr => (h2 r hr).1⟩

/-- the interface value v holds the formulaArg of m; what it leads to lies in S -/
def ArgOk (w : World) (S : Nat → Prop) (v : Value) (m : AM) : Prop :=
  (m.2 = [] ∧ v = avI m.1) ∨ (m.2 ≠ [] ∧ ∃ u, v = .iface 63 u ∧ MxA w S u m.2)
theorem ArgOk.keep {w w' : World} {S S' : Nat → Prop} {v : Value} {m : AM} (H : ArgOk w S v m) (hk : ∀ b, S b → w'.heap[b]? = w.heap[b]? ∧ S' b) : ArgOk w' S' v m := by
  rcases H with H | ⟨h0, u, hv, hm⟩
  · exact .inl H
  · exact .inr ⟨h0, u, hv, hm.keep hk⟩
def ArgsOk (w : World) (S : Nat → Prop) (vs : List Value) (ms : List AM) : Prop :=
  vs.length = ms.length ∧ ∀ (i : Nat) (v : Value) (m : AM), vs[i]? = some v → ms[i]? = some m → ArgOk w S v m
theorem ArgsOk.keep {w w' : World} {S S' : Nat → Prop} {vs : List Value} {ms : List AM} (H : ArgsOk w S vs ms) (hk : ∀ b, S b → w'.heap[b]? = w.heap[b]? ∧ S' b) : ArgsOk w' S' vs ms :=
  ⟨H.1, fun i v m hv hm => (H.2 i v m hv hm).keep hk⟩
theorem ArgsOk.push {w : World} {S : Nat → Prop} {vs : List Value} {ms : List AM} {v : Value} {m : AM} (H : ArgsOk w S vs ms) (h : ArgOk w S v m) : ArgsOk w S (vs ++ [v]) (ms ++ [m]) := by
  refine ⟨by simp [H.1], fun i v' m' hi hi' => ?_⟩
  rcases Nat.lt_trichotomy i vs.length with hl | hl | hl
  · rw [List.getElem?_append_left hl] at hi
    rw [List.getElem?_append_left (by rw [← H.1]; exact hl)] at hi'
    exact H.2 i v' m' hi hi'
  · subst hl
    rw [List.getElem?_append_right (Nat.le_refl _)] at hi
    rw [List.getElem?_append_right (by rw [H.1]; exact Nat.le_refl _), H.1] at hi'
    simp at hi hi'
    subst hi; subst hi'
    exact h
  · rw [List.getElem?_eq_none (by simp; omega)] at hi; cases hi

theorem innerArgM (m : AM) (s : Value) (w : World) (h : Rws w w.heap.size 4 avCells s m.2) (hok : amOk m) :
    Calls Tryz.prog 51 #[amV m.1 s] w fun e w' => ∃ u, e = .returned u ∧ ArgOk w' (fun b => w.heap.size ≤ b ∧ b < w'.heap.size) (.iface 63 u) m ∧ Below w.heap.size w w' := by
  obtain ⟨⟨k, x, t⟩, rows⟩ := m
  rcases hok with ⟨h0, hv⟩ | ⟨h5, hne, hl, hr⟩
  · simp only at h0
    subst h0
    obtain rfl : s = .slice none 0 0 := h.1 rfl
    exact (innerArg_any k x t w hv.1 hv.2).mono fun e w' ⟨he, hb⟩ => ⟨_, he, .inl ⟨rfl, rfl⟩, hb⟩
  · simp only at h5 hne hl hr
    subst h5
    exact (innerArg_mat rows x t s w h hne (fun r hm => (hr r hm).2) hl (fun r hm => (hr r hm).1)).mono fun e w' ⟨v, he, hm, hb⟩ => ⟨v, he, .inr ⟨hne, v, rfl, hm⟩, hb⟩

set_option maxHeartbeats 800000 in
theorem innerList_mat (ms : List AM) (v : Value) (w : World) (h : SlM w (fun b => b < w.heap.size) 4 amCells 4 avCells v ms) (hok : ∀ m ∈ ms, amOk m) (hlen : ms.length ≤ 1000) :
    Calls Tryz.prog 25 #[v] w fun e w' => ∃ el vs, e = .returned (ptr w.heap.size) ∧ IsL w' w.heap.size el vs ∧ ArgsOk w' (fun b => b < w'.heap.size) vs ms ∧ Below w.heap.size w w' := by
  obtain ⟨ps, rfl, ⟨A, c, rfl, hl, hc⟩, hrw⟩ := h
  rw [List.length_map] at hlen
  have HK := hid hok
  have HR := hid hrw
  clear hl hok hrw
  go_enter Tryz.func25, Tryz.ntmps25
  go_wp2_with fail
  refine (listNew_any _).mono ?_
  rintro e w1 ⟨rfl, hw1⟩
  have hL0 : Bk w1 w.heap.size 107 #[ptr w.heap.size, ptr w.heap.size, .pointer none, .nilIface, .int .i64 0] := by rw [hw1]; exact Bk.new _ _ _
  have hb0 : Below w.heap.size w w1 := by rw [hw1]; exact (Below.refl _ _).alloc (Nat.le_refl _) _
  clear hw1
  go_wp2_with fail
  go_loopw [9] (fun i wr => ∃ (k : Nat) (es : List Nat) (vs : List Value), k ≤ ps.length ∧ i = .int .i64 k ∧ IsL wr w.heap.size es vs ∧ Hid (ArgsOk wr (fun b => w.heap.size < b ∧ b < wr.heap.size ∧ ∀ (i g : Nat), es[i]? = some g → b ≠ g) vs ((ps.take k).map (fun p => p.1))) ∧ Below w.heap.size w wr) (fun i _ => ps.length - (intOf i).toNat)
  case atStart => exact ⟨0, [], [], Nat.zero_le _, rfl, IsL.nil hL0, hid ⟨rfl, fun i v m hi => by simp at hi⟩, hb0⟩
  case round =>
    obtain ⟨k, es, vs, hk, rfl, hL, hA, hb⟩ := hrel
    by_cases hlt : k < ps.length
    · obtain ⟨b, o, rfl, hbB, hcell⟩ := hc (by omega)
      obtain ⟨p, hp⟩ : ∃ p, ps[k]? = some p := ⟨ps[k], List.getElem?_eq_getElem hlt⟩
      have hmem := List.mem_of_getElem? hp
      have hokA : Hid (amOk p.1) := hid (HK.out _ (List.mem_map_of_mem hmem))
      have f := fun j (hj : j < 4) => flat_at amCells 4 amCells_len ps k p j hp hj
      have g0 : wr.cell? ⟨b, o + k * 4, none⟩ = some (.int .i64 p.1.1.1) := (hb.cell (p := ⟨b, o + k * 4, none⟩) hbB).trans (by have := hcell (k * 4 + 0) _ ((f 0 (by omega)).trans rfl); simpa using this)
      have g1 : wr.cell? ⟨b, o + k * 4 + 1, none⟩ = some (.float .f64 p.1.1.2.1) := (hb.cell (p := ⟨b, o + k * 4 + 1, none⟩) hbB).trans (hcell (k * 4 + 1) _ ((f 1 (by omega)).trans rfl))
      have g2 : wr.cell? ⟨b, o + k * 4 + 2, none⟩ = some (.string p.1.1.2.2) := (hb.cell (p := ⟨b, o + k * 4 + 2, none⟩) hbB).trans (hcell (k * 4 + 2) _ ((f 2 (by omega)).trans rfl))
      have g3 : wr.cell? ⟨b, o + k * 4 + 3, none⟩ = some p.2 := (hb.cell (p := ⟨b, o + k * 4 + 3, none⟩) hbB).trans (hcell (k * 4 + 3) _ ((f 3 (by omega)).trans rfl))
      have hmap : Hid ((ps.take (k + 1)).map (fun p => p.1) = (ps.take k).map (fun p => p.1) ++ [p.1]) := hid (by rw [List.take_add_one, hp, List.map_append]; rfl)
      have hrw : Rws wr wr.heap.size 4 avCells p.2 p.1.2 := Rws.below (HR.out p hmem) hb hb.size
      clear f hcell hc hp hmem hL0 hb0
      obtain ⟨⟨⟨a1, a2, a3⟩, rows⟩, s⟩ := p
      simp only at g0 g1 g2 g3 hrw
      have hRW := hid (Rws.below hrw ((Below.refl wr.heap.size wr).alloc (Nat.le_refl _) (.cells #[.int .i64 a1, .float .f64 a2, .string a3, s] 48)) (show wr.heap.size ≤ (wr.alloc (.cells #[.int .i64 a1, .float .f64 a2, .string a3, s] 48)).heap.size by simp))
      obtain ⟨A', c', hse⟩ := RwP.form hrw
      subst hse
      clear hrw
      go_wp2_with fail
      refine (innerArgM ((a1, a2, a3), rows) _ _ hRW.out hokA.out).mono ?_
      rintro e w2 ⟨u, rfl, hU, hb2⟩
      have hr2 : Below wr.heap.size wr w2 := Below.lift ((Below.refl wr.heap.size wr).alloc (Nat.le_refl _) _) (by simp) hb2
      have hL2 : IsL w2 w.heap.size es vs := hL.keep hr2
      have hb3 : Below w.heap.size w w2 := Below.lift hb hb.size hr2
      have hz2 := hr2.size
      have hz := hb.size
      have hLlt := hL.root.lt
      have hA2 : ArgsOk w2 (fun b => w.heap.size < b ∧ b < w2.heap.size ∧ ∀ (i g : Nat), es[i]? = some g → b ≠ g) vs ((ps.take k).map (fun p => p.1)) := hA.out.keep fun b hb => ⟨hr2.block b hb.2.1, hb.1, by omega, hb.2.2⟩
      have hU2 : ArgOk w2 (fun b => w.heap.size < b ∧ b < w2.heap.size ∧ ∀ (i g : Nat), es[i]? = some g → b ≠ g) (.iface 63 u) ((a1, a2, a3), rows) := hU.keep fun b hb => ⟨rfl, by simp at hb; omega, hb.2, fun i g hg => by have := hL.lt i g hg; simp at hb; omega⟩
      have hA3 := hA2.push hU2
      rw [← hmap.out] at hA3
      have HA3 := hid hA3
      have hvl : vs.length < 1000000 := by have := hA2.1; rw [List.length_map, List.length_take] at this; omega
      clear hA hA2 hU hU2 hA3 hb2 hL hb g0 g1 g2 g3 hRW
      go_wp2_with fail
      refine (pushBack_any w.heap.size es vs _ _ w2 hL2 hvl).mono ?_
      rintro e w3 ⟨rfl, hL3, hb4, hz4, hk4⟩
      have hb5 : Below w.heap.size w w3 := hb3.trans hb4
      have hA5 := hid (HA3.out.keep (w' := w3) (S' := fun b => w.heap.size < b ∧ b < w3.heap.size ∧ ∀ (i g : Nat), (es ++ [w2.heap.size])[i]? = some g → b ≠ g) fun b hb => ⟨hk4 b hb.2.1 (by omega) hb.2.2, hb.1, by omega, fun i g hg => by
        rcases List.mem_append.1 (List.mem_of_getElem? hg) with h | h
        · obtain ⟨i', hi'⟩ := List.getElem?_of_mem h
          exact hb.2.2 i' g hi'
        · have := List.mem_singleton.1 h; omega⟩)
      clear hb3 hb4 hL2 hk4 HA3
      go_wp2
      go_roundw
      case rel => exact ⟨k + 1, _, _, by omega, by go_num, hL3, hA5, hb5⟩
      case measure => simp [intOf]; omega
    · have hkl : k = ps.length := by omega
      subst hkl
      have hA2 : Hid (ArgsOk wr (fun b => b < wr.heap.size) vs (ps.map (fun p => p.1))) := hid (by
        have := hA.out
        rw [List.take_length] at this
        exact this.keep fun b hb => ⟨rfl, hb.2.1⟩)
      clear hc hL0 hb0 hA
      go_wp2
      go_ret
      exact ⟨es, vs, rfl, hL, hA2.out, hb⟩
end Go.Proofs.YtdanlcciefbboaaGreat
