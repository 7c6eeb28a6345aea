import Derived.Test.YtdanlcciefbboaaGreatIsL
import Derived.LaidEqlPtr
namespace Go.Proofs.YtdanlcciefbboaaGreat
open Go.RowKit

theorem info_el : (Tryz.prog.info? 88).map (·.size) = some 4 := by kernel_rfl

/-- '!=' of a pointer and itself -/
theorem neq_same {P : Program} (w : World) {tp te : TypeId} {j : TypeInfo} (a : Addr) (hp : P.underlying tp = some (.pointer te)) (hte : P.info? te = some j) :
    (binOp .neq tp (.pointer (some a)) (.pointer (some a))).run P w = .ok (.bool false) w := by
  have h : ∀ d : Nat, (Op.equalIn (d + 1) tp (.pointer (some a)) (.pointer (some a))).run P w = .ok true w := fun d => by
    simp [Op.equalIn, run_underlying hp, sizeOf, typeInfo, hte, run_sameAddr_same]
  simp only [binOp]
  simp [Op.equal, Op.maxDepth, h 9999]
/-- '!=' of two pointers to known blocks -/
theorem neq_other {P : Program} (w : World) {tp te : TypeId} {j : TypeInfo} {a b : Addr} {ca cb : Array Value} {ta tb : TypeId} (hp : P.underlying tp = some (.pointer te)) (hte : P.info? te = some j) (hsz : j.size ≠ 0)
    (hne : a ≠ b) (ha : w.heap[a.block]? = some (.cells ca ta (0, 0))) (hb : w.heap[b.block]? = some (.cells cb tb (0, 0))) :
    (binOp .neq tp (.pointer (some a)) (.pointer (some b))).run P w = .ok (.bool true) w := by
  have h : ∀ d : Nat, (Op.equalIn (d + 1) tp (.pointer (some a)) (.pointer (some b))).run P w = .ok false w := fun d => by
    simp [Op.equalIn, run_underlying hp, sizeOf, typeInfo, hte, hsz, run_sameAddr_other w hne ha hb]
  simp only [binOp]
  simp [Op.equal, Op.maxDepth, h 9999]

theorem len_any {L : Nat} {es : List Nat} {vs : List Value} {w : World} (h : IsL w L es vs) :
    Calls Tryz.prog 42 #[ptr L] w fun e w' => e = .returned (.int .i64 (vs.length : Int)) ∧ w = w' := by
  have c4 : w.cell? ⟨L, 4, none⟩ = some (.int .i64 (vs.length : Int)) := h.root.cell 4
  go_enter Tryz.func42, Tryz.ntmps42
  go_wp2
  go_ret
  exact ⟨rfl, rfl⟩

theorem front_any {L f : Nat} {es : List Nat} {vs : List Value} {w : World} (h : IsL w L es vs) (h0 : es[0]? = some f) :
    Calls Tryz.prog 44 #[ptr L] w fun e w' => e = .returned (ptr f) ∧ w = w' := by
  have c4 : w.cell? ⟨L, 4, none⟩ = some (.int .i64 (vs.length : Int)) := h.root.cell 4
  have c0 : w.cell? ⟨L, 0, none⟩ = some (ptr (es.getD 0 L)) := h.root.cell 0
  have e0 : es.getD 0 L = f := by rw [List.getD_eq_getElem?_getD, h0]; rfl
  rw [e0] at c0
  have hl : 0 < vs.length := by
    rw [← h.len]
    rcases Nat.eq_zero_or_pos es.length with hz | hz
    · rw [List.getElem?_eq_none (by omega)] at h0; cases h0
    · exact hz
  have hp : (0 : Int) < (vs.length : Int) := by omega
  have hb : ((vs.length : Int) == 0) = false := by simp; intro hh; rw [hh] at hl; simp at hl
  clear e0 h0 hl
  go_enter Tryz.func44, Tryz.ntmps44
  go_wp2
  go_ret
  exact ⟨rfl, rfl⟩

theorem front_nil {L : Nat} {w : World} (h : IsL w L [] []) :
    Calls Tryz.prog 44 #[ptr L] w fun e w' => e = .returned (.pointer none) ∧ w = w' := by
  have c4 : w.cell? ⟨L, 4, none⟩ = some (.int .i64 0) := h.root.cell 4
  go_enter Tryz.func44, Tryz.ntmps44
  go_wp2
  go_ret
  exact ⟨rfl, rfl⟩

theorem next_some {L i g g' : Nat} {es : List Nat} {vs : List Value} {w : World} (h : IsL w L es vs) (h0 : es[i]? = some g) (h1 : es[i + 1]? = some g') :
    Calls Tryz.prog 45 #[ptr g] w fun e w' => e = .returned (ptr g') ∧ w = w' := by
  obtain ⟨x, _, hk⟩ := h.elem i g h0
  obtain ⟨x', _, hk'⟩ := h.elem (i + 1) g' h1
  have hne : g' ≠ L := by have := h.up (i + 1) g' h1; omega
  have e0 : es.getD (i + 1) L = g' := by rw [List.getD_eq_getElem?_getD, h1]; rfl
  rw [e0] at hk
  have c0 : w.cell? ⟨g, 0, none⟩ = some (ptr g') := hk.cell 0
  have c2 : w.cell? ⟨g, 2, none⟩ = some (ptr L) := hk.cell 2
  obtain ⟨j, hj⟩ : ∃ j, Tryz.prog.info? 88 = some j := Option.isSome_iff_exists.1 (by have := info_el; cases hh : Tryz.prog.info? 88 <;> simp_all)
  have hjs : j.size ≠ 0 := by have := info_el; rw [hj] at this; simp at this; omega
  have hneq := neq_other (P := Tryz.prog) w (tp := 85) (te := 88) (a := ⟨g', 0, none⟩) (b := ⟨L, 0, none⟩) Tryz.underlying85 hj hjs (by intro hh; injection hh with hh; exact hne hh) hk' h.root
  clear h0 h1 e0 hj hjs hk' hk h
  go_enter Tryz.func45, Tryz.ntmps45
  go_wp2
  go_ret
  exact ⟨rfl, rfl⟩

theorem next_none {L i g : Nat} {es : List Nat} {vs : List Value} {w : World} (h : IsL w L es vs) (h0 : es[i]? = some g) (h1 : es.length = i + 1) :
    Calls Tryz.prog 45 #[ptr g] w fun e w' => e = .returned (.pointer none) ∧ w = w' := by
  obtain ⟨x, _, hk⟩ := h.elem i g h0
  have e0 : es.getD (i + 1) L = L := by rw [List.getD_eq_getElem?_getD, List.getElem?_eq_none (by omega)]; rfl
  rw [e0] at hk
  have c0 : w.cell? ⟨g, 0, none⟩ = some (ptr L) := hk.cell 0
  have c2 : w.cell? ⟨g, 2, none⟩ = some (ptr L) := hk.cell 2
  obtain ⟨j, hj⟩ : ∃ j, Tryz.prog.info? 88 = some j := Option.isSome_iff_exists.1 (by have := info_el; cases hh : Tryz.prog.info? 88 <;> simp_all)
  have hneq := neq_same (P := Tryz.prog) w (tp := 85) (te := 88) ⟨L, 0, none⟩ Tryz.underlying85 hj
  clear h0 h1 e0 hj hk h
  go_enter Tryz.func45, Tryz.ntmps45
  go_wp2
  go_ret
  exact ⟨rfl, rfl⟩
end Go.Proofs.YtdanlcciefbboaaGreat
