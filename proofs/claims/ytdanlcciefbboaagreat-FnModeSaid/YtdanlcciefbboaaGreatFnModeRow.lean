/- For every list of cells, every number of columns and every list of single values the law FnMode answers true: MODE of a range, and of single values besides, says what the reference says, where the reference is sure. No condition. -/
import Derived.Test.YtdanlcciefbboaaGreatOpenIt
import Derived.Test.YtdanlcciefbboaaGreatFacts
import Derived.ProofKit
import Derived.OpenShut
import Derived.Lay
import Derived.SevenTiedAt
import Derived.Carry
import Derived.ChangeSlices
namespace Go.Proofs.YtdanlcciefbboaaGreat.fnMode
open Go.ChangeShapes Go.WideShapes Go.ChangeAt Go.RowKit

theorem own : ownKnob Tryz.prog.godebug = none := by kernel_rfl

set_option maxRecDepth 100000 in
theorem lifted (os : Os) (started : os.Started) (H : Type) (enc : TypeId × Value → H) :
    ReturnsInHanded {} Tryz.checked os 3 .any (Rows.fnModeSpec.pre6 enc Tryz.prog Tryz.f3 Rows.fnModeRow.domain false) (Rows.fnModeSpec.post enc Tryz.prog Tryz.f3 false true false false) := by
  refine returnsInHanded_of_change (C := Tryz.checked) own started (by kernel_rfl) Tryz.func3
    (ChangeSpec.witness6 (enc := enc) (C := Tryz.checked) false ⟨#[], #[.slice none 0 0, .int .i64 0, .slice none 0 0], []⟩ 8 (by kernel_rfl) (by kernel_rfl) (by kernel_rfl) (by kernel_rfl)) ?_
  intro W base args ds gs before hval0 hW _ _
  have hval : ∀ (j : Nat) t v, Tryz.f3.params[j]? = some t → args[j]? = some v → Value.okWide Tryz.prog W .any base t v := hval0
  have hW' := hW
  obtain ⟨p, q, hA0, hV, rfl, _, _⟩ := hW
  have hA : DataW.TrodAll enc Tryz.prog W 0 (fun _ => true) true Tryz.f3.params.toList args.toList ds p := hA0
  rw [Tryz.params3] at hA hval
  obtain ⟨v0, v1, v2, d0, d1, d2, p0, p1, p2, rfl, rfl, rfl, h0, h1, h2⟩ := trodAll_three hA
  obtain ⟨rfl, rfl⟩ := trodVars_none hV
  obtain ⟨a0, len, cap, rfl⟩ := okWide_slice Tryz.underlying22 (hval 0 22 v0 rfl rfl)
  obtain ⟨z, rfl⟩ := okWide_int Tryz.underlying3 (hval 1 3 v1 rfl rfl)
  obtain ⟨a2, len2, cap2, rfl⟩ := okWide_slice Tryz.underlying22 (hval 2 22 v2 rfl rfl)
  have h0k := h0
  have h1k := h1
  have h2k := h2
  obtain ⟨fuel, hf⟩ := h0
  obtain ⟨fuel2, hf2⟩ := h2
  clear hA0 hval0
  simp only [List.append_nil, List.append_assoc] at hW'
  have hlt : ∀ x ∈ p0 ++ (p1 ++ p2), x.block < W.heap.size := fun x hx => by simpa using hW'.lt x hx
  have hargs0 : ∀ (W' : World), Below W.heap.size W W' → DataW.Trod enc Tryz.prog W' 0 (fun b => decide (b < W.heap.size)) true 22 (.slice a0 len cap) d0 p0 :=
    fun W' hn => Below.trod fact_laidOut (by kernel_rfl) (of_decide_eq_true (by kernel_rfl)) h0k hn (fun x hx => hlt x (List.mem_append_left _ hx))
  have hargs1 : ∀ (W' : World), Below W.heap.size W W' → DataW.Trod enc Tryz.prog W' 0 (fun b => decide (b < W.heap.size)) true 3 (.int .i64 z) d1 p1 :=
    fun W' hn => Below.trod fact_laidOut (by kernel_rfl) (of_decide_eq_true (by kernel_rfl)) h1k hn (fun x hx => hlt x (List.mem_append_right _ (List.mem_append_left _ hx)))
  have hargs2 : ∀ (W' : World), Below W.heap.size W W' → DataW.Trod enc Tryz.prog W' 0 (fun b => decide (b < W.heap.size)) true 22 (.slice a2 len2 cap2) d2 p2 :=
    fun W' hn => Below.trod fact_laidOut (by kernel_rfl) (of_decide_eq_true (by kernel_rfl)) h2k hn (fun x hx => hlt x (List.mem_append_right _ (List.mem_append_right _ hx)))
  obtain ⟨its, rfl, hcap, hS1⟩ := open_items hf
  obtain ⟨more, rfl, _, hS2⟩ := open_items hf2
  refine (law_FnMode its more z a0 a2 cap cap2 W hcap hS1 hS2).mono fun e W' ⟨he, hb⟩ => ?_
  subst he
  exact ⟨_, rfl, _, _, _, [], _, [], hW', trodAll_mk1 (shut_bool Tryz.underlying4 _), trodAll_mk3 (hargs0 W' hb) (hargs1 W' hb) (hargs2 W' hb), rfl, hb.frame _, fun h => by cases h⟩

set_option maxHeartbeats 0 in
theorem closed : joinedFacts Tryz.pinned.checked.prog 3 Tryz.f3 Rows.fnModeSpec Rows.fnModeRow = true := by
  unfold joinedFacts
  repeat' (with_reducible refine and_intro ?_ ?_)
  all_goals first
    | with_reducible exact fact_laidOut
    | with_reducible exact fact_rowed
    | with_reducible exact fact_heard
    | with_reducible exact fact_enter
    | (rw [fact_keys]; rfl)
    | (rw [fact_lifted]; rfl)
    | (rw [fact_make]; rfl)
    | (as_aux_lemma => kernel_rfl)

theorem said : Rows.FnModeSaid :=
  OpenClaim.holds_of_wide 3 Tryz.f3 rfl rfl rfl rfl rfl rfl rfl ⟨rfl, rfl, rfl, rfl, rfl⟩ rfl rfl rfl rfl rfl (by kernel_rfl) Tryz.func3 closed
    (of_decide_eq_true (by kernel_rfl)) (by unfold Func.isWrapper; first | (rw [if_pos (by decide +kernel)]; kernel_rfl) | (rw [if_neg (by decide +kernel)]; exact ⟨rfl, rfl⟩))
    (fun os started H enc _ => lifted os started H enc)
#print axioms said
end Go.Proofs.YtdanlcciefbboaaGreat.fnMode
