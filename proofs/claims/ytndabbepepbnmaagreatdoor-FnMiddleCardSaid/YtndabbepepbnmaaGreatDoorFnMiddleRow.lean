/- Twice the median of a list is the sum of what LARGE and SMALL say at the place in the middle. -/
import Derived.Test.YtndabbepepbnmaaGreatDoorLawMid
import Derived.Test.YtndabbepepbnmaaGreatDoorFacts
import Derived.Test.YtndabbepepbnmaaGreatDoorCards
import Derived.Test.YtndabbepepbnmaaGreatDoorTie
import Derived.ProofKit
import Derived.OpenShut
import Derived.Lay
import Derived.SevenTiedAt
import Derived.Carry
import Derived.ChangeSlices
namespace Go.Proofs.YtndabbepepbnmaaGreatDoor.fnMiddle
open Go.ChangeShapes Go.WideShapes Go.ChangeAt Go.RowKit

theorem own : ownKnob Tryz.prog.godebug = none := by kernel_rfl

set_option maxRecDepth 100000 in
theorem lifted (os : Os) (started : os.Started) (H : Type) (enc : TypeId × Value → H) :
    ReturnsInHanded {} Tryz.checked os 15 .any (fun w args => (Rows.fnMiddleSpec.pre enc Tryz.prog Tryz.f15 [] false w args ∧ laidMetH Tryz.prog Rows.fnMiddleRow.laid w) ∧ sizedMet enc Tryz.prog Tryz.f15 (OpenSpec.ofChange Rows.fnMiddleSpec) false w args)
      (Rows.fnMiddleSpec.post enc Tryz.prog Tryz.f15 false true false false) := by
  refine returnsInHanded_of_change_and (C := Tryz.checked) (X := fun w _ => laidMetH Tryz.prog Rows.fnMiddleRow.laid w) (fun _ _ _ hh h => h.of_heap hh) own started (by kernel_rfl) Tryz.func15
    (ChangeSpec.witness_shaped (enc := enc) (C := Tryz.checked) (os := os) (X := fun w _ => laidMetH Tryz.prog Rows.fnMiddleRow.laid w) false (World.laidAll Tryz.prog os Rows.fnMiddleRow.laid) #[.slice none 0 0] 8 (World.laidAll_os _ _ _)
      (World.shaped_of_ZipB (by kernel_rfl) (by kernel_rfl)) (by kernel_rfl) (by kernel_rfl) (by kernel_rfl)
      (by rw [MakeChecks.laidMetH_plain _ _ _ (by kernel_rfl)]; exact laidMet_laidAll _ (by kernel_rfl) (by kernel_rfl))) ?_
  intro W base args ds gs before hval0 hW _ _ _ _
  have hval : ∀ (j : Nat) t v, Tryz.f15.params[j]? = some t → args[j]? = some v → Value.okWide Tryz.prog W .any base t v := hval0
  have hW' := hW
  obtain ⟨p, q, hA0, hV, rfl, _, _⟩ := hW
  have hA : DataW.TrodAll enc Tryz.prog W 0 (fun _ => true) true Tryz.f15.params.toList args.toList ds p := hA0
  rw [Tryz.params15] at hA hval
  obtain ⟨v0, d0, rfl, rfl, h0⟩ := trodAll_one hA
  obtain ⟨rfl, rfl⟩ := trodVars_none hV
  obtain ⟨a0, len, cap, rfl⟩ := okWide_slice Tryz.underlying35 (hval 0 35 v0 rfl rfl)
  have h0k := h0
  obtain ⟨fuel, hf⟩ := h0
  clear hA0 hval0
  simp only [List.append_nil] at hW'
  have hlt : ∀ x ∈ p, x.block < W.heap.size := fun x hx => by simpa using hW'.lt x (by simpa using hx)
  have hargs0 : ∀ (W' : World), Below W.heap.size W W' → DataW.Trod enc Tryz.prog W' 0 (fun b => decide (b < W.heap.size)) true 35 (.slice a0 len cap) d0 p :=
    fun W' hn => Below.trod fact_laidOut (by kernel_rfl) (of_decide_eq_true (by kernel_rfl)) h0k hn hlt
  obtain ⟨Z, hZ, hl⟩ : ∃ Z : Nat → Int, (∀ i, i < len → ∃ a, a0 = some a ∧ W.cell? (a.add i) = some (.int .i64 (Z i))) ∧ len ≤ maxLen := by
    rcases open_ints Tryz.underlying35 Tryz.underlying3 (by kernel_rfl) hf with ⟨hcs, _⟩ | ⟨a, len', cap', zs, hcs, _, hl, hm, hz, _, hcell, _⟩
    · simp [Value.cells] at hcs
      obtain ⟨rfl, rfl, rfl⟩ := hcs
      exact ⟨fun _ => 0, fun i hi => absurd hi (by omega), by unfold maxLen; omega⟩
    · simp [Value.cells] at hcs
      obtain ⟨rfl, rfl, rfl⟩ := hcs
      refine ⟨fun i => zs.getD i 0, fun i hi => ⟨a, rfl, hcell i ?_⟩, by omega⟩
      split at hz <;> omega
  refine (law_FnMiddle len cap a0 Z W hl hZ).mono fun e W' ⟨he, hb⟩ => ?_
  subst he
  exact ⟨_, rfl, _, _, _, [], _, [], hW', trodAll_mk1 (shut_bool Tryz.underlying4 _), trodAll_mk1 (hargs0 W' hb), rfl, hb.frame _, fun h => by cases h⟩

set_option maxHeartbeats 0 in
theorem closed : joinedFacts Tryz.pinned.checked.prog 15 Tryz.f15 Rows.fnMiddleSpec Rows.fnMiddleRow = true := by
  unfold joinedFacts
  repeat' (with_reducible refine and_intro ?_ ?_)
  all_goals first
    | with_reducible exact fact_laidOut
    | with_reducible exact fact_rowed
    | with_reducible exact fact_heard
    | with_reducible exact fact_enter
    | (rw [fact_keys]; rfl)
    | (rw [fact_lifted]; rfl)
    | (rw [fact_make]; rfl)
    | (as_aux_lemma => kernel_rfl)

theorem said : Rows.FnMiddleSaid :=
  OpenClaim.holds_of_wide 15 Tryz.f15 rfl rfl rfl rfl rfl rfl rfl ⟨rfl, rfl, rfl, rfl, rfl⟩ rfl rfl rfl rfl rfl (by kernel_rfl) Tryz.func15 closed
    (of_decide_eq_true (by kernel_rfl)) (by unfold Func.isWrapper; first | (rw [if_pos (by decide +kernel)]; kernel_rfl) | (rw [if_neg (by decide +kernel)]; exact ⟨rfl, rfl⟩))
    (fun os started H enc _ => lifted os started H enc)

theorem plain (f : FuncId) (fn : Func) (hf : Tryz.pinned.checked.prog.funcNamed "pub-tallysheet/laws.FnMiddle" = some f) (hfn : Tryz.pinned.checked.prog.funcs[f]? = some fn) :
    true = Tryz.pinned.checked.prog.looks [] ∧ ∀ (j : Nat) t, fn.params[j]? = some t → Tryz.pinned.checked.prog.wantsStandIn t = false := by
  obtain rfl : f = 15 := Option.some.inj ((show Tryz.prog.funcNamed "pub-tallysheet/laws.FnMiddle" = some 15 by kernel_rfl).symm.trans hf) |>.symm
  obtain rfl : fn = Tryz.f15 := (Option.some.inj (Tryz.func15.symm.trans hfn)).symm
  refine ⟨fact_looks, fun j t ht => ?_⟩
  rw [Tryz.params15] at ht
  have hm : t ∈ [35] := by simpa using Array.mem_of_getElem? ht
  have hall : ([35].all fun u => !Tryz.prog.wantsStandIn u) = true := by kernel_rfl
  exact (show Tryz.prog.wantsStandIn t = false by simpa using List.all_eq_true.1 hall t hm)

theorem card : Rows.FnMiddleCardSaid :=
  Claim7.holds_tied_plain_at .later [] _ _ _ _ said (fun _ h => by cases h) (by as_aux_lemma => kernel_rfl) (fun _ h => by cases h) fnMiddle_row_tie rfl ⟨rfl, rfl⟩ (by as_aux_lemma => kernel_rfl) rfl plain (by as_aux_lemma => kernel_rfl)
#print axioms card
end Go.Proofs.YtndabbepepbnmaaGreatDoor.fnMiddle
