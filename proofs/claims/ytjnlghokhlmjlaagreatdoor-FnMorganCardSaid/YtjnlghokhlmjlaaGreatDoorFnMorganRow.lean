/- For all truths a and b the law FnMorgan answers true: NOT of AND is OR of the NOTs, and NOT of OR is AND of them. No condition; the listed tables of Go's library are tied to the program's text by the given tie. -/
import Derived.Test.YtjnlghokhlmjlaaGreatDoorLawMorgan
import Derived.Test.YtjnlghokhlmjlaaGreatDoorFacts
import Derived.Test.YtjnlghokhlmjlaaGreatDoorCards
import Derived.Test.YtjnlghokhlmjlaaGreatDoorTie
import Derived.ProofKit
import Derived.OpenShut
import Derived.Lay
import Derived.SevenTiedAt
namespace Go.Proofs.YtjnlghokhlmjlaaGreatDoor.fnMorgan
open Go.ChangeShapes Go.WideShapes Go.ChangeAt Go.RowKit

theorem own : ownKnob Tryz.prog.godebug = none := by kernel_rfl

set_option maxRecDepth 100000 in
theorem lifted (os : Os) (started : os.Started) (H : Type) (enc : TypeId × Value → H) :
    ReturnsInHanded {} Tryz.checked os 5 .any (fun w args => (Rows.fnMorganSpec.pre enc Tryz.prog Tryz.f5 [] false w args ∧ laidMetH Tryz.prog Rows.fnMorganRow.laid w) ∧ sizedMet enc Tryz.prog Tryz.f5 (OpenSpec.ofChange Rows.fnMorganSpec) false w args)
      (Rows.fnMorganSpec.post enc Tryz.prog Tryz.f5 false true false false) := by
  refine returnsInHanded_of_change_and (C := Tryz.checked) (X := fun w _ => laidMetH Tryz.prog Rows.fnMorganRow.laid w) (fun _ _ _ hh h => h.of_heap hh) own started (by kernel_rfl) Tryz.func5
    (ChangeSpec.witness_shaped (enc := enc) (C := Tryz.checked) (os := os) (X := fun w _ => laidMetH Tryz.prog Rows.fnMorganRow.laid w) false (World.laidAll Tryz.prog os Rows.fnMorganRow.laid) #[.bool false, .bool false] 8 (World.laidAll_os _ _ _)
      (World.shaped_of_ZipB (by kernel_rfl) (by kernel_rfl)) (by kernel_rfl) (by kernel_rfl) (by kernel_rfl)
      (by rw [MakeChecks.laidMetH_plain _ _ _ (by kernel_rfl)]; exact laidMet_laidAll _ (by kernel_rfl) (by kernel_rfl))) ?_
  intro W base args ds gs before hval0 hW _ _ _ _
  have hval : ∀ (j : Nat) t v, Tryz.f5.params[j]? = some t → args[j]? = some v → Value.okWide Tryz.prog W .any base t v := hval0
  have hW' := hW
  obtain ⟨p, q, hA0, hV, rfl, _, _⟩ := hW
  have hA : DataW.TrodAll enc Tryz.prog W 0 (fun _ => true) true Tryz.f5.params.toList args.toList ds p := hA0
  rw [Tryz.params5] at hA hval
  obtain ⟨v0, v1, d0, d1, p0, p1, rfl, rfl, rfl, h0, h1⟩ := trodAll_two hA
  obtain ⟨rfl, rfl⟩ := trodVars_none hV
  obtain ⟨x0, rfl, rfl, rfl⟩ := open_bool Tryz.underlying4 (hval 0 4 v0 rfl rfl) h0
  obtain ⟨x1, rfl, rfl, rfl⟩ := open_bool Tryz.underlying4 (hval 1 4 v1 rfl rfl) h1
  simp only [List.append_nil] at hW'
  refine (law_FnMorgan x0 x1 W).mono fun e W' ⟨he, hb⟩ => ?_
  subst he
  exact ⟨_, rfl, _, _, _, [], [], [], hW', trodAll_mk1 (shut_bool Tryz.underlying4 _), trodAll_mk2 (shut_bool Tryz.underlying4 _) (shut_bool Tryz.underlying4 _), rfl, hb.frame _, fun h => by cases h⟩

set_option maxHeartbeats 0 in
theorem closed : joinedFacts Tryz.pinned.checked.prog 5 Tryz.f5 Rows.fnMorganSpec Rows.fnMorganRow = true := by
  unfold joinedFacts
  repeat' (with_reducible refine and_intro ?_ ?_)
  all_goals first
    | with_reducible exact fact_laidOut
    | with_reducible exact fact_rowed
    | with_reducible exact fact_heard
    | with_reducible exact fact_enter
    | (rw [fact_keys]; rfl)
    | (rw [fact_lifted]; rfl)
    | (rw [fact_make]; rfl)
    | (as_aux_lemma => kernel_rfl)

theorem said : Rows.FnMorganSaid :=
  OpenClaim.holds_of_wide 5 Tryz.f5 rfl rfl rfl rfl rfl rfl rfl ⟨rfl, rfl, rfl, rfl, rfl⟩ rfl rfl rfl rfl rfl (by kernel_rfl) Tryz.func5 closed
    (of_decide_eq_true (by kernel_rfl)) (by unfold Func.isWrapper; first | (rw [if_pos (by decide +kernel)]; kernel_rfl) | (rw [if_neg (by decide +kernel)]; exact ⟨rfl, rfl⟩))
    (fun os started H enc _ => lifted os started H enc)

theorem plain (f : FuncId) (fn : Func) (hf : Tryz.pinned.checked.prog.funcNamed "pub-tallysheet/laws.FnMorgan" = some f) (hfn : Tryz.pinned.checked.prog.funcs[f]? = some fn) :
    true = Tryz.pinned.checked.prog.looks [] ∧ ∀ (j : Nat) t, fn.params[j]? = some t → Tryz.pinned.checked.prog.wantsStandIn t = false := by
  obtain rfl : f = 5 := Option.some.inj ((show Tryz.prog.funcNamed "pub-tallysheet/laws.FnMorgan" = some 5 by kernel_rfl).symm.trans hf) |>.symm
  obtain rfl : fn = Tryz.f5 := (Option.some.inj (Tryz.func5.symm.trans hfn)).symm
  refine ⟨fact_looks, fun j t ht => ?_⟩
  rw [Tryz.params5] at ht
  have hm : t ∈ [4, 4] := by simpa using Array.mem_of_getElem? ht
  have hall : ([4, 4].all fun u => !Tryz.prog.wantsStandIn u) = true := by kernel_rfl
  exact (show Tryz.prog.wantsStandIn t = false by simpa using List.all_eq_true.1 hall t hm)

theorem card : Rows.FnMorganCardSaid :=
  Claim7.holds_tied_plain_at .later [] _ _ _ _ said (fun _ h => by cases h) (by as_aux_lemma => kernel_rfl) (fun _ h => by cases h) fnMorgan_row_tie rfl ⟨rfl, rfl⟩ (by as_aux_lemma => kernel_rfl) rfl plain (by as_aux_lemma => kernel_rfl)
#print axioms card
end Go.Proofs.YtjnlghokhlmjlaaGreatDoor.fnMorgan
