/- For every string s and every int n the law FnReptLen answers true: of a plain text of up to 100 bytes, repeated up to 100 times, LEN of REPT is the number times the text's length. No condition; the listed tables of Go's library are tied to the program's text by the given tie. -/
import Derived.Test.YtndabbepepbnmaaGreatDoorLawRept
import Derived.Test.YtndabbepepbnmaaGreatDoorFacts
import Derived.Test.YtndabbepepbnmaaGreatDoorCards
import Derived.Test.YtndabbepepbnmaaGreatDoorTie
import Derived.ProofKit
import Derived.OpenShut
import Derived.Lay
import Derived.SevenTiedAt
namespace Go.Proofs.YtndabbepepbnmaaGreatDoor.fnReptLen
open Go.ChangeShapes Go.WideShapes Go.ChangeAt Go.RowKit Go.ChangeMaps

theorem own : ownKnob Tryz.prog.godebug = none := by kernel_rfl

set_option maxRecDepth 100000 in
theorem lifted (os : Os) (started : os.Started) (H : Type) (enc : TypeId × Value → H) :
    ReturnsInHanded {} Tryz.checked os 17 .any (fun w args => (Rows.fnReptLenSpec.pre enc Tryz.prog Tryz.f17 [] false w args ∧ laidMetH Tryz.prog Rows.fnReptLenRow.laid w) ∧ sizedMet enc Tryz.prog Tryz.f17 (OpenSpec.ofChange Rows.fnReptLenSpec) false w args)
      (Rows.fnReptLenSpec.post enc Tryz.prog Tryz.f17 false true false false) := by
  refine returnsInHanded_of_change_and (C := Tryz.checked) (X := fun w _ => laidMetH Tryz.prog Rows.fnReptLenRow.laid w) (fun _ _ _ hh h => h.of_heap hh) own started (by kernel_rfl) Tryz.func17
    (ChangeSpec.witness_shaped (enc := enc) (C := Tryz.checked) (os := os) (X := fun w _ => laidMetH Tryz.prog Rows.fnReptLenRow.laid w) false (World.laidAll Tryz.prog os Rows.fnReptLenRow.laid) #[.string ⟨#[]⟩, .int .i64 0] 8 (World.laidAll_os _ _ _)
      (World.shaped_of_ZipB (by kernel_rfl) (by kernel_rfl)) (by kernel_rfl) (by kernel_rfl) (by kernel_rfl)
      (by rw [MakeChecks.laidMetH_plain _ _ _ (by kernel_rfl)]; exact laidMet_laidAll _ (by kernel_rfl) (by kernel_rfl))) ?_
  intro W base args ds gs before hval0 hW _ _ _ _
  have hval : ∀ (j : Nat) t v, Tryz.f17.params[j]? = some t → args[j]? = some v → Value.okWide Tryz.prog W .any base t v := hval0
  have hW' := hW
  obtain ⟨p, q, hA0, hV, rfl, _, _⟩ := hW
  have hA : DataW.TrodAll enc Tryz.prog W 0 (fun _ => true) true Tryz.f17.params.toList args.toList ds p := hA0
  rw [Tryz.params17] at hA hval
  obtain ⟨v0, v1, d0, d1, p0, p1, rfl, rfl, rfl, h0, h1⟩ := trodAll_two hA
  obtain ⟨rfl, rfl⟩ := trodVars_none hV
  obtain ⟨x0, rfl, rfl, rfl, wx0⟩ := open_string Tryz.underlying9 (hval 0 9 v0 rfl rfl) h0
  obtain ⟨x1, rfl, rfl, rfl, wx1⟩ := open_int Tryz.underlying3 (hval 1 3 v1 rfl rfl) h1
  simp only [List.append_nil] at hW'
  refine (law_FnReptLen x0 x1 W wx0).mono fun e W' ⟨he, hb⟩ => ?_
  subst he
  exact ⟨_, rfl, _, _, _, [], [], [], hW', trodAll_mk1 (shut_bool Tryz.underlying4 _), trodAll_mk2 (shut_string Tryz.underlying9 wx0) (shut_int Tryz.underlying3 wx1), rfl, hb.frame _, fun h => by cases h⟩

set_option maxHeartbeats 0 in
theorem closed : joinedFacts Tryz.pinned.checked.prog 17 Tryz.f17 Rows.fnReptLenSpec Rows.fnReptLenRow = true := by
  unfold joinedFacts
  repeat' (with_reducible refine and_intro ?_ ?_)
  all_goals first
    | with_reducible exact fact_laidOut
    | with_reducible exact fact_rowed
    | with_reducible exact fact_heard
    | with_reducible exact fact_enter
    | (rw [fact_keys]; rfl)
    | (rw [fact_lifted]; rfl)
    | (rw [fact_make]; rfl)
    | (as_aux_lemma => kernel_rfl)

theorem said : Rows.FnReptLenSaid :=
  OpenClaim.holds_of_wide 17 Tryz.f17 rfl rfl rfl rfl rfl rfl rfl ⟨rfl, rfl, rfl, rfl, rfl⟩ rfl rfl rfl rfl rfl (by kernel_rfl) Tryz.func17 closed
    (of_decide_eq_true (by kernel_rfl)) (by unfold Func.isWrapper; first | (rw [if_pos (by decide +kernel)]; kernel_rfl) | (rw [if_neg (by decide +kernel)]; exact ⟨rfl, rfl⟩))
    (fun os started H enc _ => lifted os started H enc)

theorem plain (f : FuncId) (fn : Func) (hf : Tryz.pinned.checked.prog.funcNamed "pub-tallysheet/laws.FnReptLen" = some f) (hfn : Tryz.pinned.checked.prog.funcs[f]? = some fn) :
    true = Tryz.pinned.checked.prog.looks [] ∧ ∀ (j : Nat) t, fn.params[j]? = some t → Tryz.pinned.checked.prog.wantsStandIn t = false := by
  obtain rfl : f = 17 := Option.some.inj ((show Tryz.prog.funcNamed "pub-tallysheet/laws.FnReptLen" = some 17 by kernel_rfl).symm.trans hf) |>.symm
  obtain rfl : fn = Tryz.f17 := (Option.some.inj (Tryz.func17.symm.trans hfn)).symm
  refine ⟨fact_looks, fun j t ht => ?_⟩
  rw [Tryz.params17] at ht
  have hm : t ∈ [9, 3] := by simpa using Array.mem_of_getElem? ht
  have hall : ([9, 3].all fun u => !Tryz.prog.wantsStandIn u) = true := by kernel_rfl
  exact (show Tryz.prog.wantsStandIn t = false by simpa using List.all_eq_true.1 hall t hm)

theorem card : Rows.FnReptLenCardSaid :=
  Claim7.holds_tied_plain_at .later [] _ _ _ _ said (fun _ h => by cases h) (by as_aux_lemma => kernel_rfl) (fun _ h => by cases h) fnReptLen_row_tie rfl ⟨rfl, rfl⟩ (by as_aux_lemma => kernel_rfl) rfl plain (by as_aux_lemma => kernel_rfl)
#print axioms card
end Go.Proofs.YtndabbepepbnmaaGreatDoor.fnReptLen
