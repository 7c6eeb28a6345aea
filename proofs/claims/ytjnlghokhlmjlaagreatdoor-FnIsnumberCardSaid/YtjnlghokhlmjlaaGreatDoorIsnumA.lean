import Derived.Test.YtjnlghokhlmjlaaGreatDoorAgreeN
import Derived.Test.YtjnlghokhlmjlaaGreatDoorIsnumT
import Derived.Test.YtjnlghokhlmjlaaGreatDoorIsnum
import Derived.Test.YtjnlghokhlmjlaaGreatDoorRead5
namespace Go.Proofs.YtjnlghokhlmjlaaGreatDoor
open Go.RowKit
attribute [local go_sem] run_store_float

/-- the values of any kind that the law makes -/
def Good (a : SV) : Prop := a = (0, 0, 0, es) ∨ OkNum a ∨ (∃ s : ByteArray, a = (2, 0, 0, s) ∧ s.size ≤ 1000) ∨ (∃ b : Bool, a = (3, b2i b, 0, es)) ∨ ∃ t : ByteArray, a = (4, 0, 0, t)

theorem Good.ok {a : SV} (h : Good a) : svOk a := by
  rcases h with rfl | (rfl | ⟨n, d, rfl, hd, h1, h2⟩) | ⟨s, rfl, _⟩ | ⟨b, rfl⟩ | ⟨t, rfl⟩
  · exact ⟨fun h => absurd h (by simp), by simp⟩
  · exact ⟨fun h => absurd h (by simp), by simp⟩
  · refine ⟨fun _ => ?_, by simp⟩
    rcases hd with rfl | rfl | rfl | rfl | rfl
    · exact ⟨0, by omega, rfl, by show n.natAbs < _; omega⟩
    · exact ⟨1, by omega, rfl, by show n.natAbs < _; omega⟩
    · exact ⟨2, by omega, rfl, by show n.natAbs < _; omega⟩
    · exact ⟨3, by omega, rfl, by show n.natAbs < _; omega⟩
    · exact ⟨4, by omega, rfl, by show n.natAbs < _; omega⟩
  · exact ⟨fun h => absurd h (by simp), by simp⟩
  · exact svOk_log b
  · exact ⟨fun h => absurd h (by simp), by simp⟩
theorem Good.num {a : SV} (h : Good a) (W : World) : Calls Tryz.prog 152 #[svV a] W fun e w' => (∃ b : Bool, e = .returned (.bool b)) ∧ Below W.heap.size W w' := by
  rcases h with rfl | (rfl | ⟨n, d, rfl, hd, h1, h2⟩) | ⟨s, rfl, hs⟩ | ⟨b, rfl⟩ | ⟨t, rfl⟩
  · exact (numeric_no 0 0 0 es W rfl rfl rfl).mono fun _ _ ⟨h, hb⟩ => ⟨⟨_, h⟩, hb⟩
  · exact (numeric_no 6 0 0 es W rfl rfl rfl).mono fun _ _ ⟨h, hb⟩ => ⟨⟨_, h⟩, hb⟩
  · exact (numeric_yes 1 n d es W (.inl rfl)).mono fun _ _ ⟨h, hb⟩ => ⟨⟨_, h⟩, hb⟩
  · exact numeric_text s hs W
  · exact (numeric_yes 3 (b2i b) 0 es W (.inr rfl)).mono fun _ _ ⟨h, hb⟩ => ⟨⟨_, h⟩, hb⟩
  · exact (numeric_no 4 0 0 t W rfl rfl rfl).mono fun _ _ ⟨h, hb⟩ => ⟨⟨_, h⟩, hb⟩
theorem Good.flat {a : SV} (h : Good a) : (a.1 == 5) = false := by
  have := h.ok.2
  simpa using this

section
variable (a : SV) (ha : Good a) (A : Option Addr) (c : Nat) (w : World) (h : Sl w w.heap.size 5 (.slice A 1 c) 1 ([a].flatMap svCells))
include ha h
theorem fits_ISNUMBER (W : World) (hW : Below w.heap.size w W) : Calls Tryz.prog 47 #[.string ⟨#[73, 83, 78, 85, 77, 66, 69, 82]⟩, .slice A 1 c] W fun e w' => e = .returned (.bool (!(a.1 == 6))) ∧ Below W.heap.size W w' := by
  have hS2 := (h.keep hW).more hW.size
  refine Fits_ISNUMBER _ (!(a.1 == 6)) W (fun V hV => ?_) (fun V _ => fitsTexts_miss_ISNUMBER A _ c V) (fun V hV => ?_)
  · exact fitsNumbers_one a A c V ((hS2.keep hV).more hV.size) (fun X => ha.num X)
  · exact fitsChoices_ISNUMBER a ha.flat A c V ((hS2.keep hV).more hV.size)
theorem call_ISNUMBER_no (hf : (a.1 == 6) = true) : Calls Tryz.prog 19 #[.string ⟨#[73, 83, 78, 85, 77, 66, 69, 82]⟩, .slice A 1 c] w fun e w' => e = .returned (sv 6 0 0 es) ∧ Below w.heap.size w w' := by
  refine Call_ISNUMBER _ _ _ _ _ w fun W1 hW1 => CallOver_no_ISNUMBER _ W1 (fun W2 hW2 => ?_)
  have := fits_ISNUMBER a ha A c w h W2 (Below.lift hW1 hW1.size hW2)
  rwa [hf] at this
theorem call_ISNUMBER_yes (hf : (a.1 == 6) = false) : Calls Tryz.prog 19 #[.string ⟨#[73, 83, 78, 85, 77, 66, 69, 82]⟩, .slice A 1 c] w fun e w' => e = .returned (sv 3 (b2i (a.1 == 1)) 0 es) ∧ Below w.heap.size w w' := by
  refine Call_ISNUMBER _ _ _ _ _ w fun W1 hW1 => CallOver_ISNUMBER _ _ _ _ _ W1 (fun W2 hW2 => ?_) (fun W2 hW2 => ?_)
  · have := fits_ISNUMBER a ha A c w h W2 (Below.lift hW1 hW1.size hW2)
    rwa [hf] at this
  · have h2 : Below w.heap.size w W2 := Below.lift hW1 hW1.size hW2
    exact CallInfo_ISNUMBER a ha.flat hf A c W2 ((h.keep h2).more h2.size)
end

theorem fav_form (a : AV) : ∃ x s b t k, fav a.1 a.2.1 a.2.2 = fa x s b t k ∧ (k == 4) = false ∧ (a.1 == 1) = ((k == 1) && !b) := by
  unfold fav
  by_cases h1 : a.1 = 1
  · rw [if_pos h1]; exact ⟨_, _, _, _, 1, rfl, rfl, by rw [h1]; rfl⟩
  · have e1 : (a.1 == 1) = false := by simpa using h1
    rw [if_neg h1, e1]
    split
    · exact ⟨_, _, _, _, 2, rfl, rfl, rfl⟩
    · split
      · exact ⟨_, _, true, _, 1, rfl, rfl, rfl⟩
      · split
        · exact ⟨_, _, _, _, 5, rfl, rfl, rfl⟩
        · exact ⟨_, _, _, _, 6, rfl, rfl, rfl⟩
theorem Fn_ISNUMBER (a : SV) : Fn 43 ([a].map avOf) (.log (tv (a.1 == 1))) := by
  intro w g L el h
  obtain ⟨x, s, b, t, k, hf, hk, hr⟩ := fav_form (avOf a)
  simp only [List.map_cons, List.map_nil] at h
  have e : avI (avOf a) = .iface 70 (fa x s b t k) := by unfold avI; rw [hf]
  rw [e] at h
  exact ISNUMBER_walk x s b t k hk _ hr w g L el h

theorem agree_ISNUMBER (a : SV) (ha : Good a) (A : Option Addr) (c : Nat) (w : World) (h : Sl w w.heap.size 5 (.slice A 1 c) 1 ([a].flatMap svCells)) :
    Calls Tryz.prog 8 #[.func (.func 11) #[] #[], .string ⟨#[73, 83, 78, 85, 77, 66, 69, 82]⟩, .slice A 1 c] w fun e w' => e = .returned (.bool true) ∧ Below w.heap.size w w' := by
  by_cases h6 : (a.1 == 6) = true
  · refine agrees_no_ISNUMBER [a] (6, 0, 0, es) A c w h (fun x hx => ?_) (by simp) (by simp) ?_ (.inr rfl)
    · simp at hx; subst hx; exact ha.ok.2
    · intro W hW
      exact call_ISNUMBER_no a ha A c W ((h.keep hW).more hW.size) h6
  · have h6' : (a.1 == 6) = false := by simpa using h6
    have hokl : svOk (3, b2i (a.1 == 1), 0, es) := svOk_log _
    refine agrees_yes_ISNUMBER [a] (3, b2i (a.1 == 1), 0, es) A c w h ?_ (by simp) hokl (fin_fnum _ hokl (fun _ => by cases (a.1 == 1) <;> decide)) ?_ ?_ ?_ rfl
    · intro x hx; simp at hx; subst hx; exact ha.ok
    · intro W hW
      exact call_ISNUMBER_yes a ha A c W ((h.keep hW).more hW.size) h6'
    · intro W v' hv
      have := impl_ISNUMBER _ _ (Fn_ISNUMBER a) v' W hv (fun x hx => by simp at hx; subst hx; exact avOk_of _ ha.ok) (by simp)
      have e : avV (Res.log (tv (a.1 == 1))).av = iv 3 (fnum (3, b2i (a.1 == 1), 0, es)) es := by
        rw [fnum_log]
        cases (a.1 == 1) <;> rfl
      rw [e] at this
      exact this
    · simp [unsure, h6']
end Go.Proofs.YtjnlghokhlmjlaaGreatDoor
