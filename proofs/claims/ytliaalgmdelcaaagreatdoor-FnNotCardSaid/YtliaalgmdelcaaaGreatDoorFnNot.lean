import Derived.Test.YtliaalgmdelcaaaGreatDoorAgree
import Derived.Test.YtliaalgmdelcaaaGreatDoorNot
import Derived.Test.YtliaalgmdelcaaaGreatDoorNotS
import Derived.Test.YtliaalgmdelcaaaGreatDoorCall
namespace Go.Proofs.YtliaalgmdelcaaaGreatDoor
open Go.RowKit
attribute [local go_sem] run_store_float

set_option maxRecDepth 100000 in
theorem CallLogic_NOT (v : Value) (k n d : Int) (t : ByteArray) (w : World)
    (H1 : ∀ W, Below w.heap.size w W → Calls Tryz.prog 116 #[v] W fun e w' => e = .returned (sv k n d t) ∧ Below W.heap.size W w') :
    Calls Tryz.prog 45 #[.string ⟨#[78, 79, 84]⟩, v] w fun e w' => e = .returned (.tuple #[sv k n d t, .bool true]) ∧ Below w.heap.size w w' := by
  have K1 := hid H1
  clear H1
  go_enter Tryz.func45, Tryz.ntmps45
  go_wp2_with fail
  refine (K1.out _ ((Below.refl _ _).alloc (Nat.le_refl _) _)).mono ?_
  rintro e w1 ⟨rfl, hb1⟩
  have hB := Bk.below (Bk.new w 27 #[.int .i64 0, .int .i64 0, .int .i64 0, .string ⟨#[]⟩, .slice none 0 0]) hb1 (by simp)
  obtain ⟨q0, q1, q2, q3, q4, qf⟩ := hB.cells5
  unfold sv
  go_wp2_with fail
  exact end_cell_tmp Tryz.results45 rfl (Bk.set5 hB _ _ _ _ _) Tryz.underlying27 rfl info_sv rfl
    ⟨rfl, Below.set5 (Below.lift ((Below.refl _ _).alloc (Nat.le_refl _) _) (by simp) hb1) (by simp) _ _ _ _ _⟩

/-- the cells of a slice of one flat value -/
theorem Sl.one {w : World} {B : Nat} {A : Option Addr} {c : Nat} {a : SV} (h : Sl w B 5 (.slice A 1 c) 1 ([a].flatMap svCells)) :
    ∃ b o, A = some ⟨b, o, none⟩ ∧ b < B ∧ w.cell? ⟨b, o, none⟩ = some (.int .i64 a.1) ∧ w.cell? ⟨b, o + 1, none⟩ = some (.int .i64 a.2.1) ∧ w.cell? ⟨b, o + 2, none⟩ = some (.int .i64 a.2.2.1) ∧
      w.cell? ⟨b, o + 3, none⟩ = some (.string a.2.2.2) ∧ w.cell? ⟨b, o + 4, none⟩ = some (.slice none 0 0) := by
  obtain ⟨A', c', hv, _, hc⟩ := h
  simp only [Value.slice.injEq] at hv
  obtain ⟨rfl, _, rfl⟩ := hv
  obtain ⟨b, o, rfl, hb, hcell⟩ := hc (by omega)
  exact ⟨b, o, rfl, hb, hcell 0 _ rfl, hcell 1 _ rfl, hcell 2 _ rfl, hcell 3 _ rfl, hcell 4 _ rfl⟩

theorem numeric_of (a : SV) (p : Bool) (h : (p = true ∧ (a.1 = 1 ∨ a.1 = 3)) ∨ (p = false ∧ a.1 = 6)) (W : World) :
    Calls Tryz.prog 140 #[svV a] W fun e w' => e = .returned (.bool p) ∧ Below W.heap.size W w' := by
  rcases h with ⟨rfl, h⟩ | ⟨rfl, h⟩
  · exact numeric_yes a.1 a.2.1 a.2.2.1 a.2.2.2 W h
  · exact numeric_no a.1 a.2.1 a.2.2.1 a.2.2.2 W (by rw [h]; rfl) (by rw [h]; rfl) (by rw [h]; rfl)

/-- what the reference says of NOT of a truth or a number -/
theorem call_NOT_yes (a : SV) (n' : Int) (r : Bool) (hr : (n' == 0) = r) (hk : a.1 = 1 ∨ a.1 = 3) (A : Option Addr) (c : Nat) (w : World)
    (h : Sl w w.heap.size 5 (.slice A 1 c) 1 ([a].flatMap svCells))
    (hA : ∀ W, Calls Tryz.prog 209 #[svV a] W fun e w' => e = .returned (sv 3 n' 0 es) ∧ Below W.heap.size W w') :
    Calls Tryz.prog 15 #[.string ⟨#[78, 79, 84]⟩, .slice A 1 c] w fun e w' => e = .returned (sv 3 (b2i r) 0 es) ∧ Below w.heap.size w w' := by
  refine Call_NOT _ _ _ _ _ w fun W1 hW1 => CallOver_NOT _ _ _ _ _ W1 (fun W2 hW2 => ?_) (fun W2 hW2 => ?_)
  · have h2 : Below w.heap.size w W2 := Below.lift hW1 hW1.size hW2
    have hS2 := (h.keep h2).more h2.size
    refine Fits_NOT _ true W2 (fun W hW => ?_) (fun W _ => fitsTexts_miss_NOT A 1 c W) (fun W hW => ?_)
    · exact fitsNumbers_miss_NOT [a] (fun _ => true) _ W ((hS2.keep hW).more hW.size) (by simp) (fun x hx V => by simp at hx; subst hx; exact numeric_of _ true (.inl ⟨rfl, hk⟩) V)
    · obtain ⟨b, o, rfl, hb, g0, _⟩ := ((hS2.keep hW).more hW.size).one
      exact fitsChoices_NOT_yes b o c a.1 W hk hb g0
  · have h2 : Below w.heap.size w W2 := Below.lift hW1 hW1.size hW2
    have hS2 := (h.keep h2).more h2.size
    refine CallLogic_NOT _ _ _ _ _ W2 fun W hW => ?_
    obtain ⟨b, o, rfl, hb, g0, g1, g2, g3, g4⟩ := ((hS2.keep hW).more hW.size).one
    exact not_of a n' r hr b o c W hb hA g0 g1 g2 g3 g4

theorem call_NOT_no (a : SV) (hk : a.1 = 6) (A : Option Addr) (c : Nat) (w : World)
    (h : Sl w w.heap.size 5 (.slice A 1 c) 1 ([a].flatMap svCells)) :
    Calls Tryz.prog 15 #[.string ⟨#[78, 79, 84]⟩, .slice A 1 c] w fun e w' => e = .returned (sv 6 0 0 es) ∧ Below w.heap.size w w' := by
  refine Call_NOT _ _ _ _ _ w fun W1 hW1 => CallOver_no_NOT _ W1 (fun W2 hW2 => ?_)
  have h2 : Below w.heap.size w W2 := Below.lift hW1 hW1.size hW2
  have hS2 := (h.keep h2).more h2.size
  refine Fits_NOT _ false W2 (fun W hW => ?_) (fun W _ => fitsTexts_miss_NOT A 1 c W) (fun W hW => ?_)
  · exact fitsNumbers_miss_NOT [a] (fun _ => false) _ W ((hS2.keep hW).more hW.size) (by simp) (fun x hx V => by simp at hx; subst hx; exact numeric_of _ false (.inr ⟨rfl, hk⟩) V)
  · obtain ⟨b, o, rfl, hb, g0, _⟩ := ((hS2.keep hW).more hW.size).one
    rw [hk] at g0
    exact fitsChoices_NOT_no b o c W hb g0

theorem Fn_NOT (x : Nat) (c : Bool) (hx : (FloatKind.f64.format.order x 0 != some .eq) = c) (a : AV) (ha : ∃ b, fav a.1 a.2.1 a.2.2 = fa x es b es 1) :
    Fn 36 [a] (.log (if c then 0 else one64)) := by
  intro w g L el h
  obtain ⟨b, hb⟩ := ha
  have e : [a].map avI = [.iface 67 (fa x es b es 1)] := by simp [avI, hb]
  rw [e] at h
  exact NOT_num x c hx b es es w g L el h
end Go.Proofs.YtliaalgmdelcaaaGreatDoor
