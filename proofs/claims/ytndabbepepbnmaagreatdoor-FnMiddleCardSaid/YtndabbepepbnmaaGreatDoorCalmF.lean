import Derived.Test.YtndabbepepbnmaaGreatDoorCalm
import Derived.Test.YtndabbepepbnmaaGreatDoorAllM
namespace Go.Proofs.YtndabbepepbnmaaGreatDoor
open Go.RowKit

/-- a frame with the values of operations in their slots: d = (operation, slot) -/
def fill (t : Array Value) (ds : List (Nat × Nat)) (v : Nat → Value) : Array Value :=
  t.mapIdx fun k x => match ds.find? (fun d => d.2 == k) with | some d => v d.1 | none => x
/-- operations and slots go together one by one -/
def pairB (ds : List (Nat × Nat)) : Bool := ds.all fun d => ds.all fun d' => (d.1 == d'.1) == (d.2 == d'.2)
theorem pairB_spec {ds : List (Nat × Nat)} (h : pairB ds = true) {d d' : Nat × Nat} (hd : d ∈ ds) (hd' : d' ∈ ds) : d.1 = d'.1 ↔ d.2 = d'.2 := by
  have h1 := List.all_eq_true.1 (List.all_eq_true.1 h d hd) d' hd'
  rw [beq_iff_eq] at h1
  constructor
  · intro e
    have : (d.1 == d'.1) = true := by simp [e]
    rw [this] at h1
    exact beq_iff_eq.1 h1.symm
  · intro e
    have : (d.2 == d'.2) = true := by simp [e]
    rw [this] at h1
    exact beq_iff_eq.1 h1
theorem fill_size (t : Array Value) (ds : List (Nat × Nat)) (v : Nat → Value) : (fill t ds v).size = t.size := by simp [fill]
theorem fill_at (t : Array Value) (ds : List (Nat × Nat)) (v : Nat → Value) (k : Nat) :
    (fill t ds v)[k]? = (t[k]?).map fun x => match ds.find? (fun d => d.2 == k) with | some d => v d.1 | none => x := by
  simp [fill]
theorem fill_put (t : Array Value) {ds : List (Nat × Nat)} (hp : pairB ds = true) (v : Nat → Value) {i s : Nat} (hm : (i, s) ∈ ds) (x : Value) :
    (fill t ds v).setIfInBounds s x = fill t ds (upd v i x) := by
  apply Array.ext_getElem?
  intro k
  rw [Array.getElem?_setIfInBounds, fill_at, fill_at, fill_size]
  by_cases hk : s = k
  · subst hk
    rw [if_pos rfl]
    have hf : ∃ d, ds.find? (fun d => d.2 == s) = some d := by
      cases h : ds.find? (fun d => d.2 == s) with
      | some d => exact ⟨d, rfl⟩
      | none => exact absurd (List.find?_eq_none.1 h (i, s) hm) (by simp)
    obtain ⟨d, hd⟩ := hf
    have h2 : d.2 = s := by have := List.find?_some hd; simpa using this
    have h1 : d.1 = i := (pairB_spec hp (List.mem_of_find?_eq_some hd) hm).2 h2
    rw [hd]
    by_cases hlt : s < t.size
    · rw [if_pos hlt, Array.getElem?_eq_getElem hlt]
      simp [h1, upd]
    · rw [if_neg hlt, Array.getElem?_eq_none (by omega)]; rfl
  · rw [if_neg hk]
    cases h : ds.find? (fun d => d.2 == k) with
    | none => rfl
    | some d =>
      have h2 : d.2 = k := by have := List.find?_some h; simpa using this
      have h1 : d.1 ≠ i := fun e => hk (by rw [← h2]; exact ((pairB_spec hp (List.mem_of_find?_eq_some h) hm).1 e).symm)
      cases t[k]? with
      | none => rfl
      | some y => simp [upd, h1]
theorem fill_start (t : Array Value) (ds : List (Nat × Nat)) (hp : pairB ds = true) : fill t ds (fun i => match ds.find? (fun d => d.1 == i) with | some d => t.getD d.2 undef | none => undef) = t := by
  apply Array.ext_getElem?
  intro k
  rw [fill_at]
  cases ht : t[k]? with
  | none => rfl
  | some y =>
    cases h : ds.find? (fun d => d.2 == k) with
    | none => rfl
    | some d =>
      have h2 : d.2 = k := by have := List.find?_some h; simpa using this
      have hm := List.mem_of_find?_eq_some h
      have hf : ∃ d', ds.find? (fun d' => d'.1 == d.1) = some d' := by
        cases h3 : ds.find? (fun d' => d'.1 == d.1) with
        | some d' => exact ⟨d', rfl⟩
        | none => exact absurd (List.find?_eq_none.1 h3 d hm) (by simp)
      obtain ⟨d', hd'⟩ := hf
      have h1 : d'.1 = d.1 := by have := List.find?_some hd'; simpa using this
      have h4 : d'.2 = d.2 := (pairB_spec hp (List.mem_of_find?_eq_some hd') hm).1 h1
      simp only [Option.map_some, hd', h4, h2]
      rw [Array.getD_eq_getD_getElem?, ht]; rfl

/-- the same frame, slot by slot -/
def sets (t : Array Value) : List (Nat × Nat) → (Nat → Value) → Array Value
  | [], _ => t
  | d :: ds, v => (sets t ds v).setIfInBounds d.2 (v d.1)
theorem sets_size (t : Array Value) (ds : List (Nat × Nat)) (v : Nat → Value) : (sets t ds v).size = t.size := by
  induction ds with
  | nil => rfl
  | cons d ds ih => simp [sets, ih]
theorem fill_eq_sets (t : Array Value) (ds : List (Nat × Nat)) (v : Nat → Value) : fill t ds v = sets t ds v := by
  apply Array.ext_getElem?
  intro k
  rw [fill_at]
  induction ds with
  | nil => simp [sets]
  | cons d ds ih =>
    rw [sets, Array.getElem?_setIfInBounds, sets_size, List.find?_cons]
    by_cases hk : d.2 = k
    · rw [if_pos hk]
      have : (d.2 == k) = true := by simpa using hk
      rw [this]
      by_cases hlt : d.2 < t.size
      · rw [if_pos hlt, ← hk, Array.getElem?_eq_getElem hlt]; rfl
      · rw [if_neg hlt, ← hk, Array.getElem?_eq_none (by omega)]; rfl
    · rw [if_neg hk]
      have : (d.2 == k) = false := by simpa using hk
      rw [this]
      exact ih

/-- what an operation hands back -/
inductive Ft where
  | is (c : Value)
  | new (t : TypeId) (cs : Array Value)
  | lit (n : Nat) (t : TypeId) (cs : Array Value)
  | mat (a : SV) (rows : List (List SV))
  | amat (a : AV) (rows : List (List AV))
  | lit2 (t : TypeId) (a b : AV) (r q : List (List AV))
def Ft.holds : Ft → Value → World → Nat → Nat → Prop
  | .is c, v, _, _, _ => v = c
  | .new t cs, v, w, lo, hi => ∃ g, v = .pointer (some ⟨g, 0, none⟩) ∧ Bk w g t cs ∧ lo ≤ g ∧ g < hi
  | .lit n t cs, v, w, lo, hi => ∃ g, v = .slice (some ⟨g, 0, none⟩) n n ∧ Bk w g t cs ∧ lo ≤ g ∧ g < hi
  | .mat a rows, v, w, lo, hi => ∃ s, v = smV a s ∧ RwP w (fun b => lo ≤ b ∧ b < hi) 5 svCells s rows
  | .amat a rows, v, w, lo, hi => ∃ s, v = amV a s ∧ RwP w (fun b => lo ≤ b ∧ b < hi) 4 avCells s rows
  | .lit2 t a b r q, v, w, lo, hi => ∃ g s s', v = .slice (some ⟨g, 0, none⟩) 2 2 ∧ Bk w g t #[.int .i64 a.1, .float .f64 a.2.1, .string a.2.2, s, .int .i64 b.1, .float .f64 b.2.1, .string b.2.2, s'] ∧ lo ≤ g ∧ g < hi ∧
      RwP w (fun b => b < hi) 4 avCells s r ∧ RwP w (fun b => b < hi) 4 avCells s' q
theorem Ft.mono {f : Ft} {v : Value} {w w' : World} {lo hi : Nat} (h : f.holds v w lo hi) (hh : hi ≤ w.heap.size) (hb : Below w.heap.size w w') : f.holds v w' lo hi := by
  cases f with
  | is c => exact h
  | new t cs => obtain ⟨g, hv, hB, h1, h2⟩ := h; exact ⟨g, hv, hB.below hb (by omega), h1, h2⟩
  | lit n t cs => obtain ⟨g, hv, hB, h1, h2⟩ := h; exact ⟨g, hv, hB.below hb (by omega), h1, h2⟩
  | mat a rows => obtain ⟨s, hv, hr⟩ := h; exact ⟨s, hv, hr.keep fun b hb' => ⟨hb.block b (by omega), hb'⟩⟩
  | amat a rows => obtain ⟨s, hv, hr⟩ := h; exact ⟨s, hv, hr.keep fun b hb' => ⟨hb.block b (by omega), hb'⟩⟩
  | lit2 t a b r q => obtain ⟨g, s, s', hv, hB, h1, h2, hr, hq⟩ := h; exact ⟨g, s, s', hv, hB.below hb (by omega), h1, h2, hr.keep fun b hb' => ⟨hb.block b (by omega), hb'⟩, hq.keep fun b hb' => ⟨hb.block b (by omega), hb'⟩⟩

section
variable {P : Program} {ops : Array Oper} {Q : Exit → Act → World → Prop}
/-- one operation's duty, the frame filled -/
def Duty (P : Program) (ops : Array Oper) (Q : Exit → Act → World → Prop) (t : Array Value) (ds : List (Nat × Nat)) (fs : List Ft) (w0 : World) (o : Oper) (f : Ft) : Prop :=
  ∀ (v : Nat → Value) (w : World), Below w0.heap.size w0 w →
    (∀ (j : Nat) (g : Ft), fs[j]? = some g → (o.after.any fun e => Region.binds .any e && e.on == j) = true → ∃ lo hi, w0.heap.size ≤ lo ∧ lo ≤ hi ∧ hi ≤ w.heap.size ∧ g.holds (v j) w lo hi) →
    Region.wanted o (yielded ops (fill t ds v)) = true ∧ ∀ B : Act, B = ⟨fill t ds v, []⟩ → o.wp P B w (fun a' w' => ∃ x, a' = B.put o.dst x ∧ Below w.heap.size w w' ∧ f.holds x w' w.heap.size w'.heap.size) Q

/-- all duties, one behind the other -/
def Duties (P : Program) (ops : Array Oper) (Q : Exit → Act → World → Prop) (t : Array Value) (ds : List (Nat × Nat)) (fsAll : List Ft) (w0 : World) : List Oper → List Ft → Prop
  | _, [] => True
  | [], _ :: _ => False
  | o :: os, f :: fs => Duty P ops Q t ds fsAll w0 o f ∧ Duties P ops Q t ds fsAll w0 os fs
theorem Duties.at_ {t : Array Value} {ds : List (Nat × Nat)} {fsAll : List Ft} {w0 : World} : ∀ {os : List Oper} {fs : List Ft}, Duties P ops Q t ds fsAll w0 os fs → ∀ (i : Nat) (o : Oper) (f : Ft), os[i]? = some o → fs[i]? = some f → Duty P ops Q t ds fsAll w0 o f
  | _, [], _, i, o, f, _, hf => by simp at hf
  | [], _ :: _, h, _, _, _, _, _ => h.elim
  | _ :: _, _ :: _, h, 0, o, f, ho, hf => by simp at ho hf; subst ho; subst hf; exact h.1
  | _ :: _, _ :: _, h, i + 1, o, f, ho, hf => Duties.at_ h.2 i o f (by simpa using ho) (by simpa using hf)

/-- THE LAW, the frame filled: n operations in whatever order, then the tail l -/
theorem wp_region_duties {id : Nat} {os : List Oper} {t : Array Value} {w0 : World} (n : Nat) (ds : List (Nat × Nat)) (fs : List Ft) (hp : pairB ds = true) (hm : P.follows .mixedOrders = true) (hn : n < os.length)
    (hback : backB os.toArray = true) (hs : Region.sinkB .any os.toArray n = true) (hc : Region.chainB .any os.toArray n = true)
    (hseq : Region.seqB .any os.toArray (os.length - n) n (headList n os.length) = true) (hfs : fs.length = n)
    (hds : ((List.range n).all fun i => ((os[i]?).map fun o => match o.dst with | some d => decide ((i, d) ∈ ds) | none => false).getD false) = true)
    (hend : ∀ (v : Nat → Value) (w : World) (lo hi : Nat → Nat), Below w0.heap.size w0 w → (∀ (j : Nat) (f : Ft), fs[j]? = some f → f.holds (v j) w (lo j) (hi j)) → (∀ j, j < n → w0.heap.size ≤ lo j ∧ lo j ≤ hi j ∧ hi j ≤ w.heap.size) → (∀ j k, j < n → k < n → j ≠ k → hi j ≤ lo k ∨ hi k ≤ lo j) → wpList P os.toArray Q (os.drop n) ⟨fill t ds v, []⟩ w)
    (hstep : Duties P os.toArray Q t ds fs w0.drew os fs) :
    (Code.region id os.toArray true).wp P Q ⟨t, []⟩ w0 := by
  refine wp_region_calm (n := n) (fun v => ⟨fill t ds v, []⟩) _ (by rw [fill_start t ds hp]) (fun j v w lo hi => ∀ f : Ft, fs[j]? = some f → f.holds v w lo hi) (os.drop n) hm (by simpa using hn) hback hs hc ?_ ?_ ?_ ?_ ?_ ?_
  · intro j
    simp [List.getElem?_drop]
  · simp; omega
  · simpa using hseq
  · intro j v w w' lo hi h hh hb f hf
    exact Ft.mono (h f hf) hh hb
  · intro i o hin ho v w hb hpre
    have ho' : os[i]? = some o := by simpa using ho
    obtain ⟨f, hf⟩ : ∃ f, fs[i]? = some f := ⟨_, List.getElem?_eq_getElem (by omega)⟩
    have hdst : ∃ d, o.dst = some d ∧ (i, d) ∈ ds := by
      have := List.all_eq_true.1 hds i (List.mem_range.2 hin)
      rw [ho'] at this
      simp only [Option.map_some, Option.getD_some] at this
      cases hd : o.dst with
      | none => rw [hd] at this; cases this
      | some d => rw [hd] at this; exact ⟨d, rfl, by simpa using this⟩
    obtain ⟨d, hd, hmem⟩ := hdst
    have := hstep.at_ i o f ho' hf v w hb (fun j g hg hj => by
      obtain ⟨e, he, hb2⟩ := Array.any_eq_true'.1 hj
      simp only [Bool.and_eq_true, beq_iff_eq] at hb2
      obtain ⟨lo, hi, h1, h2, h3, h4⟩ := hpre e he hb2.1
      exact ⟨lo, hi, h1, h2, h3, by have := h4 g (by rw [hb2.2]; exact hg); rw [hb2.2] at this; exact this⟩)
    rw [if_pos this.1]
    refine Oper.wp_mono (fun a' w' ⟨x, ha, hb', hx⟩ => ⟨x, ?_, hb', fun f' hf' => ?_⟩) (this.2 _ rfl)
    · rw [ha, hd]
      show (⟨(fill t ds v).setIfInBounds d x, []⟩ : Act) = _
      rw [fill_put t hp v hmem x]
    · rw [hf] at hf'
      injection hf' with e
      rw [← e]; exact hx
  · intro v w lo hi hb hf hlow hap
    exact hend v w lo hi hb (fun j f hjf => hf j (by have := (List.getElem?_eq_some_iff.1 hjf).1; omega) f hjf) hlow hap

theorem got_in {B : Act} {t : Array Value} {ds : List (Nat × Nat)} {v : Nat → Value} (hB : B = ⟨fill t ds v, []⟩) {s i k : Nat} (h : ds.find? (fun d => d.2 == s) = some (i, k)) (hs : s < t.size) : B.tmps[s]?.getD undef = v i := by
  rw [hB]
  show (fill t ds v)[s]?.getD undef = v i
  rw [fill_at, Array.getElem?_eq_getElem hs, h]; rfl
theorem got_out {B : Act} {t : Array Value} {ds : List (Nat × Nat)} {v : Nat → Value} (hB : B = ⟨fill t ds v, []⟩) {s : Nat} (h : ds.find? (fun d => d.2 == s) = none) : B.tmps[s]?.getD undef = t[s]?.getD undef := by
  rw [hB]
  show (fill t ds v)[s]?.getD undef = _
  rw [fill_at, h]
  cases t[s]? <;> rfl
theorem wanted_if {o : Oper} {t : Array Value} {ds : List (Nat × Nat)} {v : Nat → Value} {j s i k : Nat} {b : Bool} (hg : o.guard = some (j, b)) (hd : (ops[j]?).bind (·.dst) = some s) (hf : ds.find? (fun d => d.2 == s) = some (i, k)) (hs : s < t.size) (hv : v i = .bool b) :
    Region.wanted o (yielded ops (fill t ds v)) = true := by
  unfold Region.wanted yielded
  rw [hg]
  simp only [hd, Option.bind_some, fill_at, Array.getElem?_eq_getElem hs, hf, Option.map_some, hv]
  simp
theorem Below.undrew {w w' : World} (h : Below w.drew.heap.size w.drew w') : Below w.heap.size w w' := ⟨h.os, h.tape, h.output, h.size, h.block⟩
end
end Go.Proofs.YtndabbepepbnmaaGreatDoor
