import Derived.StillTail
import Derived.Below
import Derived.Test.YtdanlcciefbboaaGreatAllM
namespace Go.Proofs.YtdanlcciefbboaaGreat
open Go.RowKit

/-
A region that draws its order, whose operations lay memory but write to none that was there: whatever order is drawn, at the end each operation has handed back a value of its own kind, each with an interval of new blocks of its own; then the forced tail is walked.
-/
section
variable {P : Program} {ops : Array Oper} {Q : Exit → Act → World → Prop}

def upd (v : Nat → Value) (i : Nat) (x : Value) : Nat → Value := fun j => if j = i then x else v j
theorem upd_same (v : Nat → Value) (i : Nat) (x : Value) : upd v i x i = x := if_pos rfl
theorem upd_other (v : Nat → Value) {i j : Nat} (x : Value) (h : j ≠ i) : upd v i x j = v j := if_neg h
def updN (v : Nat → Nat) (i x : Nat) : Nat → Nat := fun j => if j = i then x else v j
theorem updN_same (v : Nat → Nat) (i x : Nat) : updN v i x i = x := if_pos rfl
theorem updN_other (v : Nat → Nat) {i j : Nat} (x : Nat) (h : j ≠ i) : updN v i x j = v j := if_neg h

/-- each operation waits for earlier ones alone -/
def backB (ops : Array Oper) : Bool := (List.range ops.size).all fun i => ((ops[i]?).map fun o => o.after.all fun e => decide (e.on < i)).getD true
theorem backB_spec (h : backB ops = true) {i : Nat} {o : Oper} (ho : ops[i]? = some o) : ∀ e ∈ o.after, e.on < i := by
  intro e he
  have h1 := List.all_eq_true.1 h i (List.mem_range.2 (Array.getElem?_eq_some_iff.1 ho).1)
  rw [ho] at h1
  simp only [Option.map_some, Option.getD_some] at h1
  have := Array.all_eq_true'.1 h1 e he
  simpa using this

/-- the first n listed, no other -/
def headList (n m : Nat) : Array Bool := (Array.replicate n true) ++ (Array.replicate (m - n) false)

/-- what is known of the operations that have been carried out -/
structure Calm (G : Nat → Value → World → Nat → Nat → Prop) (w0 : World) (n : Nat) (listed : Array Bool) (v : Nat → Value) (w : World) (lo hi : Nat → Nat) : Prop where
  below : Below w0.heap.size w0 w
  fact : ∀ j, j < n → listed.getD j false = true → G j (v j) w (lo j) (hi j)
  low : ∀ j, j < n → listed.getD j false = true → w0.heap.size ≤ lo j ∧ lo j ≤ hi j ∧ hi j ≤ w.heap.size
  apart : ∀ j k, j < n → k < n → j ≠ k → listed.getD j false = true → listed.getD k false = true → hi j ≤ lo k ∨ hi k ≤ lo j

/-- one operation's duty -/
def CalmStep (P : Program) (ops : Array Oper) (Q : Exit → Act → World → Prop) (A : (Nat → Value) → Act) (G : Nat → Value → World → Nat → Nat → Prop) (w0 : World) (i : Nat) (o : Oper) : Prop :=
  ∀ (v : Nat → Value) (w : World), Below w0.heap.size w0 w →
    (∀ e ∈ o.after, Region.binds .any e = true → ∃ lo hi, w0.heap.size ≤ lo ∧ lo ≤ hi ∧ hi ≤ w.heap.size ∧ G e.on (v e.on) w lo hi) →
    if Region.wanted o (yielded ops (A v).tmps) = true then o.wp P (A v) w (fun a' w' => ∃ x, a' = A (upd v i x) ∧ Below w.heap.size w w' ∧ G i x w' w.heap.size w'.heap.size) Q
    else (A v).put o.dst undef = A (upd v i undef) ∧ G i undef w w.heap.size w.heap.size

theorem headList_size (n m : Nat) (h : n ≤ m) : (headList n m).size = m := by simp [headList]; omega
theorem headList_at (n m i : Nat) : (headList n m)[i]? = if i < n then some true else if i < n + (m - n) then some false else none := by
  unfold headList
  rw [Array.getElem?_append]
  simp only [Array.size_replicate, Array.getElem?_replicate]
  by_cases h : i < n
  · simp only [if_pos h]
  · simp only [if_neg h]
    by_cases h2 : i < n + (m - n)
    · rw [if_pos h2, if_pos (by omega)]
    · rw [if_neg h2, if_neg (by omega)]

theorem calm_any {A : (Nat → Value) → Act} {G : Nat → Value → World → Nat → Nat → Prop} {w0 : World} {n : Nat} {l : List Oper} (hn : n < ops.size)
    (hback : backB ops = true) (hs : Region.sinkB .any ops n = true) (hc : Region.chainB .any ops n = true) (hl : ∀ j, l[j]? = ops[n + j]?) (hll : n + l.length = ops.size)
    (hseq : Region.seqB .any ops l.length n (headList n ops.size) = true)
    (hG : ∀ (j : Nat) (v : Value) (w w' : World) (lo hi : Nat), G j v w lo hi → hi ≤ w.heap.size → Below w.heap.size w w' → G j v w' lo hi)
    (hstep : ∀ i o, i < n → ops[i]? = some o → CalmStep P ops Q A G w0 i o)
    (hend : ∀ (v : Nat → Value) (w : World) (lo hi : Nat → Nat), Below w0.heap.size w0 w → (∀ j, j < n → G j (v j) w (lo j) (hi j)) → (∀ j, j < n → w0.heap.size ≤ lo j ∧ lo j ≤ hi j ∧ hi j ≤ w.heap.size) → (∀ j k, j < n → k < n → j ≠ k → hi j ≤ lo k ∨ hi k ≤ lo j) → wpList P ops Q l (A v) w) :
    ∀ (f : Nat) (rem : List Nat) (listed : Array Bool) (v : Nat → Value) (w : World) (lo hi : Nat → Nat), rem.length = f → rem.Nodup → (∀ i, i ∈ rem ↔ i < n ∧ listed.getD i false = false) →
      HeadInv .any ops n listed → Calm G w0 n listed v w lo hi → wpAny P .any ops Q (f + l.length) listed (A v) w := by
  intro f
  induction f with
  | zero =>
    intro rem listed v w lo hi hf _ hrem inv hcalm
    obtain rfl := List.eq_nil_of_length_eq_zero hf
    have hall : ∀ i, i < n → listed.getD i false = true := fun i hi => by
      cases h : listed.getD i false with
      | true => rfl
      | false => exact absurd ((hrem i).2 ⟨hi, h⟩) (by simp)
    have heq : listed = headList n ops.size := by
      apply Array.ext_getElem?
      intro i
      rw [headList_at]
      by_cases hi : i < n
      · rw [if_pos hi]
        have h1 := hall i hi
        have h2 : i < listed.size := by rw [inv.size]; omega
        rw [Array.getElem?_eq_getElem h2]
        simp [h2] at h1
        rw [h1]
      · rw [if_neg hi]
        by_cases h2 : i < ops.size
        · rw [if_pos (by omega)]
          have h1 := inv.tail i (by omega) h2
          have h3 : i < listed.size := by rw [inv.size]; exact h2
          rw [Array.getElem?_eq_getElem h3]
          simp [h3] at h1
          rw [h1]
        · rw [if_neg (by omega), Array.getElem?_eq_none (by rw [inv.size]; omega)]
    rw [Nat.zero_add]
    refine wpAny_of_seq l n listed (A v) w hl (by rw [heq]; exact hseq) ?_
    exact hend v w lo hi hcalm.below (fun j hj => hcalm.fact j hj (hall j hj)) (fun j hj => hcalm.low j hj (hall j hj)) (fun j k hj hk hne => hcalm.apart j k hj hk hne (hall j hj) (hall k hk))
  | succ f ih =>
    intro rem listed v w lo hi hf hnd hrem inv hcalm
    have hex : ∃ i, i < n ∧ listed.getD i false = false := by
      cases rem with
      | nil => simp at hf
      | cons i r => exact ⟨i, (hrem i).1 (by simp)⟩
    have hsz := inv.size
    rw [show f + 1 + l.length = (f + l.length) + 1 by omega]
    refine ⟨fun h0 => ?_, fun i hi' => ?_⟩
    · exfalso
      have key : ∀ d i, i ≤ d → i < n → listed.getD i false = false → False := by
        intro d
        induction d using Nat.strongRecOn with
        | _ d ihd =>
          intro i hid hin hun
          by_cases hr : i ∈ Region.ready .any ops listed
          · rw [h0] at hr; cases hr
          · obtain ⟨o, ho⟩ : ∃ o, ops[i]? = some o := ⟨_, Array.getElem?_eq_getElem (by omega)⟩
            have hex2 : ∃ e, e ∈ o.after ∧ Region.binds .any e = true ∧ listed.getD e.on false = false := by
              rcases Classical.em (∃ e, e ∈ o.after ∧ Region.binds .any e = true ∧ listed.getD e.on false = false) with h | h
              · exact h
              · exfalso
                refine hr (mem_ready.2 ⟨getD_in (by omega) hun, o, ho, fun e he hb => ?_⟩)
                cases h2 : listed.getD e.on false with
                | true => rfl
                | false => exact absurd ⟨e, he, hb, h2⟩ h
            obtain ⟨e, he, hb, h2⟩ := hex2
            have hlt := backB_spec hback ho e he
            exact ihd (d - 1) (by omega) e.on (by omega) (by omega) h2
      obtain ⟨i, hin, hun⟩ := hex
      exact key i i (Nat.le_refl _) hin hun
    · obtain ⟨j, hjn, hjun⟩ := hex
      have hin : i < n := by
        rcases Nat.lt_or_ge i n with h | h
        · exact h
        · exact absurd hi' (tail_waits hs hc hn inv _ j rfl hjn (getD_in (by omega) hjun) i h)
      obtain ⟨hun, o, ho, hall⟩ := mem_ready.1 hi'
      have hunf := getD_both hun
      have hpre : ∀ e ∈ o.after, Region.binds .any e = true → ∃ lo hi, w0.heap.size ≤ lo ∧ lo ≤ hi ∧ hi ≤ w.heap.size ∧ G e.on (v e.on) w lo hi := fun e he hb => by
        have hlt := backB_spec hback ho e he
        have h1 := hall e he hb
        obtain ⟨h2, h3, h4⟩ := hcalm.low e.on (by omega) h1
        exact ⟨lo e.on, hi e.on, h2, h3, h4, hcalm.fact e.on (by omega) h1⟩
      have hst := hstep i o hin ho v w hcalm.below hpre
      have hmem : i ∈ rem := (hrem i).2 ⟨hin, hunf⟩
      have hset : ∀ k, (listed.setIfInBounds i true).getD k false = true → k ≠ i → listed.getD k false = true := fun k h hne => by
        rw [getD_set_ne false (Ne.symm hne)] at h; exact h
      have next : ∀ (x : Value) (w' : World), Below w.heap.size w w' → G i x w' w.heap.size w'.heap.size → wpAny P .any ops Q (f + l.length) (listed.setIfInBounds i true) (A (upd v i x)) w' := by
        intro x w' hb hg
        have hz := hb.size
        have hz0 := hcalm.below.size
        refine ih (rem.erase i) (listed.setIfInBounds i true) (upd v i x) w' (updN lo i w.heap.size) (updN hi i w'.heap.size) ?_ (hnd.erase i) ?_ (inv.set hi' hin) ?_
        · rw [List.length_erase_of_mem hmem, hf]; rfl
        · intro k
          rw [hnd.mem_erase_iff]
          constructor
          · rintro ⟨hne, hk⟩
            obtain ⟨h1, h2⟩ := (hrem k).1 hk
            exact ⟨h1, by rw [getD_set_ne false (Ne.symm hne)]; exact h2⟩
          · rintro ⟨h1, h2⟩
            have hne : k ≠ i := fun e => by
              subst e
              simp [show k < listed.size by omega] at h2
            exact ⟨hne, (hrem k).2 ⟨h1, by rw [getD_set_ne false (Ne.symm hne)] at h2; exact h2⟩⟩
        · refine ⟨hcalm.below.trans (hb.mono hz0), fun j hj hlj => ?_, fun j hj hlj => ?_, fun j k hj hk hne hlj hlk => ?_⟩
          · by_cases hji : j = i
            · subst hji; rw [upd_same, updN_same, updN_same]; exact hg
            · rw [upd_other _ _ hji, updN_other _ _ hji, updN_other _ _ hji]
              exact hG j _ w w' _ _ (hcalm.fact j hj (hset j hlj hji)) (hcalm.low j hj (hset j hlj hji)).2.2 hb
          · by_cases hji : j = i
            · subst hji; rw [updN_same, updN_same]; exact ⟨hz0, hz, Nat.le_refl _⟩
            · rw [updN_other _ _ hji, updN_other _ _ hji]
              have := hcalm.low j hj (hset j hlj hji)
              exact ⟨this.1, this.2.1, Nat.le_trans this.2.2 hz⟩
          · by_cases hji : j = i
            · subst hji
              have hkj : k ≠ j := Ne.symm hne
              rw [updN_same, updN_same, updN_other _ _ hkj, updN_other _ _ hkj]
              exact .inr (hcalm.low k hk (hset k hlk hkj)).2.2
            · by_cases hki : k = i
              · subst hki
                rw [updN_same, updN_same, updN_other _ _ hji, updN_other _ _ hji]
                exact .inl (hcalm.low j hj (hset j hlj hji)).2.2
              · rw [updN_other _ _ hji, updN_other _ _ hji, updN_other _ _ hki, updN_other _ _ hki]
                exact hcalm.apart j k hj hk hne (hset j hlj hji) (hset k hlk hki)
      unfold wpOp
      simp only [ho]
      by_cases hw : Region.wanted o (yielded ops (A v).tmps) = true
      · rw [if_pos hw] at hst ⊢
        exact .inl (Oper.wp_mono (fun a' w' ⟨x, ha, hb, hg⟩ => by rw [ha]; exact next x w' hb hg) hst)
      · rw [if_neg hw] at hst ⊢
        rw [hst.1]
        exact next undef w (Below.refl _ _) hst.2

theorem nodup_range (n : Nat) : (List.range n).Nodup := List.nodup_range

/-- THE LAW -/
theorem wp_region_calm {id n : Nat} {a0 : Act} {w0 : World} (A : (Nat → Value) → Act) (v0 : Nat → Value) (hA : A v0 = a0) (G : Nat → Value → World → Nat → Nat → Prop) (l : List Oper) (hm : P.follows .mixedOrders = true) (hn : n < ops.size)
    (hback : backB ops = true) (hs : Region.sinkB .any ops n = true) (hc : Region.chainB .any ops n = true) (hl : ∀ j, l[j]? = ops[n + j]?) (hll : n + l.length = ops.size)
    (hseq : Region.seqB .any ops l.length n (headList n ops.size) = true)
    (hG : ∀ (j : Nat) (v : Value) (w w' : World) (lo hi : Nat), G j v w lo hi → hi ≤ w.heap.size → Below w.heap.size w w' → G j v w' lo hi)
    (hstep : ∀ i o, i < n → ops[i]? = some o → CalmStep P ops Q A G w0.drew i o)
    (hend : ∀ (v : Nat → Value) (w : World) (lo hi : Nat → Nat), Below w0.heap.size w0 w → (∀ j, j < n → G j (v j) w (lo j) (hi j)) → (∀ j, j < n → w0.heap.size ≤ lo j ∧ lo j ≤ hi j ∧ hi j ≤ w.heap.size) → (∀ j k, j < n → k < n → j ≠ k → hi j ≤ lo k ∨ hi k ≤ lo j) → wpList P ops Q l (A v) w) :
    (Code.region id ops true).wp P Q a0 w0 := by
  subst hA
  refine wp_region_any hm ?_
  have h := calm_any (P := P) (Q := Q) (A := A) (G := G) (w0 := w0.drew) hn hback hs hc hl hll hseq hG hstep (fun v w lo hi hb => hend v w lo hi ⟨hb.os, hb.tape, hb.output, hb.size, hb.block⟩) n (List.range n) (Array.replicate ops.size false) v0 w0.drew (fun _ => 0) (fun _ => 0)
    (by simp) (nodup_range n) (fun i => by rw [List.mem_range]; exact ⟨fun h => ⟨h, getD_replicate_false _ _⟩, fun h => h.1⟩)
    ⟨by simp, fun j oj _ hlj => (by rw [getD_replicate_false] at hlj; cases hlj), fun t _ ht => by simp [ht]⟩
    ⟨Below.refl _ _, fun j _ hlj => (by rw [getD_replicate_false] at hlj; cases hlj), fun j _ hlj => (by rw [getD_replicate_false] at hlj; cases hlj), fun j k _ _ _ hlj => (by rw [getD_replicate_false] at hlj; cases hlj)⟩
  rw [hll] at h
  exact h
end
end Go.Proofs.YtdanlcciefbboaaGreat
namespace Go.Proofs.YtdanlcciefbboaaGreat
open Go.RowKit

/-- a frame with the values of operations in their slots: d = (operation, slot) -/
def fill (t : Array Value) (ds : List (Nat × Nat)) (v : Nat → Value) : Array Value :=
  t.mapIdx fun k x => match ds.find? (fun d => d.2 == k) with | some d => v d.1 | none => x
/-- operations and slots go together one by one -/
def pairB (ds : List (Nat × Nat)) : Bool := ds.all fun d => ds.all fun d' => (d.1 == d'.1) == (d.2 == d'.2)
theorem pairB_spec {ds : List (Nat × Nat)} (h : pairB ds = true) {d d' : Nat × Nat} (hd : d ∈ ds) (hd' : d' ∈ ds) : d.1 = d'.1 ↔ d.2 = d'.2 := by
  have h1 := List.all_eq_true.1 (List.all_eq_true.1 h d hd) d' hd'
  rw [beq_iff_eq] at h1
  constructor
  · intro e
    have : (d.1 == d'.1) = true := by simp [e]
    rw [this] at h1
    exact beq_iff_eq.1 h1.symm
  · intro e
    have : (d.2 == d'.2) = true := by simp [e]
    rw [this] at h1
    exact beq_iff_eq.1 h1
theorem fill_size (t : Array Value) (ds : List (Nat × Nat)) (v : Nat → Value) : (fill t ds v).size = t.size := by simp [fill]
theorem fill_at (t : Array Value) (ds : List (Nat × Nat)) (v : Nat → Value) (k : Nat) :
    (fill t ds v)[k]? = (t[k]?).map fun x => match ds.find? (fun d => d.2 == k) with | some d => v d.1 | none => x := by
  simp [fill]
theorem fill_put (t : Array Value) {ds : List (Nat × Nat)} (hp : pairB ds = true) (v : Nat → Value) {i s : Nat} (hm : (i, s) ∈ ds) (x : Value) :
    (fill t ds v).setIfInBounds s x = fill t ds (upd v i x) := by
  apply Array.ext_getElem?
  intro k
  rw [Array.getElem?_setIfInBounds, fill_at, fill_at, fill_size]
  by_cases hk : s = k
  · subst hk
    rw [if_pos rfl]
    have hf : ∃ d, ds.find? (fun d => d.2 == s) = some d := by
      cases h : ds.find? (fun d => d.2 == s) with
      | some d => exact ⟨d, rfl⟩
      | none => exact absurd (List.find?_eq_none.1 h (i, s) hm) (by simp)
    obtain ⟨d, hd⟩ := hf
    have h2 : d.2 = s := by have := List.find?_some hd; simpa using this
    have h1 : d.1 = i := (pairB_spec hp (List.mem_of_find?_eq_some hd) hm).2 h2
    rw [hd]
    by_cases hlt : s < t.size
    · rw [if_pos hlt, Array.getElem?_eq_getElem hlt]
      simp [h1, upd]
    · rw [if_neg hlt, Array.getElem?_eq_none (by omega)]; rfl
  · rw [if_neg hk]
    cases h : ds.find? (fun d => d.2 == k) with
    | none => rfl
    | some d =>
      have h2 : d.2 = k := by have := List.find?_some h; simpa using this
      have h1 : d.1 ≠ i := fun e => hk (by rw [← h2]; exact ((pairB_spec hp (List.mem_of_find?_eq_some h) hm).1 e).symm)
      cases t[k]? with
      | none => rfl
      | some y => simp [upd, h1]
theorem fill_start (t : Array Value) (ds : List (Nat × Nat)) (hp : pairB ds = true) : fill t ds (fun i => match ds.find? (fun d => d.1 == i) with | some d => t.getD d.2 undef | none => undef) = t := by
  apply Array.ext_getElem?
  intro k
  rw [fill_at]
  cases ht : t[k]? with
  | none => rfl
  | some y =>
    cases h : ds.find? (fun d => d.2 == k) with
    | none => rfl
    | some d =>
      have h2 : d.2 = k := by have := List.find?_some h; simpa using this
      have hm := List.mem_of_find?_eq_some h
      have hf : ∃ d', ds.find? (fun d' => d'.1 == d.1) = some d' := by
        cases h3 : ds.find? (fun d' => d'.1 == d.1) with
        | some d' => exact ⟨d', rfl⟩
        | none => exact absurd (List.find?_eq_none.1 h3 d hm) (by simp)
      obtain ⟨d', hd'⟩ := hf
      have h1 : d'.1 = d.1 := by have := List.find?_some hd'; simpa using this
      have h4 : d'.2 = d.2 := (pairB_spec hp (List.mem_of_find?_eq_some hd') hm).1 h1
      simp only [Option.map_some, hd', h4, h2]
      rw [Array.getD_eq_getD_getElem?, ht]; rfl

/-- the same frame, slot by slot -/
def sets (t : Array Value) : List (Nat × Nat) → (Nat → Value) → Array Value
  | [], _ => t
  | d :: ds, v => (sets t ds v).setIfInBounds d.2 (v d.1)
theorem sets_size (t : Array Value) (ds : List (Nat × Nat)) (v : Nat → Value) : (sets t ds v).size = t.size := by
  induction ds with
  | nil => rfl
  | cons d ds ih => simp [sets, ih]
theorem fill_eq_sets (t : Array Value) (ds : List (Nat × Nat)) (v : Nat → Value) : fill t ds v = sets t ds v := by
  apply Array.ext_getElem?
  intro k
  rw [fill_at]
  induction ds with
  | nil => simp [sets]
  | cons d ds ih =>
    rw [sets, Array.getElem?_setIfInBounds, sets_size, List.find?_cons]
    by_cases hk : d.2 = k
    · rw [if_pos hk]
      have : (d.2 == k) = true := by simpa using hk
      rw [this]
      by_cases hlt : d.2 < t.size
      · rw [if_pos hlt, ← hk, Array.getElem?_eq_getElem hlt]; rfl
      · rw [if_neg hlt, ← hk, Array.getElem?_eq_none (by omega)]; rfl
    · rw [if_neg hk]
      have : (d.2 == k) = false := by simpa using hk
      rw [this]
      exact ih

/-- what an operation hands back -/
inductive Ft where
  | is (c : Value)
  | new (t : TypeId) (cs : Array Value)
  | lit (n : Nat) (t : TypeId) (cs : Array Value)
  | mat (a : SV) (rows : List (List SV))
  | amat (a : AV) (rows : List (List AV))
  | lit2 (t : TypeId) (a b : AV) (r q : List (List AV))
def Ft.holds : Ft → Value → World → Nat → Nat → Prop
  | .is c, v, _, _, _ => v = c
  | .new t cs, v, w, lo, hi => ∃ g, v = .pointer (some ⟨g, 0, none⟩) ∧ Bk w g t cs ∧ lo ≤ g ∧ g < hi
  | .lit n t cs, v, w, lo, hi => ∃ g, v = .slice (some ⟨g, 0, none⟩) n n ∧ Bk w g t cs ∧ lo ≤ g ∧ g < hi
  | .mat a rows, v, w, lo, hi => ∃ s, v = smV a s ∧ RwP w (fun b => lo ≤ b ∧ b < hi) 5 svCells s rows
  | .amat a rows, v, w, lo, hi => ∃ s, v = amV a s ∧ RwP w (fun b => lo ≤ b ∧ b < hi) 4 avCells s rows
  | .lit2 t a b r q, v, w, lo, hi => ∃ g s s', v = .slice (some ⟨g, 0, none⟩) 2 2 ∧ Bk w g t #[.int .i64 a.1, .float .f64 a.2.1, .string a.2.2, s, .int .i64 b.1, .float .f64 b.2.1, .string b.2.2, s'] ∧ lo ≤ g ∧ g < hi ∧
      RwP w (fun b => b < hi) 4 avCells s r ∧ RwP w (fun b => b < hi) 4 avCells s' q
theorem Ft.mono {f : Ft} {v : Value} {w w' : World} {lo hi : Nat} (h : f.holds v w lo hi) (hh : hi ≤ w.heap.size) (hb : Below w.heap.size w w') : f.holds v w' lo hi := by
  cases f with
  | is c => exact h
  | new t cs => obtain ⟨g, hv, hB, h1, h2⟩ := h; exact ⟨g, hv, hB.below hb (by omega), h1, h2⟩
  | lit n t cs => obtain ⟨g, hv, hB, h1, h2⟩ := h; exact ⟨g, hv, hB.below hb (by omega), h1, h2⟩
  | mat a rows => obtain ⟨s, hv, hr⟩ := h; exact ⟨s, hv, hr.keep fun b hb' => ⟨hb.block b (by omega), hb'⟩⟩
  | amat a rows => obtain ⟨s, hv, hr⟩ := h; exact ⟨s, hv, hr.keep fun b hb' => ⟨hb.block b (by omega), hb'⟩⟩
  | lit2 t a b r q => obtain ⟨g, s, s', hv, hB, h1, h2, hr, hq⟩ := h; exact ⟨g, s, s', hv, hB.below hb (by omega), h1, h2, hr.keep fun b hb' => ⟨hb.block b (by omega), hb'⟩, hq.keep fun b hb' => ⟨hb.block b (by omega), hb'⟩⟩

section
variable {P : Program} {ops : Array Oper} {Q : Exit → Act → World → Prop}
/-- one operation's duty, the frame filled -/
def Duty (P : Program) (ops : Array Oper) (Q : Exit → Act → World → Prop) (t : Array Value) (ds : List (Nat × Nat)) (fs : List Ft) (w0 : World) (o : Oper) (f : Ft) : Prop :=
  ∀ (v : Nat → Value) (w : World), Below w0.heap.size w0 w →
    (∀ (j : Nat) (g : Ft), fs[j]? = some g → (o.after.any fun e => Region.binds .any e && e.on == j) = true → ∃ lo hi, w0.heap.size ≤ lo ∧ lo ≤ hi ∧ hi ≤ w.heap.size ∧ g.holds (v j) w lo hi) →
    Region.wanted o (yielded ops (fill t ds v)) = true ∧ ∀ B : Act, B = ⟨fill t ds v, []⟩ → o.wp P B w (fun a' w' => ∃ x, a' = B.put o.dst x ∧ Below w.heap.size w w' ∧ f.holds x w' w.heap.size w'.heap.size) Q

/-- all duties, one behind the other -/
def Duties (P : Program) (ops : Array Oper) (Q : Exit → Act → World → Prop) (t : Array Value) (ds : List (Nat × Nat)) (fsAll : List Ft) (w0 : World) : List Oper → List Ft → Prop
  | _, [] => True
  | [], _ :: _ => False
  | o :: os, f :: fs => Duty P ops Q t ds fsAll w0 o f ∧ Duties P ops Q t ds fsAll w0 os fs
theorem Duties.at_ {t : Array Value} {ds : List (Nat × Nat)} {fsAll : List Ft} {w0 : World} : ∀ {os : List Oper} {fs : List Ft}, Duties P ops Q t ds fsAll w0 os fs → ∀ (i : Nat) (o : Oper) (f : Ft), os[i]? = some o → fs[i]? = some f → Duty P ops Q t ds fsAll w0 o f
  | _, [], _, i, o, f, _, hf => by simp at hf
  | [], _ :: _, h, _, _, _, _, _ => h.elim
  | _ :: _, _ :: _, h, 0, o, f, ho, hf => by simp at ho hf; subst ho; subst hf; exact h.1
  | _ :: _, _ :: _, h, i + 1, o, f, ho, hf => Duties.at_ h.2 i o f (by simpa using ho) (by simpa using hf)

/-- THE LAW, the frame filled: n operations in whatever order, then the tail l -/
theorem wp_region_duties {id : Nat} {os : List Oper} {t : Array Value} {w0 : World} (n : Nat) (ds : List (Nat × Nat)) (fs : List Ft) (hp : pairB ds = true) (hm : P.follows .mixedOrders = true) (hn : n < os.length)
    (hback : backB os.toArray = true) (hs : Region.sinkB .any os.toArray n = true) (hc : Region.chainB .any os.toArray n = true)
    (hseq : Region.seqB .any os.toArray (os.length - n) n (headList n os.length) = true) (hfs : fs.length = n)
    (hds : ((List.range n).all fun i => ((os[i]?).map fun o => match o.dst with | some d => decide ((i, d) ∈ ds) | none => false).getD false) = true)
    (hend : ∀ (v : Nat → Value) (w : World) (lo hi : Nat → Nat), Below w0.heap.size w0 w → (∀ (j : Nat) (f : Ft), fs[j]? = some f → f.holds (v j) w (lo j) (hi j)) → (∀ j, j < n → w0.heap.size ≤ lo j ∧ lo j ≤ hi j ∧ hi j ≤ w.heap.size) → (∀ j k, j < n → k < n → j ≠ k → hi j ≤ lo k ∨ hi k ≤ lo j) → wpList P os.toArray Q (os.drop n) ⟨fill t ds v, []⟩ w)
    (hstep : Duties P os.toArray Q t ds fs w0.drew os fs) :
    (Code.region id os.toArray true).wp P Q ⟨t, []⟩ w0 := by
  refine wp_region_calm (n := n) (fun v => ⟨fill t ds v, []⟩) _ (by rw [fill_start t ds hp]) (fun j v w lo hi => ∀ f : Ft, fs[j]? = some f → f.holds v w lo hi) (os.drop n) hm (by simpa using hn) hback hs hc ?_ ?_ ?_ ?_ ?_ ?_
  · intro j
    simp [List.getElem?_drop]
  · simp; omega
  · simpa using hseq
  · intro j v w w' lo hi h hh hb f hf
    exact Ft.mono (h f hf) hh hb
  · intro i o hin ho v w hb hpre
    have ho' : os[i]? = some o := by simpa using ho
    obtain ⟨f, hf⟩ : ∃ f, fs[i]? = some f := ⟨_, List.getElem?_eq_getElem (by omega)⟩
    have hdst : ∃ d, o.dst = some d ∧ (i, d) ∈ ds := by
      have := List.all_eq_true.1 hds i (List.mem_range.2 hin)
      rw [ho'] at this
      simp only [Option.map_some, Option.getD_some] at this
      cases hd : o.dst with
      | none => rw [hd] at this; cases this
      | some d => rw [hd] at this; exact ⟨d, rfl, by simpa using this⟩
    obtain ⟨d, hd, hmem⟩ := hdst
    have := hstep.at_ i o f ho' hf v w hb (fun j g hg hj => by
      obtain ⟨e, he, hb2⟩ := Array.any_eq_true'.1 hj
      simp only [Bool.and_eq_true, beq_iff_eq] at hb2
      obtain ⟨lo, hi, h1, h2, h3, h4⟩ := hpre e he hb2.1
      exact ⟨lo, hi, h1, h2, h3, by have := h4 g (by rw [hb2.2]; exact hg); rw [hb2.2] at this; exact this⟩)
    rw [if_pos this.1]
    refine Oper.wp_mono (fun a' w' ⟨x, ha, hb', hx⟩ => ⟨x, ?_, hb', fun f' hf' => ?_⟩) (this.2 _ rfl)
    · rw [ha, hd]
      show (⟨(fill t ds v).setIfInBounds d x, []⟩ : Act) = _
      rw [fill_put t hp v hmem x]
    · rw [hf] at hf'
      injection hf' with e
      rw [← e]; exact hx
  · intro v w lo hi hb hf hlow hap
    exact hend v w lo hi hb (fun j f hjf => hf j (by have := (List.getElem?_eq_some_iff.1 hjf).1; omega) f hjf) hlow hap

theorem got_in {B : Act} {t : Array Value} {ds : List (Nat × Nat)} {v : Nat → Value} (hB : B = ⟨fill t ds v, []⟩) {s i k : Nat} (h : ds.find? (fun d => d.2 == s) = some (i, k)) (hs : s < t.size) : B.tmps[s]?.getD undef = v i := by
  rw [hB]
  show (fill t ds v)[s]?.getD undef = v i
  rw [fill_at, Array.getElem?_eq_getElem hs, h]; rfl
theorem got_out {B : Act} {t : Array Value} {ds : List (Nat × Nat)} {v : Nat → Value} (hB : B = ⟨fill t ds v, []⟩) {s : Nat} (h : ds.find? (fun d => d.2 == s) = none) : B.tmps[s]?.getD undef = t[s]?.getD undef := by
  rw [hB]
  show (fill t ds v)[s]?.getD undef = _
  rw [fill_at, h]
  cases t[s]? <;> rfl
theorem wanted_if {o : Oper} {t : Array Value} {ds : List (Nat × Nat)} {v : Nat → Value} {j s i k : Nat} {b : Bool} (hg : o.guard = some (j, b)) (hd : (ops[j]?).bind (·.dst) = some s) (hf : ds.find? (fun d => d.2 == s) = some (i, k)) (hs : s < t.size) (hv : v i = .bool b) :
    Region.wanted o (yielded ops (fill t ds v)) = true := by
  unfold Region.wanted yielded
  rw [hg]
  simp only [hd, Option.bind_some, fill_at, Array.getElem?_eq_getElem hs, hf, Option.map_some, hv]
  simp
theorem Below.undrew {w w' : World} (h : Below w.drew.heap.size w.drew w') : Below w.heap.size w w' := ⟨h.os, h.tape, h.output, h.size, h.block⟩
end
end Go.Proofs.YtdanlcciefbboaaGreat
