import Derived.StillTail
import Derived.Below
namespace Go.Proofs.YtndabbepepbnmaaGreatDoor
open Go.RowKit

/-
A region that draws its order, whose operations lay memory but write to none that was there: whatever order is drawn, at the end each operation has handed back a value of its own kind, each with an interval of new blocks of its own; then the forced tail is walked.
-/
section
variable {P : Program} {ops : Array Oper} {Q : Exit → Act → World → Prop}

def upd (v : Nat → Value) (i : Nat) (x : Value) : Nat → Value := fun j => if j = i then x else v j
theorem upd_same (v : Nat → Value) (i : Nat) (x : Value) : upd v i x i = x := if_pos rfl
theorem upd_other (v : Nat → Value) {i j : Nat} (x : Value) (h : j ≠ i) : upd v i x j = v j := if_neg h
def updN (v : Nat → Nat) (i x : Nat) : Nat → Nat := fun j => if j = i then x else v j
theorem updN_same (v : Nat → Nat) (i x : Nat) : updN v i x i = x := if_pos rfl
theorem updN_other (v : Nat → Nat) {i j : Nat} (x : Nat) (h : j ≠ i) : updN v i x j = v j := if_neg h

/-- each operation waits for earlier ones alone -/
def backB (ops : Array Oper) : Bool := (List.range ops.size).all fun i => ((ops[i]?).map fun o => o.after.all fun e => decide (e.on < i)).getD true
theorem backB_spec (h : backB ops = true) {i : Nat} {o : Oper} (ho : ops[i]? = some o) : ∀ e ∈ o.after, e.on < i := by
  intro e he
  have h1 := List.all_eq_true.1 h i (List.mem_range.2 (Array.getElem?_eq_some_iff.1 ho).1)
  rw [ho] at h1
  simp only [Option.map_some, Option.getD_some] at h1
  have := Array.all_eq_true'.1 h1 e he
  simpa using this

/-- the first n listed, no other -/
def headList (n m : Nat) : Array Bool := (Array.replicate n true) ++ (Array.replicate (m - n) false)

/-- what is known of the operations that have been carried out -/
structure Calm (G : Nat → Value → World → Nat → Nat → Prop) (w0 : World) (n : Nat) (listed : Array Bool) (v : Nat → Value) (w : World) (lo hi : Nat → Nat) : Prop where
  below : Below w0.heap.size w0 w
  fact : ∀ j, j < n → listed.getD j false = true → G j (v j) w (lo j) (hi j)
  low : ∀ j, j < n → listed.getD j false = true → w0.heap.size ≤ lo j ∧ lo j ≤ hi j ∧ hi j ≤ w.heap.size
  apart : ∀ j k, j < n → k < n → j ≠ k → listed.getD j false = true → listed.getD k false = true → hi j ≤ lo k ∨ hi k ≤ lo j

/-- one operation's duty -/
def CalmStep (P : Program) (ops : Array Oper) (Q : Exit → Act → World → Prop) (A : (Nat → Value) → Act) (G : Nat → Value → World → Nat → Nat → Prop) (w0 : World) (i : Nat) (o : Oper) : Prop :=
  ∀ (v : Nat → Value) (w : World), Below w0.heap.size w0 w →
    (∀ e ∈ o.after, Region.binds .any e = true → ∃ lo hi, w0.heap.size ≤ lo ∧ lo ≤ hi ∧ hi ≤ w.heap.size ∧ G e.on (v e.on) w lo hi) →
    if Region.wanted o (yielded ops (A v).tmps) = true then o.wp P (A v) w (fun a' w' => ∃ x, a' = A (upd v i x) ∧ Below w.heap.size w w' ∧ G i x w' w.heap.size w'.heap.size) Q
    else (A v).put o.dst undef = A (upd v i undef) ∧ G i undef w w.heap.size w.heap.size

theorem headList_size (n m : Nat) (h : n ≤ m) : (headList n m).size = m := by simp [headList]; omega
theorem headList_at (n m i : Nat) : (headList n m)[i]? = if i < n then some true else if i < n + (m - n) then some false else none := by
  unfold headList
  rw [Array.getElem?_append]
  simp only [Array.size_replicate, Array.getElem?_replicate]
  by_cases h : i < n
  · simp only [if_pos h]
  · simp only [if_neg h]
    by_cases h2 : i < n + (m - n)
    · rw [if_pos h2, if_pos (by omega)]
    · rw [if_neg h2, if_neg (by omega)]

theorem calm_any {A : (Nat → Value) → Act} {G : Nat → Value → World → Nat → Nat → Prop} {w0 : World} {n : Nat} {l : List Oper} (hn : n < ops.size)
    (hback : backB ops = true) (hs : Region.sinkB .any ops n = true) (hc : Region.chainB .any ops n = true) (hl : ∀ j, l[j]? = ops[n + j]?) (hll : n + l.length = ops.size)
    (hseq : Region.seqB .any ops l.length n (headList n ops.size) = true)
    (hG : ∀ (j : Nat) (v : Value) (w w' : World) (lo hi : Nat), G j v w lo hi → hi ≤ w.heap.size → Below w.heap.size w w' → G j v w' lo hi)
    (hstep : ∀ i o, i < n → ops[i]? = some o → CalmStep P ops Q A G w0 i o)
    (hend : ∀ (v : Nat → Value) (w : World) (lo hi : Nat → Nat), Below w0.heap.size w0 w → (∀ j, j < n → G j (v j) w (lo j) (hi j)) → (∀ j, j < n → w0.heap.size ≤ lo j ∧ lo j ≤ hi j ∧ hi j ≤ w.heap.size) → (∀ j k, j < n → k < n → j ≠ k → hi j ≤ lo k ∨ hi k ≤ lo j) → wpList P ops Q l (A v) w) :
    ∀ (f : Nat) (rem : List Nat) (listed : Array Bool) (v : Nat → Value) (w : World) (lo hi : Nat → Nat), rem.length = f → rem.Nodup → (∀ i, i ∈ rem ↔ i < n ∧ listed.getD i false = false) →
      HeadInv .any ops n listed → Calm G w0 n listed v w lo hi → wpAny P .any ops Q (f + l.length) listed (A v) w := by
  intro f
  induction f with
  | zero =>
    intro rem listed v w lo hi hf _ hrem inv hcalm
    obtain rfl := List.eq_nil_of_length_eq_zero hf
    have hall : ∀ i, i < n → listed.getD i false = true := fun i hi => by
      cases h : listed.getD i false with
      | true => rfl
      | false => exact absurd ((hrem i).2 ⟨hi, h⟩) (by simp)
    have heq : listed = headList n ops.size := by
      apply Array.ext_getElem?
      intro i
      rw [headList_at]
      by_cases hi : i < n
      · rw [if_pos hi]
        have h1 := hall i hi
        have h2 : i < listed.size := by rw [inv.size]; omega
        rw [Array.getElem?_eq_getElem h2]
        simp [h2] at h1
        rw [h1]
      · rw [if_neg hi]
        by_cases h2 : i < ops.size
        · rw [if_pos (by omega)]
          have h1 := inv.tail i (by omega) h2
          have h3 : i < listed.size := by rw [inv.size]; exact h2
          rw [Array.getElem?_eq_getElem h3]
          simp [h3] at h1
          rw [h1]
        · rw [if_neg (by omega), Array.getElem?_eq_none (by rw [inv.size]; omega)]
    rw [Nat.zero_add]
    refine wpAny_of_seq l n listed (A v) w hl (by rw [heq]; exact hseq) ?_
    exact hend v w lo hi hcalm.below (fun j hj => hcalm.fact j hj (hall j hj)) (fun j hj => hcalm.low j hj (hall j hj)) (fun j k hj hk hne => hcalm.apart j k hj hk hne (hall j hj) (hall k hk))
  | succ f ih =>
    intro rem listed v w lo hi hf hnd hrem inv hcalm
    have hex : ∃ i, i < n ∧ listed.getD i false = false := by
      cases rem with
      | nil => simp at hf
      | cons i r => exact ⟨i, (hrem i).1 (by simp)⟩
    have hsz := inv.size
    rw [show f + 1 + l.length = (f + l.length) + 1 by omega]
    refine ⟨fun h0 => ?_, fun i hi' => ?_⟩
    · exfalso
      have key : ∀ d i, i ≤ d → i < n → listed.getD i false = false → False := by
        intro d
        induction d using Nat.strongRecOn with
        | _ d ihd =>
          intro i hid hin hun
          by_cases hr : i ∈ Region.ready .any ops listed
          · rw [h0] at hr; cases hr
          · obtain ⟨o, ho⟩ : ∃ o, ops[i]? = some o := ⟨_, Array.getElem?_eq_getElem (by omega)⟩
            have hex2 : ∃ e, e ∈ o.after ∧ Region.binds .any e = true ∧ listed.getD e.on false = false := by
              rcases Classical.em (∃ e, e ∈ o.after ∧ Region.binds .any e = true ∧ listed.getD e.on false = false) with h | h
              · exact h
              · exfalso
                refine hr (mem_ready.2 ⟨getD_in (by omega) hun, o, ho, fun e he hb => ?_⟩)
                cases h2 : listed.getD e.on false with
                | true => rfl
                | false => exact absurd ⟨e, he, hb, h2⟩ h
            obtain ⟨e, he, hb, h2⟩ := hex2
            have hlt := backB_spec hback ho e he
            exact ihd (d - 1) (by omega) e.on (by omega) (by omega) h2
      obtain ⟨i, hin, hun⟩ := hex
      exact key i i (Nat.le_refl _) hin hun
    · obtain ⟨j, hjn, hjun⟩ := hex
      have hin : i < n := by
        rcases Nat.lt_or_ge i n with h | h
        · exact h
        · exact absurd hi' (tail_waits hs hc hn inv _ j rfl hjn (getD_in (by omega) hjun) i h)
      obtain ⟨hun, o, ho, hall⟩ := mem_ready.1 hi'
      have hunf := getD_both hun
      have hpre : ∀ e ∈ o.after, Region.binds .any e = true → ∃ lo hi, w0.heap.size ≤ lo ∧ lo ≤ hi ∧ hi ≤ w.heap.size ∧ G e.on (v e.on) w lo hi := fun e he hb => by
        have hlt := backB_spec hback ho e he
        have h1 := hall e he hb
        obtain ⟨h2, h3, h4⟩ := hcalm.low e.on (by omega) h1
        exact ⟨lo e.on, hi e.on, h2, h3, h4, hcalm.fact e.on (by omega) h1⟩
      have hst := hstep i o hin ho v w hcalm.below hpre
      have hmem : i ∈ rem := (hrem i).2 ⟨hin, hunf⟩
      have hset : ∀ k, (listed.setIfInBounds i true).getD k false = true → k ≠ i → listed.getD k false = true := fun k h hne => by
        rw [getD_set_ne false (Ne.symm hne)] at h; exact h
      have next : ∀ (x : Value) (w' : World), Below w.heap.size w w' → G i x w' w.heap.size w'.heap.size → wpAny P .any ops Q (f + l.length) (listed.setIfInBounds i true) (A (upd v i x)) w' := by
        intro x w' hb hg
        have hz := hb.size
        have hz0 := hcalm.below.size
        refine ih (rem.erase i) (listed.setIfInBounds i true) (upd v i x) w' (updN lo i w.heap.size) (updN hi i w'.heap.size) ?_ (hnd.erase i) ?_ (inv.set hi' hin) ?_
        · rw [List.length_erase_of_mem hmem, hf]; rfl
        · intro k
          rw [hnd.mem_erase_iff]
          constructor
          · rintro ⟨hne, hk⟩
            obtain ⟨h1, h2⟩ := (hrem k).1 hk
            exact ⟨h1, by rw [getD_set_ne false (Ne.symm hne)]; exact h2⟩
          · rintro ⟨h1, h2⟩
            have hne : k ≠ i := fun e => by
              subst e
              simp [show k < listed.size by omega] at h2
            exact ⟨hne, (hrem k).2 ⟨h1, by rw [getD_set_ne false (Ne.symm hne)] at h2; exact h2⟩⟩
        · refine ⟨hcalm.below.trans (hb.mono hz0), fun j hj hlj => ?_, fun j hj hlj => ?_, fun j k hj hk hne hlj hlk => ?_⟩
          · by_cases hji : j = i
            · subst hji; rw [upd_same, updN_same, updN_same]; exact hg
            · rw [upd_other _ _ hji, updN_other _ _ hji, updN_other _ _ hji]
              exact hG j _ w w' _ _ (hcalm.fact j hj (hset j hlj hji)) (hcalm.low j hj (hset j hlj hji)).2.2 hb
          · by_cases hji : j = i
            · subst hji; rw [updN_same, updN_same]; exact ⟨hz0, hz, Nat.le_refl _⟩
            · rw [updN_other _ _ hji, updN_other _ _ hji]
              have := hcalm.low j hj (hset j hlj hji)
              exact ⟨this.1, this.2.1, Nat.le_trans this.2.2 hz⟩
          · by_cases hji : j = i
            · subst hji
              have hkj : k ≠ j := Ne.symm hne
              rw [updN_same, updN_same, updN_other _ _ hkj, updN_other _ _ hkj]
              exact .inr (hcalm.low k hk (hset k hlk hkj)).2.2
            · by_cases hki : k = i
              · subst hki
                rw [updN_same, updN_same, updN_other _ _ hji, updN_other _ _ hji]
                exact .inl (hcalm.low j hj (hset j hlj hji)).2.2
              · rw [updN_other _ _ hji, updN_other _ _ hji, updN_other _ _ hki, updN_other _ _ hki]
                exact hcalm.apart j k hj hk hne (hset j hlj hji) (hset k hlk hki)
      unfold wpOp
      simp only [ho]
      by_cases hw : Region.wanted o (yielded ops (A v).tmps) = true
      · rw [if_pos hw] at hst ⊢
        exact .inl (Oper.wp_mono (fun a' w' ⟨x, ha, hb, hg⟩ => by rw [ha]; exact next x w' hb hg) hst)
      · rw [if_neg hw] at hst ⊢
        rw [hst.1]
        exact next undef w (Below.refl _ _) hst.2

theorem nodup_range (n : Nat) : (List.range n).Nodup := List.nodup_range

/-- THE LAW -/
theorem wp_region_calm {id n : Nat} {a0 : Act} {w0 : World} (A : (Nat → Value) → Act) (v0 : Nat → Value) (hA : A v0 = a0) (G : Nat → Value → World → Nat → Nat → Prop) (l : List Oper) (hm : P.follows .mixedOrders = true) (hn : n < ops.size)
    (hback : backB ops = true) (hs : Region.sinkB .any ops n = true) (hc : Region.chainB .any ops n = true) (hl : ∀ j, l[j]? = ops[n + j]?) (hll : n + l.length = ops.size)
    (hseq : Region.seqB .any ops l.length n (headList n ops.size) = true)
    (hG : ∀ (j : Nat) (v : Value) (w w' : World) (lo hi : Nat), G j v w lo hi → hi ≤ w.heap.size → Below w.heap.size w w' → G j v w' lo hi)
    (hstep : ∀ i o, i < n → ops[i]? = some o → CalmStep P ops Q A G w0.drew i o)
    (hend : ∀ (v : Nat → Value) (w : World) (lo hi : Nat → Nat), Below w0.heap.size w0 w → (∀ j, j < n → G j (v j) w (lo j) (hi j)) → (∀ j, j < n → w0.heap.size ≤ lo j ∧ lo j ≤ hi j ∧ hi j ≤ w.heap.size) → (∀ j k, j < n → k < n → j ≠ k → hi j ≤ lo k ∨ hi k ≤ lo j) → wpList P ops Q l (A v) w) :
    (Code.region id ops true).wp P Q a0 w0 := by
  subst hA
  refine wp_region_any hm ?_
  have h := calm_any (P := P) (Q := Q) (A := A) (G := G) (w0 := w0.drew) hn hback hs hc hl hll hseq hG hstep (fun v w lo hi hb => hend v w lo hi ⟨hb.os, hb.tape, hb.output, hb.size, hb.block⟩) n (List.range n) (Array.replicate ops.size false) v0 w0.drew (fun _ => 0) (fun _ => 0)
    (by simp) (nodup_range n) (fun i => by rw [List.mem_range]; exact ⟨fun h => ⟨h, getD_replicate_false _ _⟩, fun h => h.1⟩)
    ⟨by simp, fun j oj _ hlj => (by rw [getD_replicate_false] at hlj; cases hlj), fun t _ ht => by simp [ht]⟩
    ⟨Below.refl _ _, fun j _ hlj => (by rw [getD_replicate_false] at hlj; cases hlj), fun j _ hlj => (by rw [getD_replicate_false] at hlj; cases hlj), fun j k _ _ _ hlj => (by rw [getD_replicate_false] at hlj; cases hlj)⟩
  rw [hll] at h
  exact h
end
end Go.Proofs.YtndabbepepbnmaaGreatDoor
