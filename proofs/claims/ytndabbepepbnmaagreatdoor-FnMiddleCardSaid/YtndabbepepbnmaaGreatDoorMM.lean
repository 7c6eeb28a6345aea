import Derived.Test.YtndabbepepbnmaaGreatDoorFaM
import Derived.Test.YtndabbepepbnmaaGreatDoorTwo
namespace Go.Proofs.YtndabbepepbnmaaGreatDoor
open Go.RowKit
attribute [local go_sem] run_store_float

/-- a table by its cells -/
def grid {α : Type} (R C : Nat) (f : Nat → Nat → α) : List (List α) := (List.range R).map fun i => (List.range C).map (f i)
theorem grid_len {α : Type} (R C : Nat) (f : Nat → Nat → α) : (grid R C f).length = R := by simp [grid]
theorem grid_at {α : Type} (R C : Nat) (f : Nat → Nat → α) {i : Nat} (hi : i < R) : (grid R C f)[i]? = some ((List.range C).map (f i)) := by
  rw [grid, List.getElem?_map, List.getElem?_range hi]; rfl
theorem grid_mem {α : Type} {R C : Nat} {f : Nat → Nat → α} {r : List α} (h : r ∈ grid R C f) : ∃ i, i < R ∧ r = (List.range C).map (f i) := by
  obtain ⟨i, hi, rfl⟩ := List.mem_map.1 h
  exact ⟨i, List.mem_range.1 hi, rfl⟩
theorem range_at {α : Type} (C : Nat) (f : Nat → α) {k : Nat} (hk : k < C) : ((List.range C).map f)[k]? = some (f k) := by
  rw [List.getElem?_map, List.getElem?_range hk]; rfl

/-- floats in rows, cell by cell -/
def Gr (w : World) (v : Value) (R C : Nat) (f : Nat → Nat → Nat) : Prop :=
  ∃ b o c, v = .slice (some ⟨b, o, none⟩) R c ∧ b < w.heap.size ∧ ∀ i, i < R → ∃ b' o' c', w.cell? ⟨b, o + i, none⟩ = some (.slice (some ⟨b', o', none⟩) C c') ∧ b' < w.heap.size ∧ ∀ k, k < C → w.cell? ⟨b', o' + k, none⟩ = some (.float .f64 (f i k))
theorem Gr.of_rows {w : World} {v : Value} {R C : Nat} {f : Nat → Nat → Nat} (h : Rws w w.heap.size 1 flF v (grid R C f)) (hR : 0 < R) (hC : 0 < C) : Gr w v R C f := by
  obtain ⟨h0, hs, hl, ⟨A, c, rfl, hlc, hc⟩, h2⟩ := h
  obtain ⟨b, o, rfl, hb, hcell⟩ := hc (by rw [grid_len]; exact hR)
  rw [grid_len] at hl hlc
  refine ⟨b, o, c, by rw [grid_len], hb, fun i hi => ?_⟩
  obtain ⟨hh, hhk⟩ : ∃ hh, hs[i]? = some hh := ⟨_, List.getElem?_eq_getElem (by omega)⟩
  obtain ⟨A1, c1, rfl, _, hrc⟩ := h2 i hh _ hhk (grid_at R C f hi)
  obtain ⟨b', o', rfl, hb', hcell'⟩ := hrc (by simpa using hC)
  refine ⟨b', o', c1, ?_, hb', fun k hk => hcell' k _ ?_⟩
  · rw [hcell i _ hhk]; simp
  · have := flat_at flF 1 flF_len _ k (f i k) 0 (range_at C (f i) hk) (by omega)
    simp at this
    rw [this]; rfl
theorem Gr.keep {w w' : World} {v : Value} {R C : Nat} {f : Nat → Nat → Nat} (h : Gr w v R C f) (hb : Below w.heap.size w w') : Gr w' v R C f := by
  obtain ⟨b, o, c, hv, hlt, h⟩ := h
  have hz := hb.size
  refine ⟨b, o, c, hv, by omega, fun i hi => ?_⟩
  obtain ⟨b', o', c', h1, h2, h3⟩ := h i hi
  exact ⟨b', o', c', (hb.cell (p := ⟨b, o + i, none⟩) hlt).trans h1, by omega, fun k hk => (hb.cell (p := ⟨b', o' + k, none⟩) h2).trans (h3 k hk)⟩

theorem own_form {w : World} {base sz n : Nat} {e : TypeId} {v : Value} {xs : List Value} (h : w.ownsRow base e sz v n xs) (hn : 0 < n) : ∃ g cap, v = .slice (some ⟨g, 0, none⟩) n cap ∧ base ≤ g ∧ g < w.heap.size := by
  rcases h.2 with ⟨_, rfl⟩ | ⟨g, cap, cur, rfl, hb, hh, _⟩
  · omega
  · exact ⟨g, cap, rfl, hb, (Array.getElem?_eq_some_iff.1 hh).1⟩
/-- rows of the call's own, all older than the one row that is written -/
theorem OR.farB {α : Type} {V w w' : World} {base sz : Nat} {o : Option Nat} {e : TypeId} {f : α → List Value} {hs : List Value} {rows : List (List α)} (H0 : OR V base e sz f hs rows) (H : OR w base e sz f hs rows) (hg : w.grownBy w' o) (hV : ∀ g, o = some g → V.heap.size ≤ g) : OR w' base e sz f hs rows :=
  ⟨H.1, fun i h r hi hr => by
    refine (H.2 i h r hi hr).kept hg ?_
    rcases o with _ | g
    · cases hb : h.ownBlock with
      | none => exact .inl rfl
      | some k => exact .inr (by simp)
    · exact .inr fun e => by have := ((H0.2 i h r hi hr).lt g e).2; have := hV g rfl; omega⟩
theorem own_neq2 {w : World} {b1 b2 s1 s2 n1 n2 g1 g2 c1 c2 : Nat} {e1 e2 : TypeId} {x1 x2 : List Value} (h1 : w.ownsRow b1 e1 s1 (.slice (some ⟨g1, 0, none⟩) n1 c1) n1 x1) (h2 : w.ownsRow b2 e2 s2 (.slice (some ⟨g2, 0, none⟩) n2 c2) n2 x2) (hne : e1 ≠ e2) : g1 ≠ g2 := by
  rcases own_ne h1 h2 hne with h | h
  · simp [Value.ownBlock] at h
  · intro e; exact h (by rw [e]; rfl)

set_option maxRecDepth 100000 in
set_option maxHeartbeats 4000000 in
theorem MMULT_walk (R K C : Nat) (a b : Nat → Nat → Nat) (S : Nat → Nat → Nat → Nat) (hR : 0 < R ∧ R ≤ 6) (hK : 0 < K ∧ K ≤ 6) (hC : 0 < C ∧ C ≤ 6) (hS0 : ∀ i j, S i j 0 = 0)
    (hS : ∀ i j k, i < R → j < C → k < K → ∃ p, floatBits .mul .f64 (a i k) (b k j) = some p ∧ floatBits .add .f64 (S i j k) p = some (S i j (k + 1)))
    (hfin : ∀ i j, i < R → j < C → fin (S i j K) ∧ nz (S i j K) = S i j K)
    (g L : Nat) (el : List Nat) (p1 q1 p2 q2 : Nat) (m1 m2 : Value) (w : World) (hL : IsL w L el [.iface 78 (faM m1 (ptr p1) (ptr q1)), .iface 78 (faM m2 (ptr p2) (ptr q2))])
    (h1 : Rws w w.heap.size 10 flA m1 (grid R K a)) (h2 : Rws w w.heap.size 10 flA m2 (grid K C b)) :
    Calls Tryz.prog 111 #[ptr g, ptr L] w fun e w' => ∃ v, e = .returned (faM v (.pointer none) (.pointer none)) ∧ Rwn w w' 10 flA v (grid R C fun i j => S i j K) ∧ Below w.heap.size w w' := by
  obtain ⟨i0, hi, hz0, hz1, hz2⟩ := info_parts infos_f64
  obtain ⟨i1, hj, hy0, hy1, hy2⟩ := info_parts infos_f64s
  have HL := hid hL
  have H1 := hid h1
  have H2 := hid h2
  have HS := hid hS
  have HS0 := hid hS0
  have HF := hid hfin
  clear hL h1 h2 hS hS0 hfin
  go_enter Tryz.func111, Tryz.ntmps111
  go_wp2_with fail
  have k1 : Below w.heap.size w (w.alloc (.cells #[.string ⟨#[]⟩, .float .f64 0, .string ⟨#[]⟩, .slice none 0 0, .slice none 0 0, .bool false, .string ⟨#[]⟩, .int .u8 0, .pointer none, .pointer none] 78)) := (Below.refl _ _).alloc (Nat.le_refl _) _
  have HL1 := hid (HL.out.keep k1)
  have b0 := Bk.new w 78 #[.string ⟨#[]⟩, .float .f64 0, .string ⟨#[]⟩, .slice none 0 0, .slice none 0 0, .bool false, .string ⟨#[]⟩, .int .u8 0, .pointer none, .pointer none]
  have hz : (w.alloc (.cells #[.string ⟨#[]⟩, .float .f64 0, .string ⟨#[]⟩, .slice none 0 0, .slice none 0 0, .bool false, .string ⟨#[]⟩, .int .u8 0, .pointer none, .pointer none] 78)).heap.size = w.heap.size + 1 := by simp
  generalize w.alloc (.cells #[.string ⟨#[]⟩, .float .f64 0, .string ⟨#[]⟩, .slice none 0 0, .slice none 0 0, .bool false, .string ⟨#[]⟩, .int .u8 0, .pointer none, .pointer none] 78) = W at *
  obtain ⟨f1, e1, l1, c1⟩ := HL1.out.at_ (i := 0) rfl
  obtain ⟨f2, e2, l2, c2⟩ := HL1.out.at_ (i := 1) rfl
  refine (len_any HL1.out).mono ?_
  rintro e w1 ⟨rfl, rfl⟩
  go_wp2_with fail
  refine (front_any HL1.out e1).mono ?_
  rintro e w1 ⟨rfl, rfl⟩
  unfold faM at c1 c2
  obtain ⟨A1, d1, rfl⟩ := H1.out.form
  obtain ⟨A2, d2, rfl⟩ := H2.out.form
  rw [grid_len] at H1 H2 c1 c2
  have hta := fun (u : Value) wx => run_typeAssert_struct (P := Tryz.prog) 78 20 u wx Tryz.underlying78
  go_wp2_with fail
  have k2 : Below W.heap.size W (W.alloc (.cells #[.string es, .float .f64 0, .string es, .slice none 0 0, .slice A1 R d1, .bool false, .string es, .int .u8 4, ptr p1, ptr q1] 78)) := (Below.refl _ _).alloc (Nat.le_refl _) _
  refine (back_any (HL1.out.keep k2) e2 (by simp)).mono ?_
  rintro e w1 ⟨rfl, rfl⟩
  have l2' : f2 < w.heap.size + 1 := by omega
  have hx1 : w.heap.size < W.heap.size + 1 := by omega
  go_wp2_with fail
  have bA2 : Bk ((W.alloc (.cells #[.string es, .float .f64 0, .string es, .slice none 0 0, .slice A1 R d1, .bool false, .string es, .int .u8 4, ptr p1, ptr q1] 78)).alloc (.cells #[.string es, .float .f64 0, .string es, .slice none 0 0, .slice A2 K d2, .bool false, .string es, .int .u8 4, .pointer (some ⟨p2, 0, none⟩), .pointer (some ⟨q2, 0, none⟩)] 78)) (w.heap.size + 1 + 1) 78 #[.string es, .float .f64 0, .string es, .slice none 0 0, .slice A2 K d2, .bool false, .string es, .int .u8 4, ptr p2, ptr q2] := Bk.new_at (by simp [hz])
  have bR : Bk ((W.alloc (.cells #[.string es, .float .f64 0, .string es, .slice none 0 0, .slice A1 R d1, .bool false, .string es, .int .u8 4, ptr p1, ptr q1] 78)).alloc (.cells #[.string es, .float .f64 0, .string es, .slice none 0 0, .slice A2 K d2, .bool false, .string es, .int .u8 4, .pointer (some ⟨p2, 0, none⟩), .pointer (some ⟨q2, 0, none⟩)] 78)) w.heap.size 78 #[.string ⟨#[]⟩, .float .f64 0, .string ⟨#[]⟩, .slice none 0 0, .slice none 0 0, .bool false, .string ⟨#[]⟩, .int .u8 0, .pointer none, .pointer none] := (b0.alloc _).alloc _
  have hX : Below w.heap.size w ((W.alloc (.cells #[.string es, .float .f64 0, .string es, .slice none 0 0, .slice A1 R d1, .bool false, .string es, .int .u8 4, ptr p1, ptr q1] 78)).alloc (.cells #[.string es, .float .f64 0, .string es, .slice none 0 0, .slice A2 K d2, .bool false, .string es, .int .u8 4, .pointer (some ⟨p2, 0, none⟩), .pointer (some ⟨q2, 0, none⟩)] 78)) := (k1.alloc (by omega) _).alloc (by simp; omega) _
  have hzX : ((W.alloc (.cells #[.string es, .float .f64 0, .string es, .slice none 0 0, .slice A1 R d1, .bool false, .string es, .int .u8 4, ptr p1, ptr q1] 78)).alloc (.cells #[.string es, .float .f64 0, .string es, .slice none 0 0, .slice A2 K d2, .bool false, .string es, .int .u8 4, .pointer (some ⟨p2, 0, none⟩), .pointer (some ⟨q2, 0, none⟩)] 78)).heap.size = w.heap.size + 1 + 1 + 1 := by simp [hz]
  generalize (W.alloc (.cells #[.string es, .float .f64 0, .string es, .slice none 0 0, .slice A1 R d1, .bool false, .string es, .int .u8 4, ptr p1, ptr q1] 78)).alloc (.cells #[.string es, .float .f64 0, .string es, .slice none 0 0, .slice A2 K d2, .bool false, .string es, .int .u8 4, .pointer (some ⟨p2, 0, none⟩), .pointer (some ⟨q2, 0, none⟩)] 78) = X at *
  have k3 := hX.size
  have H1X := hid (Rws.below H1.out hX k3)
  have H2X := hid (Rws.below H2.out hX k3)
  clear hta k1 k2 b0 HL1 e1 e2 l1 l2 l2' c1 c2 HL H1 H2 hx1
  refine (newNumberMatrix_any (grid R K a) (.slice A1 R d1) (ptr p1) (ptr q1) X H1X.out (fun r hr => by obtain ⟨i, _, rfl⟩ := grid_mem hr; simp; omega) (by rw [grid_len]; omega)).mono ?_
  rintro e w1 ⟨v1, rfl, hv1, hb1⟩
  have hz1 := hb1.size
  have bA2' := bA2.below hb1 bA2.lt
  have bR' := bR.below hb1 bR.lt
  have hX1 := hX.trans (hb1.mono k3)
  have hv1' := hid hv1.rws
  have H2Y := hid (Rws.below H2X.out hb1 hz1)
  obtain ⟨g0, g1, g2, g3, g4, g5, g6, g7, g8, g9, gf⟩ := bA2'.cells10
  have hzz : w.heap.size + 1 + 1 < w1.heap.size := bA2'.lt
  have hzz0 : w.heap.size < w1.heap.size := bR'.lt
  clear bA2 bR hb1 H2X H1X hv1 hX
  unfold fa0
  go_wp2_with fail
  have k4 : Below w1.heap.size w1 (w1.alloc (.cells #[.string ⟨#[]⟩, .float .f64 0, .string ⟨#[]⟩, .slice none 0 0, .slice none 0 0, .bool false, .string ⟨#[]⟩, .int .u8 0, .pointer none, .pointer none] 78)) := (Below.refl _ _).alloc (Nat.le_refl _) _
  have H2Z := hid (Rws.below H2Y.out k4 k4.size)
  have bR2 := bR'.below k4 bR'.lt
  have hX2 := hX1.trans (k4.mono (by omega))
  have hv2 := hid (Rws.below hv1'.out k4 k4.size)
  generalize w1.alloc (.cells #[.string ⟨#[]⟩, .float .f64 0, .string ⟨#[]⟩, .slice none 0 0, .slice none 0 0, .bool false, .string ⟨#[]⟩, .int .u8 0, .pointer none, .pointer none] 78) = w2 at *
  have hz2' := hX2.size
  clear k4 bA2' bR' hv1' H2Y hX1 g0 g1 g2 g3 g4 g5 g6 g7 g8 g9 gf hzz hzz0
  refine (newNumberMatrix_any (grid K C b) (.slice A2 K d2) (ptr p2) (ptr q2) w2 H2Z.out (fun r hr => by obtain ⟨i, _, rfl⟩ := grid_mem hr; simp; omega) (by rw [grid_len]; omega)).mono ?_
  rintro e w3 ⟨v2, rfl, hv3, hb3⟩
  have hz3 := hb3.size
  have bR3 := bR2.below hb3 bR2.lt
  have hX3 := hX2.trans (hb3.mono hz2')
  have hG1 := hid (Gr.of_rows (Rws.below hv2.out hb3 hz3) (by omega) (by omega))
  have hG2 := hid (Gr.of_rows hv3.rws (by omega) (by omega))
  clear bR2 hb3 H2Z hv2 hv3 hX2
  unfold fa0
  have k5 : Below w3.heap.size w3 (w3.alloc (.cells #[.string ⟨#[]⟩, .float .f64 0, .string ⟨#[]⟩, .slice none 0 0, .slice none 0 0, .bool false, .string ⟨#[]⟩, .int .u8 0, .pointer none, .pointer none] 78)) := (Below.refl _ _).alloc (Nat.le_refl _) _
  have hG1' := hid (Gr.keep hG1.out k5)
  have hG2' := hid (Gr.keep hG2.out k5)
  have bR4 := bR3.below k5 bR3.lt
  have hX4 := hX3.trans (k5.mono hX3.size)
  clear k5 hG1 hG2 bR3 hX3
  obtain ⟨B1, O1, D1, rfl, hB1, hr1⟩ := hG1'
  obtain ⟨B2, O2, D2, rfl, hB2, hr2⟩ := hG2'
  have y1 : ∃ b' o' c', (w3.alloc (.cells #[.string ⟨#[]⟩, .float .f64 0, .string ⟨#[]⟩, .slice none 0 0, .slice none 0 0, .bool false, .string ⟨#[]⟩, .int .u8 0, .pointer none, .pointer none] 78)).cell? ⟨B1, O1, none⟩ = some (.slice (some ⟨b', o', none⟩) K c') := by obtain ⟨b', o', c', h, _⟩ := hr1 0 hR.1; exact ⟨b', o', c', h⟩
  have y2 : ∃ b' o' c', (w3.alloc (.cells #[.string ⟨#[]⟩, .float .f64 0, .string ⟨#[]⟩, .slice none 0 0, .slice none 0 0, .bool false, .string ⟨#[]⟩, .int .u8 0, .pointer none, .pointer none] 78)).cell? ⟨B2, O2, none⟩ = some (.slice (some ⟨b', o', none⟩) C c') := by obtain ⟨b', o', c', h, _⟩ := hr2 0 hK.1; exact ⟨b', o', c', h⟩
  have HR1 := hid hr1
  have HR2 := hid hr2
  clear hr1 hr2
  have hRI : (0 : Int) < (R : Int) := by omega
  have hKI : (0 : Int) < (K : Int) := by omega
  have hzw3 : (w3.alloc (.cells #[.string ⟨#[]⟩, .float .f64 0, .string ⟨#[]⟩, .slice none 0 0, .slice none 0 0, .bool false, .string ⟨#[]⟩, .int .u8 0, .pointer none, .pointer none] 78)).heap.size = w3.heap.size + 1 := by simp
  have bN := Bk.new w3 78 #[.string ⟨#[]⟩, .float .f64 0, .string ⟨#[]⟩, .slice none 0 0, .slice none 0 0, .bool false, .string ⟨#[]⟩, .int .u8 0, .pointer none, .pointer none]
  go_wp2_with fail
  generalize w3.alloc (.cells #[.string ⟨#[]⟩, .float .f64 0, .string ⟨#[]⟩, .slice none 0 0, .slice none 0 0, .bool false, .string ⟨#[]⟩, .int .u8 0, .pointer none, .pointer none] 78) = Y at *
  obtain ⟨b1', o1', c1', y1⟩ := y1
  obtain ⟨b2', o2', c2', y2⟩ := y2
  obtain ⟨n0, n1, n2, n3, n4, n5, n6, n7, n8, n9, nf⟩ := bN.cells10
  have hY0 : Y.drew.heap.size = Y.heap.size := rfl
  go_quiet (fail)
  go_wp2_with fail
  have HRa : Hid (∀ i, i < R → ∃ b' o' c', (Y.drewN nq).cell? ⟨B1, O1 + i, none⟩ = some (.slice (some ⟨b', o', none⟩) K c') ∧ b' < (Y.drewN nq).heap.size ∧ ∀ k, k < K → (Y.drewN nq).cell? ⟨b', o' + k, none⟩ = some (.float .f64 (a i k))) := HR1
  have HRb : Hid (∀ i, i < K → ∃ b' o' c', (Y.drewN nq).cell? ⟨B2, O2 + i, none⟩ = some (.slice (some ⟨b', o', none⟩) C c') ∧ b' < (Y.drewN nq).heap.size ∧ ∀ k, k < C → (Y.drewN nq).cell? ⟨b', o' + k, none⟩ = some (.float .f64 (b i k))) := HR2
  have hB1' : B1 < (Y.drewN nq).heap.size := hB1
  have hB2' : B2 < (Y.drewN nq).heap.size := hB2
  have bR5 : Bk (Y.drewN nq) w.heap.size 78 _ := bR4
  have hX5 : Below w.heap.size w (Y.drewN nq) := Below.drewN hX4 nq
  generalize Y.drewN nq = Z at *
  clear HR1 HR2 y1 y2 bN n0 n1 n2 n3 n4 n5 n6 n7 n8 n9 nf hY0 hB1 hB2 bR4 hX4 hzw3 hz1 hz2' hz3 hzX hz k3
  have HPl : Hid ((grid R C fun i j => S i j K).length = R) := hid (grid_len R C _)
  have HPt : Hid (∀ i, i < R → (grid R C fun i j => S i j K).take (i + 1) = (grid R C fun i j => S i j K).take i ++ [(List.range C).map fun j => S i j K]) := hid (fun i hi => by rw [List.take_add_one, grid_at _ _ _ hi]; rfl)
  have HPm : Hid (∀ r ∈ (grid R C fun i j => S i j K), r.length ≤ 1000 ∧ ∀ x ∈ r, fin x ∧ nz x = x) := hid (fun r hr => by
    obtain ⟨i, hi, rfl⟩ := grid_mem hr
    refine ⟨by simp; omega, fun x hx => ?_⟩
    obtain ⟨j, hj, rfl⟩ := List.mem_map.1 hx
    exact HF.out i j hi (List.mem_range.1 hj))
  obtain ⟨P, hP⟩ : ∃ P, (grid R C fun i j => S i j K) = P := ⟨_, rfl⟩
  rw [hP] at HPl HPm
  simp only [hP] at HPt
  have HP := hid hP
  clear hP
  go_loopw [13, 17] (fun u i wr => ∃ (k : Nat) (us : List Value), k ≤ R ∧ i = .int .i64 k ∧ Hid (k = 0 → u = .slice none 0 0) ∧ wr.ownsRow Z.heap.size 112 1 u k us ∧ Hid (OR wr Z.heap.size 39 1 flF us (P.take k)) ∧ Below Z.heap.size Z wr) (fun _ i _ => R - (intOf i).toNat)
  case atStart => exact ⟨0, [], Nat.zero_le _, rfl, hid (fun _ => rfl), World.ownsRow_nil _ _ _ _, hid (OR.nil _ _ _ _ _), Below.refl _ _⟩
  case round =>
    obtain ⟨i, us, hi', rfl, hu0, hown, hOR, hb⟩ := hrel
    have hbz := hb.size
    obtain ⟨V, hV⟩ : ∃ V, V = wr := ⟨_, rfl⟩
    subst hV
    by_cases hlt : i < R
    · obtain ⟨b', o', c', hc1, hlt1, hcell⟩ := HRa.out i hlt
      have g0 : V.cell? ⟨B1, O1 + i, none⟩ = some (.slice (some ⟨b', o', none⟩) K c') := (hb.cell (p := ⟨B1, O1 + i, none⟩) hB1').trans hc1
      have HCell := hid hcell
      have hiI : (i : Int) < (R : Int) := by omega
      clear hcell hc1
      have HT := hid (HPt.out i hlt)
      obtain ⟨ro, hro⟩ : ∃ ro : List Nat, (List.range C).map (fun j => S i j K) = ro := ⟨_, rfl⟩
      have hrol : ro.length = C := by rw [← hro]; simp
      have HRo : Hid (∀ j, j < C → ro[j]? = some (S i j K)) := hid (fun j hj => by rw [← hro]; exact range_at C _ hj)
      rw [hro] at HT
      clear hro
      go_wp2_with (at_builtin; refine wpList_append_lies _ rfl _ _ 109 rfl Z.heap.size 112 i1 _ 1 24 Tryz.underlying109 hj hy0 hy1 hy2 rfl (by decide) _ _ _ rfl ((hown.alloc _).alloc _) ⟨V.heap.size + 1, 0, none⟩ 1 1 [.slice (some ⟨V.heap.size, 0, none⟩) 0 0] rfl rfl ?c1 ?c2 (by decide) ?c3 ?c4 ?c5 (V.heap.size + 1 + 1) ?c6 ?_)
      case c1 =>
        intro i u hi
        rw [add_mid, Nat.zero_add, (Bk.new_at (by simp)).cell]
        simpa using hi
      case c2 => intro u hu; simp at hu; subst hu; rfl
      case c3 => unfold maxLen; omega
      case c4 => omega
      case c5 => simp; omega
      case c6 => simp
      intro gg cap w4 hown4 hgrow hat hlt4
      have hz4 := hgrow.size
      simp at hz4
      have hOR4 := hid (((hOR.out.alloc _).alloc _).grown ((hown.alloc _).alloc _) (by decide) hgrow)
      have hb4 : Below Z.heap.size Z w4 := ((hb.alloc (by omega) _).alloc (by simp; omega) _).grown hgrow (by simp; omega) (fun g hg => (hown.lt g hg).1)
      have g4 : w4.cell? ⟨B1, O1 + i, none⟩ = some (.slice (some ⟨b', o', none⟩) K c') := (hb4.cell (p := ⟨B1, O1 + i, none⟩) hB1').trans ((hb.cell (p := ⟨B1, O1 + i, none⟩) hB1').symm.trans g0)
      have hlB : B1 < w4.heap.size := by omega
      have hrow0 := World.ownsRow_lit (base := V.heap.size) (e := 39) (size := 1) w4 #[] 0 (by omega) (by unfold maxLen; omega) rfl
      have hown5 := hown4.alloc (.cells #[] 39)
      have hOR5 := hid (hOR4.out.alloc (.cells #[] 39))
      have hb5 := hb4.alloc (by omega) (.cells #[] 39)
      have hlB5 : B1 < (w4.alloc (.cells #[] 39)).heap.size := by simp; omega
      have g5 : (w4.alloc (.cells #[] 39)).cell? ⟨B1, O1 + i, none⟩ = some (.slice (some ⟨b', o', none⟩) K c') := (hb5.cell (p := ⟨B1, O1 + i, none⟩) hB1').trans ((hb.cell (p := ⟨B1, O1 + i, none⟩) hB1').symm.trans g0)
      have hz5 : V.heap.size ≤ (w4.alloc (.cells #[] 39)).heap.size := by simp; omega
      clear hgrow hat hOR4 hb4 hown4 g0 hown
      go_wp2_with fail
      generalize w4.alloc (.cells #[] 39) = w5 at *
      go_loopw [15, 18] (fun u jv wr => ∃ (j : Nat) (hd : Value), j ≤ C ∧ jv = .int .i64 j ∧ wr.ownsRow V.heap.size 39 1 u j ((ro.take j).flatMap flF) ∧ wr.ownsRow Z.heap.size 112 1 (.slice (some ⟨gg, 0, none⟩) (i + 1) cap) (i + 1) (us ++ [hd]) ∧ Hid (0 < j → hd = u) ∧ Hid (OR wr Z.heap.size 39 1 flF us (P.take i)) ∧ Below Z.heap.size Z wr ∧ V.heap.size ≤ wr.heap.size) (fun _ i _ => C - (intOf i).toNat)
      case atStart => exact ⟨0, _, Nat.zero_le _, rfl, by simpa using hrow0, hown5, hid (fun h => absurd h (by omega)), hOR5, hb5, hz5⟩
      case round =>
        obtain ⟨j, hd, hjC, rfl, hrow, hownU, hhd, hORU, hbU, hzU⟩ := hrel
        clear hrow0 hown5 hOR5 hb5 hz5 g5 hlB5 g4 hlB hz4 hlt4
        have hbUz := hbU.size
        by_cases hltj : j < C
        · have hjI : (j : Int) < (C : Int) := by omega
          have hSj := hid (fun k hk => HS.out i j k hlt hltj hk)
          obtain ⟨A3, c3, hv3, _, _⟩ := Sl.of_own hrow
          subst hv3
          go_wp2_with fail
          obtain ⟨U, hU⟩ : ∃ U, U = wr := ⟨_, rfl⟩
          subst hU
          go_loopw [16, 19] (fun s kv wr => ∃ (k : Nat), k ≤ K ∧ kv = .int .i64 k ∧ s = .float .f64 (S i j k) ∧ Below U.heap.size U wr) (fun _ i _ => K - (intOf i).toNat)
          case atStart => exact ⟨0, Nat.zero_le _, rfl, by rw [HS0.out], Below.refl _ _⟩
          case round =>
            obtain ⟨k, hkK, rfl, rfl, hbk⟩ := hrel
            have hbkz := hbk.size
            have hZk : Below Z.heap.size Z wr := hbU.trans (hbk.mono hbUz)
            by_cases hltk : k < K
            · have hkI2 : (k : Int) < (K : Int) := by omega
              obtain ⟨p, hmul, hadd⟩ := hSj.out k hltk
              have hq1 := fun wx => run_float_arith (P := Tryz.prog) wx .mul 39 .f64 _ _ p hmul
              have hq2 := fun wx => run_float_arith (P := Tryz.prog) wx .add 39 .f64 _ p _ hadd
              obtain ⟨b3, o3, c3', hc3, hlt3, hcell3⟩ := HRb.out k hltk
              have x0 : wr.cell? ⟨b', o' + k, none⟩ = some (.float .f64 (a i k)) := (hZk.cell (p := ⟨b', o' + k, none⟩) hlt1).trans (HCell.out k hltk)
              have x1 : wr.cell? ⟨B2, O2 + k, none⟩ = some (.slice (some ⟨b3, o3, none⟩) C c3') := (hZk.cell (p := ⟨B2, O2 + k, none⟩) hB2').trans hc3
              have x2 : wr.cell? ⟨b3, o3 + j, none⟩ = some (.float .f64 (b k j)) := (hZk.cell (p := ⟨b3, o3 + j, none⟩) hlt3).trans (hcell3 j hltj)
              clear hmul hadd hcell3 hc3
              obtain ⟨T, hT⟩ : ∃ T, S i j (k + 1) = T := ⟨_, rfl⟩
              rw [hT] at hq2
              have hT' := hid hT
              clear hT
              go_wp2_with fail
              go_quiet (fail)
              go_wp2_with fail
              go_roundw
              case rel => exact ⟨k + 1, by omega, by go_num, by rw [hT'.out], Below.drewN hbk nq⟩
              case measure => simp [intOf]; omega
            · have hkl : k = K := by omega
              subst hkl
              have hSum := HRo.out j hltj
              obtain ⟨T, hT⟩ : ∃ T, S i j k = T := ⟨_, rfl⟩
              rw [hT] at hSum ⊢
              have hrowK := own_keep hrow hbk
              have hownK := own_keep hownU hbk
              have hORK := hid (hORU.out.keep hbk)
              have hzK : V.heap.size ≤ wr.heap.size := by omega
              have hSum' := hid hSum
              clear hrow hownU hORU hbU hbk hT hSum hbUz hbkz
              go_wp2_with fail
              go_loopw [15, 20] (fun u lv wr => ∃ (l : Nat), (l = j ∨ l = j + 1) ∧ lv = .int .i64 l ∧ wr.ownsRow V.heap.size 39 1 u l ((ro.take j).flatMap flF ++ List.replicate (l - j) (.float .f64 0)) ∧ wr.ownsRow Z.heap.size 112 1 (.slice (some ⟨gg, 0, none⟩) (i + 1) cap) (i + 1) (us ++ [hd]) ∧ Hid (OR wr Z.heap.size 39 1 flF us (P.take i)) ∧ Below Z.heap.size Z wr ∧ V.heap.size ≤ wr.heap.size) (fun _ i _ => j + 1 - (intOf i).toNat)
              case atStart => exact ⟨j, .inl rfl, rfl, by simpa using hrowK, hownK, hORK, hZk, hzK⟩
              case round =>
                obtain ⟨l, hlj, rfl, hrow, hownU, hORU, hbU, hzU⟩ := hrel
                clear hrowK hownK hORK hZk hzK
                have hbUz := hbU.size
                rcases hlj with rfl | rfl
                · go_wp2_with (at_builtin; refine wpList_append_lies _ rfl _ _ 112 rfl V.heap.size 39 i0 _ 1 8 Tryz.underlying112 hi hz0 hz1 hz2 rfl (by decide) _ _ _ rfl (hrow.alloc _) ⟨wr.heap.size, 0, none⟩ 1 1 [.float .f64 0] rfl rfl ?c1 ?c2 (by decide) ?c3 ?c4 ?c5 (wr.heap.size + 1) ?c6 ?_)
                  case c1 =>
                    intro i u hi
                    rw [add_mid, Nat.zero_add, (Bk.new _ _ _).cell]
                    simpa using hi
                  case c2 => intro u hu; simp at hu; subst hu; rfl
                  case c3 => unfold maxLen; omega
                  case c4 => omega
                  case c5 => simp; omega
                  case c6 => simp
                  intro gr cr w6 hrow6 hgrow hat hlt6
                  have hz6 := hgrow.size
                  simp at hz6
                  have hown6 := (hownU.alloc (.cells #[.float .f64 0] 39)).kept hgrow (own_ne (hownU.alloc (.cells #[.float .f64 0] 39)) (hrow.alloc _) (by decide))
                  have hOR6 := hid (OR.farB hOR.out (hORU.out.alloc (.cells #[.float .f64 0] 39)) hgrow (fun g hg => (hrow.lt g hg).1))
                  have hb6 : Below Z.heap.size Z w6 := (hbU.alloc hbUz _).grown hgrow (by simp; omega) (fun g hg => by have := (hrow.lt g hg).1; omega)
                  clear hgrow hat hrow hownU hORU hbU
                  go_wp2_with fail
                  go_roundw
                  case rel => exact ⟨l + 1, .inr rfl, by go_num, by simpa [show l + 1 - l = 1 by omega] using hrow6, hown6, hOR6, hb6, by omega⟩
                  case measure => simp [intOf]
                · obtain ⟨gr, cr, rfl, hgr1, hgr2⟩ := own_form hrow (by omega)
                  have hne : gg ≠ gr := own_neq2 hownU hrow (by decide)
                  have hne' := Ne.symm hne
                  have hlen1 : ((ro.take j).flatMap flF).length = j := by rw [flat_len flF 1 flF_len, List.length_take]; omega
                  have hlen2 : us.length = i := by have := hownU.1; simp at this; omega
                  have cj : wr.cell? ⟨gr, j, none⟩ = some (.float .f64 0) := (hrow.cellAt j (by omega)).trans (by
                    rw [List.getElem?_append_right (by omega), hlen1, show j + 1 - j = 1 by omega]; simp)
                  have fj := hrow.frozenAt j
                  have ci : wr.cell? ⟨gg, i, none⟩ = some hd := (hownU.cellAt i (by omega)).trans (by
                    rw [List.getElem?_append_right (by omega), hlen2]; simp)
                  have fi := hownU.frozenAt i
                  have hjI1 : (j : Int) < (j : Int) + 1 := by omega
                  have hiI1 : (i : Int) < (i : Int) + 1 := by omega
                  have s1 := hrow.stored j (.float .f64 T)
                  have s2 := (own_far hownU (g := gr) (by simp [Value.ownBlock]; exact hne) j (.float .f64 T)).stored i (.slice (some ⟨gr, 0, none⟩) (j + 1) cr)
                  have hrowN := hid (own_far s1.1 (g := gg) (by simp [Value.ownBlock]; exact hne') i (.slice (some ⟨gr, 0, none⟩) (j + 1) cr))
                  have hORN := hid (OR.grown (OR.farB hOR.out hORU.out s1.2 (fun g hg => by injection hg with hg; omega)) (own_far hownU (g := gr) (by simp [Value.ownBlock]; exact hne) j (.float .f64 T)) (by decide) s2.2)
                  have hgg := (hownU.lt gg rfl).1
                  have hbN := (hbU.setCell (p := ⟨gr, j, none⟩) (show Z.heap.size ≤ gr by omega) (.float .f64 T)).setCell (p := ⟨gg, i, none⟩) hgg (.slice (some ⟨gr, 0, none⟩) (j + 1) cr)
                  have hownN := hid s2.1
                  have hTk := flat_take flF ro j T hSum'.out
                  have e1 : ((ro.take j).flatMap flF ++ List.replicate (j + 1 - j) (Value.float .f64 0)).set j (.float .f64 T) = (ro.take (j + 1)).flatMap flF := by
                    rw [hTk, List.set_append_right _ _ (by omega), hlen1, show j + 1 - j = 1 by omega]
                    simp [flF]
                  have e2 : (us ++ [hd]).set i (.slice (some ⟨gr, 0, none⟩) (j + 1) cr) = us ++ [.slice (some ⟨gr, 0, none⟩) (j + 1) cr] := by
                    rw [List.set_append_right _ _ (by omega), hlen2]; simp
                  rw [e1] at hrowN
                  rw [e2] at hownN
                  have hzN : V.heap.size ≤ ((wr.setCell ⟨gr, j, none⟩ (.float .f64 T)).setCell ⟨gg, i, none⟩ (.slice (some ⟨gr, 0, none⟩) (j + 1) cr)).heap.size := by simpa [World.setCell] using hzU
                  clear s1 s2 e1 e2 hTk hrow hownU hORU hbU hlen1 hlen2
                  go_wp2_with fail
                  go_roundw
                  case rel => exact ⟨j + 1, _, by omega, by go_num, hrowN.out, hownN.out, hid (fun _ => rfl), hORN, hbN, hzN⟩
                  case measure => simp [intOf]; omega
        · have hjl : j = C := by omega
          subst hjl
          have hhd' : hd = u15 := hhd.out (by omega)
          have hrow' : wr.ownsRow Z.heap.size 39 1 hd ro.length (ro.flatMap flF) := by
            have := own_base hrow hbz
            rw [← hrol, List.take_length] at this
            rw [hhd']; exact this
          have hORn := hid (hORU.out.push (r := ro) hrow')
          rw [← HT.out] at hORn
          clear hrow hrow' hhd hORU hhd' HRo HT HCell hOR hu0 hb hbz
          go_wp2_with fail
          go_roundw
          case rel => exact ⟨i + 1, _, by omega, by go_num, hid (fun h => absurd h (by omega)), hownU, hORn, hbU⟩
          case measure => simp [intOf]; omega
    · have hkl : i = R := by omega
      subst hkl
      have HRW : Hid (RwP V (fun b => Z.heap.size ≤ b ∧ b < V.heap.size) 1 flF u13 P) := hid (RwP.of_own (by rw [HPl.out]; exact hown) (by have := hOR.out; rwa [List.take_of_length_le (by rw [HPl.out]; exact Nat.le_refl _)] at this) (fun h => hu0.out (by rw [← HPl.out, h]; rfl)))
      have bRV := bR5.below hb bR5.lt
      have hXV := hX5.trans (hb.mono hX5.size)
      have hXVz := hXV.size
      have hZw := bR5.lt
      clear hown hOR hu0 hb
      go_wp2_with fail
      refine (newFormulaArgMatrix_any P u13 V (HRW.out.imp fun b hb => hb.2) (fun r hr => (HPm.out r hr).1) (by rw [HPl.out]; omega) (fun r hr => (HPm.out r hr).2)).mono ?_
      rintro e w4 ⟨v, rfl, hrv, hb4⟩
      have bRV4 := bRV.below hb4 bRV.lt
      have hXV4 := hXV.trans (hb4.mono hXVz)
      have hz4 := hb4.size
      obtain ⟨A9, c9, rfl⟩ := hrv.form
      have HRV := hid hrv
      clear hrv hb4
      go_wp2_with fail
      refine (newMatrix_any _ _ _ _).mono ?_
      rintro e w5 ⟨rfl, hb5⟩
      have bRV5 := bRV4.below hb5 bRV4.lt
      have hXV5 := hXV4.trans (hb5.mono hXV4.size)
      have hz5 := hb5.size
      have hVw : w.heap.size < V.heap.size := Nat.lt_of_lt_of_le hZw hbz
      have HRV5 : Hid (∀ W' : World, (∀ b, b ≠ w.heap.size → W'.heap[b]? = w5.heap[b]?) → W'.heap.size = w5.heap.size → Rwn w W' 10 flA (.slice A9 P.length c9) P) := hid (fun W' h1 h2 => RwP.keep (w' := W') (S' := fun b => w.heap.size ≤ b ∧ b < W'.heap.size) HRV.out fun b hb => ⟨(h1 b (fun e => by have := hb.1; omega)).trans (hb5.block b hb.2), by have := hb.1; omega, by have := hb.2; omega⟩)
      obtain ⟨q0, q1, q2, q3, q4, q5, q6, q7, q8, q9, qf⟩ := bRV5.cells10
      have hzl := bRV5.lt
      unfold faM
      clear hb5 HRV
      go_wp2_with fail
      refine end_cell Tryz.results111 rfl (Bk.set10 bRV5 _ _ _ _ _ _ _ _ _ _) Tryz.underlying78 rfl info_fa rfl ?_
      rw [HP.out]
      exact ⟨_, rfl, HRV5.out _ (fun b hb => heap_set10 w5 hb _ _ _ _ _ _ _ _ _ _) (by simp [World.setCell]), Below.set10 hXV5 (Nat.le_refl _) _ _ _ _ _ _ _ _ _ _⟩
end Go.Proofs.YtndabbepepbnmaaGreatDoor
