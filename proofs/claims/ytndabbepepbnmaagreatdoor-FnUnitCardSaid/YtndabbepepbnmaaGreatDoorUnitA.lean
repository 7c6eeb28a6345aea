import Derived.Test.YtndabbepepbnmaaGreatDoorDoorX
import Derived.Test.YtndabbepepbnmaaGreatDoorMU
import Derived.Test.YtndabbepepbnmaaGreatDoorMat
import Derived.Test.YtndabbepepbnmaaGreatDoorAllM
import Derived.Test.YtndabbepepbnmaaGreatDoorSameM
namespace Go.Proofs.YtndabbepepbnmaaGreatDoor
open Go.RowKit
attribute [local go_sem] run_store_float

/-- a number as a value of the program -/
def nAV (x : Nat) : AV := (1, x, es)
/-- a table of numbers as an argument -/
def tabA (F : List (List Nat)) : AM := ((5, 0, es), F.map (·.map nAV))
theorem grid_map {α β : Type} (R C : Nat) (f : Nat → Nat → α) (g : α → β) : (grid R C f).map (·.map g) = grid R C (fun i j => g (f i j)) := by
  unfold grid
  rw [List.map_map]
  apply List.map_congr_left
  intro i _
  show List.map g (List.map (f i) (List.range C)) = _
  rw [List.map_map]
  rfl
theorem matL_grid (n : Nat) (Z : Nat → Int) (R C : Nat) : matL n Z R C = grid R C (fun i k => if i * C + k < n then Int.tmod (Z (i * C + k)) 100 else 0) := rfl
theorem rowsOf_grid (R C : Nat) (x : Nat → Nat → Int) : rowsOf (svM (grid R C x)) = (grid R C fun i j => enc (x i j) 0).map (·.map nAV) := by
  unfold svM rowsOf
  rw [grid_map, grid_map, grid_map]
  simp only [svW, avOf_whole, nAV]
theorem favC_nAV {x : Nat} (h : nz x = x) : favC (nAV x) = flA x := by
  unfold favC nAV flA
  rw [if_pos rfl, h]

theorem MUNIT_X (n : Nat) (hn : 0 < n ∧ n ≤ 6) : FnX 112 [((1, enc (n : Int) 0, es), [])] (grid n n unitF) := by
  intro w g L el vs hL hA
  obtain ⟨hl, h⟩ := hA
  match vs, hl with
  | [v], _ =>
    rcases h 0 v _ rfl rfl with ⟨_, rfl⟩ | ⟨h0, _⟩
    · have : avI (1, enc (n : Int) 0, es) = .iface 78 (fa (enc (n : Int) 0) es false es 1) := by
        unfold avI
        rw [fav_num, nz_whole _ (by omega)]
      rw [this] at hL
      exact MUNIT_walk n hn g L el w hL
    · exact absurd rfl h0

theorem MMULT_X (R K C : Nat) (a b : Nat → Nat → Nat) (S : Nat → Nat → Nat → Nat) (hR : 0 < R ∧ R ≤ 6) (hK : 0 < K ∧ K ≤ 6) (hC : 0 < C ∧ C ≤ 6) (hS0 : ∀ i j, S i j 0 = 0)
    (hS : ∀ i j k, i < R → j < C → k < K → ∃ p, floatBits .mul .f64 (a i k) (b k j) = some p ∧ floatBits .add .f64 (S i j k) p = some (S i j (k + 1)))
    (hfin : ∀ i j, i < R → j < C → fin (S i j K) ∧ nz (S i j K) = S i j K) (ha : ∀ i k, nz (a i k) = a i k) (hb : ∀ i k, nz (b i k) = b i k) :
    FnX 111 [tabA (grid R K a), tabA (grid K C b)] (grid R C fun i j => S i j K) := by
  intro w g L el vs hL hA
  obtain ⟨hl, h⟩ := hA
  have ne1 : (tabA (grid R K a)).2 ≠ [] := by
    intro e
    have := congrArg List.length e
    simp [tabA, grid_len] at this; omega
  have ne2 : (tabA (grid K C b)).2 ≠ [] := by
    intro e
    have := congrArg List.length e
    simp [tabA, grid_len] at this; omega
  match vs, hl with
  | [v1, v2], _ =>
    rcases h 0 v1 _ rfl rfl with ⟨h0, _⟩ | ⟨_, u1, rfl, m1, p1, q1, g1, y1, rfl, r1, _⟩
    · exact absurd h0 ne1
    rcases h 1 v2 _ rfl rfl with ⟨h0, _⟩ | ⟨_, u2, rfl, m2, p2, q2, g2, y2, rfl, r2, _⟩
    · exact absurd h0 ne2
    have r1' := RwP.mapped (f' := flA) nAV r1 (fun r hr x hx => by
      obtain ⟨i, _, rfl⟩ := grid_mem hr
      obtain ⟨k, _, rfl⟩ := List.mem_map.1 hx
      exact favC_nAV (ha i k))
    have r2' := RwP.mapped (f' := flA) nAV r2 (fun r hr x hx => by
      obtain ⟨i, _, rfl⟩ := grid_mem hr
      obtain ⟨k, _, rfl⟩ := List.mem_map.1 hx
      exact favC_nAV (hb i k))
    exact MMULT_walk R K C a b S hR hK hC hS0 hS hfin g L el p1 q1 p2 q2 m1 m2 w hL r1' r2'

/-- what the program says of the unit matrix -/
theorem askX_MUNIT (n : Nat) (hn : 0 < n ∧ n ≤ 6) (v : Value) (w : World) (h : SlM w (fun b => b < w.heap.size) 5 smCells 5 svCells v [(svW (n : Int), [])]) :
    Calls Tryz.prog 31 #[.func (.func 37) #[] #[], v] w fun e w' => ∃ u, e = .returned (.agg #[.int .i64 5, .float .f64 0, .string es, u]) ∧ Rwn w w' 4 flV u (grid n n unitF) ∧ Below w.heap.size w w' := by
  have HF := hid (MUNIT_X n hn)
  have HS := hid (h.old ((Below.refl w.heap.size w).alloc (Nat.le_refl _) (.cells #[.int .i64 0, .float .f64 0, .string ⟨#[]⟩, .slice none 0 0] 42)))
  have Hok : Hid (∀ m ∈ [((svW (n : Int), []) : SM)], smOk m) := hid (fun m hm => by obtain rfl := List.mem_singleton.1 hm; exact .inl ⟨rfl, svOk_whole _ (by omega)⟩)
  have hma : [((svW (n : Int), []) : SM)].map amOf = [((1, enc (n : Int) 0, es), [])] := by
    simp [amOf, rowsOf, svW, avOf_whole]
  have Hok2 : Hid (∀ m ∈ [(((1, enc (n : Int) 0, es), []) : AM)], amOk m) := hid (fun m hm => by obtain rfl := List.mem_singleton.1 hm; exact .inl ⟨rfl, fun _ => fin_enc _ 0 (by omega) (by omega), by show (1 : Int) ≠ 5; omega⟩)
  clear h
  go_enter Tryz.func31, Tryz.ntmps31
  go_wp2_with fail
  refine (all_mat _ v _ HS.out Hok.out (by simp)).mono ?_
  rintro e w1 ⟨v1, rfl, hs1, hb1⟩
  rw [hma] at hs1
  have hS1 := hid (hs1.keep (w' := w1) (S' := fun b => b < w1.heap.size) fun b hb => ⟨rfl, hb.2⟩)
  clear HS hs1
  go_wp2_with fail
  refine (implX_MUNIT _ _ HF.out (fun r hr => by obtain ⟨i, _, rfl⟩ := grid_mem hr; simp; omega) (by rw [grid_len]; omega) v1 w1 hS1.out Hok2.out (by simp)).mono ?_
  rintro e w2 ⟨u, rfl, hr2, hb2⟩
  clear hS1
  have hz1 : w.heap.size + 1 ≤ w1.heap.size := by have := hb1.size; simpa using this
  have hz2 := hb2.size
  have hb : Below (w.alloc (.cells #[.int .i64 0, .float .f64 0, .string ⟨#[]⟩, .slice none 0 0] 42)).heap.size (w.alloc (.cells #[.int .i64 0, .float .f64 0, .string ⟨#[]⟩, .slice none 0 0] 42)) w2 :=
    hb1.trans (hb2.mono (by simp; omega))
  obtain ⟨A4, c4, rfl⟩ := hr2.form
  have HRV : Hid (∀ W' : World, (∀ b, b ≠ w.heap.size → W'.heap[b]? = w2.heap[b]?) → W'.heap.size = w2.heap.size → Rwn w W' 4 flV (.slice A4 (grid n n unitF).length c4) (grid n n unitF)) := hid (fun W' h1 h2 => RwP.keep (w' := W') (S' := fun b => w.heap.size ≤ b ∧ b < W'.heap.size) hr2 fun b hb => ⟨(h1 b (fun e => by have := hb.1; omega)), by have := hb.1; omega, by have := hb.2; omega⟩)
  clear hb1 hb2 hr2
  obtain ⟨hcl, hfr⟩ := bcell hb
  go_wp2_with fail
  refine end_cell Tryz.results31 rfl (Bk.set4 (Bk.below (Bk.new_at rfl) hb (by simp)) _ _ _ _) Tryz.underlying42 rfl info_iv rfl ?_
  exact ⟨_, rfl, HRV.out _ (fun b hb => by rw [Below.heap_setCell _ _ _ _ hb, Below.heap_setCell _ _ _ _ hb, Below.heap_setCell _ _ _ _ hb, Below.heap_setCell _ _ _ _ hb]) (by simp [World.setCell]), Below.set4 (Below.lift ((Below.refl _ _).alloc (Nat.le_refl _) _) (by simp) hb) (Nat.le_refl _) _ _ _ _⟩

/-- the sums of the products with the unit matrix -/
theorem step_zero (s : Int) (x : Int) (hs : s.natAbs ≤ 99) (hx : x.natAbs ≤ 99) :
    (∃ p, floatBits .mul .f64 0 (enc x 0) = some p ∧ floatBits .add .f64 (enc s 0) p = some (enc s 0)) ∧ (∃ p, floatBits .mul .f64 (enc x 0) 0 = some p ∧ floatBits .add .f64 (enc s 0) p = some (enc s 0)) := by
  have e0 : (0 : Nat) = E false 0 0 := by decide
  have key : ∀ t : Bool, Ieee.double.add (enc s 0) (E t 0 0) = some (enc s 0) := fun t => by
    rw [enc_E, add_E _ _ _ _ 0 (by omega) (by omega) (by simp [sg]; split <;> omega) (by omega)]
    have h0 : sg t 0 = 0 := by simp [sg]
    rw [h0, Int.add_zero, sg_natAbs]
    by_cases hz : s = 0
    · subst hz; simp
    · rw [if_neg hz]
  refine ⟨⟨_, ?_, key (false ^^ decide (x < 0))⟩, ⟨_, ?_, key (decide (x < 0) ^^ false)⟩⟩
  · show Ieee.double.mul 0 (enc x 0) = _
    rw [enc_E, show Ieee.double.mul 0 (E (decide (x < 0)) x.natAbs 0) = Ieee.double.mul (E false 0 0) (E (decide (x < 0)) x.natAbs 0) by rw [← e0], mul_E _ _ _ _ 0 0 (by omega) (by omega) (by omega) (by omega), Nat.zero_mul]
  · show Ieee.double.mul (enc x 0) 0 = _
    rw [enc_E, show Ieee.double.mul (E (decide (x < 0)) x.natAbs 0) 0 = Ieee.double.mul (E (decide (x < 0)) x.natAbs 0) (E false 0 0) by rw [← e0], mul_E _ _ _ _ 0 0 (by omega) (by omega) (by omega) (by omega), Nat.mul_zero]
theorem step_one (x : Int) (hx : x.natAbs ≤ 99) :
    (∃ p, floatBits .mul .f64 one64 (enc x 0) = some p ∧ floatBits .add .f64 0 p = some (enc x 0)) ∧ (∃ p, floatBits .mul .f64 (enc x 0) one64 = some p ∧ floatBits .add .f64 0 p = some (enc x 0)) := by
  have e0 : (0 : Nat) = enc 0 0 := (enc_zero 0).symm
  have e1 : one64 = E false 1 0 := by decide
  have key : floatBits .add .f64 0 (enc x 0) = some (enc x 0) := by
    have := add_whole 0 x 0 (by omega) (by omega) (by omega) (by omega)
    rw [← e0, Int.zero_add] at this
    exact this
  refine ⟨⟨_, ?_, key⟩, ⟨_, ?_, key⟩⟩
  · show Ieee.double.mul one64 (enc x 0) = _
    rw [enc_E, e1, mul_E _ _ _ _ 0 0 (by omega) (by omega) (by omega) (by omega), Nat.one_mul, Bool.false_xor]
  · show Ieee.double.mul (enc x 0) one64 = _
    rw [enc_E, e1, mul_E _ _ _ _ 0 0 (by omega) (by omega) (by omega) (by omega), Nat.mul_one, Bool.xor_false]

theorem nz_unit (i j : Nat) : nz (unitF i j) = unitF i j := by
  unfold unitF
  split
  · exact nz_one
  · exact nz_zero
theorem left_X (R C : Nat) (x : Nat → Nat → Int) (hR : 0 < R ∧ R ≤ 6) (hC : 0 < C ∧ C ≤ 6) (hx : ∀ i j, (x i j).natAbs ≤ 99) :
    FnX 111 [tabA (grid R R unitF), tabA (grid R C fun i j => enc (x i j) 0)] (grid R C fun i j => enc (x i j) 0) := by
  have := MMULT_X R R C unitF (fun i j => enc (x i j) 0) (fun i j k => if i < k then enc (x i j) 0 else 0) hR hR hC (fun i j => by simp) (fun i j k hi hj hk => by
    unfold unitF
    have e0 : (0 : Nat) = enc 0 0 := (enc_zero 0).symm
    rcases Nat.lt_trichotomy i k with h | h | h
    · rw [if_neg (by omega), if_pos h, if_pos (by omega)]
      exact (step_zero (x i j) (x k j) (hx i j) (hx k j)).1
    · subst h
      rw [if_pos rfl, if_neg (by omega), if_pos (by omega)]
      exact (step_one (x i j) (hx i j)).1
    · rw [if_neg (by omega), if_neg (by omega), if_neg (by omega)]
      have := (step_zero 0 (x k j) (by omega) (hx k j)).1
      rw [← e0] at this
      exact this) (fun i j hi hj => by
        rw [if_pos hi]
        have := hx i j
        exact ⟨fin_enc _ 0 (by omega) (by omega), nz_whole _ (by omega)⟩) nz_unit (fun i j => nz_whole _ (by have := hx i j; omega))
  have he : (grid R C fun i j => if i < R then enc (x i j) 0 else 0) = grid R C fun i j => enc (x i j) 0 := by
    unfold grid
    apply List.map_congr_left
    intro i hi
    rw [List.mem_range] at hi
    apply List.map_congr_left
    intro j _
    exact if_pos hi
  rw [he] at this
  exact this
theorem right_X (R C : Nat) (x : Nat → Nat → Int) (hR : 0 < R ∧ R ≤ 6) (hC : 0 < C ∧ C ≤ 6) (hx : ∀ i j, (x i j).natAbs ≤ 99) :
    FnX 111 [tabA (grid R C fun i j => enc (x i j) 0), tabA (grid C C unitF)] (grid R C fun i j => enc (x i j) 0) := by
  have := MMULT_X R C C (fun i j => enc (x i j) 0) unitF (fun i j k => if j < k then enc (x i j) 0 else 0) hR hC hC (fun i j => by simp) (fun i j k hi hj hk => by
    unfold unitF
    have e0 : (0 : Nat) = enc 0 0 := (enc_zero 0).symm
    rcases Nat.lt_trichotomy j k with h | h | h
    · rw [if_neg (show ¬ k = j by omega), if_pos h, if_pos (by omega)]
      exact (step_zero (x i j) (x i k) (hx i j) (hx i k)).2
    · subst h
      rw [if_pos rfl, if_neg (by omega), if_pos (by omega)]
      exact (step_one (x i j) (hx i j)).2
    · rw [if_neg (show ¬ k = j by omega), if_neg (by omega), if_neg (by omega)]
      have := (step_zero 0 (x i k) (by omega) (hx i k)).2
      rw [← e0] at this
      exact this) (fun i j hi hj => by
        rw [if_pos hj]
        have := hx i j
        exact ⟨fin_enc _ 0 (by omega) (by omega), nz_whole _ (by omega)⟩) (fun i j => nz_whole _ (by have := hx i j; omega)) nz_unit
  have he : (grid R C fun i j => if j < C then enc (x i j) 0 else 0) = grid R C fun i j => enc (x i j) 0 := by
    unfold grid
    apply List.map_congr_left
    intro i _
    apply List.map_congr_left
    intro j hj
    rw [List.mem_range] at hj
    exact if_pos hj
  rw [he] at this
  exact this
end Go.Proofs.YtndabbepepbnmaaGreatDoor
