import Derived.Test.YtdanlcciefbboaaGreatInV
namespace Go.Proofs.YtdanlcciefbboaaGreat
open Go.RowKit
attribute [local go_sem] run_store_float

/-- a flat value of the reference: kind, numerator, denominator, text -/
abbrev SV := Int × Int × Int × ByteArray
def svCells (a : SV) : List Value := [.int .i64 a.1, .int .i64 a.2.1, .int .i64 a.2.2.1, .string a.2.2.2, .slice none 0 0]
theorem svCells_len (a : SV) : (svCells a).length = 5 := rfl
def svV (a : SV) : Value := sv a.1 a.2.1 a.2.2.1 a.2.2.2
/-- its number as a float -/
def fnum (a : SV) : Nat := if a.1 = 1 then enc a.2.1 (a.2.2.1.toNat.log2) else if a.1 = 3 then enc a.2.1 0 else 0
def svOk (a : SV) : Prop := (a.1 = 1 → ∃ j : Nat, j ≤ 4 ∧ a.2.2.1 = 2 ^ j ∧ a.2.1.natAbs < 9007199254740992) ∧ a.1 ≠ 5
def avOf (a : SV) : AV := (a.1, fnum a, a.2.2.2)

theorem floatOfInt_enc (n : Int) : floatOfInt .f64 n = enc n 0 := rfl

theorem div_den (n : Int) (j : Nat) (hj : j ≤ 4) (hn : n.natAbs < 9007199254740992) : Ieee.double.div (enc n 0) (enc (2 ^ j : Int) 0) = some (enc n j) := by
  have h2 : (0 : Int) < 2 ^ j := Int.pow_pos (by decide)
  have ha : ((2 : Int) ^ j).natAbs = 2 ^ j := by rw [Int.natAbs_pow]; rfl
  have hs : decide ((2 : Int) ^ j < 0) = false := by simp; omega
  have hp : 2 ^ j < 9007199254740992 := Nat.lt_of_le_of_lt (Nat.pow_le_pow_right (by decide) hj) (by decide)
  rw [enc_E, enc_E (2 ^ j), enc_E n j, ha, hs, div_E (decide (n < 0)) false n.natAbs (2 ^ j) n.natAbs 0 0 j hn hp hn (by have := Nat.two_pow_pos j; omega) (by simp) (by omega) (by omega) (by omega)]
  simp

theorem of_num (n d : Int) (t : ByteArray) (r : Nat) (w : World) (h : floatBits .quo .f64 (floatOfInt .f64 n) (floatOfInt .f64 d) = some r) :
    Calls Tryz.prog 21 #[sv 1 n d t] w fun e w' => e = .returned (iv 1 r t) ∧ Below w.heap.size w w' := by
  have hq := fun wx => run_float_arith (P := Tryz.prog) wx .quo 39 .f64 (floatOfInt .f64 n) (floatOfInt .f64 d) r h
  clear h
  unfold sv
  go_enter Tryz.func21, Tryz.ntmps21
  go_wp2
  exact end_cell Tryz.results21 rfl (Bk.alloc (Bk.new_at (by simp)) _) Tryz.underlying42 rfl info_iv rfl ⟨rfl, (((Below.refl _ _).alloc (Nat.le_refl _) _).alloc (by simp) _).alloc (by simp; omega) _⟩
theorem of_log (n d : Int) (t : ByteArray) (w : World) :
    Calls Tryz.prog 21 #[sv 3 n d t] w fun e w' => e = .returned (iv 3 (floatOfInt .f64 n) t) ∧ Below w.heap.size w w' := by
  unfold sv
  go_enter Tryz.func21, Tryz.ntmps21
  go_wp2
  exact end_cell Tryz.results21 rfl (Bk.alloc (Bk.new_at (by simp)) _) Tryz.underlying42 rfl info_iv rfl ⟨rfl, (((Below.refl _ _).alloc (Nat.le_refl _) _).alloc (by simp) _).alloc (by simp; omega) _⟩
theorem of_else (k n d : Int) (t : ByteArray) (w : World) (h1 : (k == 1) = false) (h3 : (k == 3) = false) (h5 : (k == 5) = false) :
    Calls Tryz.prog 21 #[sv k n d t] w fun e w' => e = .returned (iv k 0 t) ∧ Below w.heap.size w w' := by
  unfold sv
  go_enter Tryz.func21, Tryz.ntmps21
  go_wp2
  exact end_cell Tryz.results21 rfl (Bk.alloc (Bk.new_at (by simp)) _) Tryz.underlying42 rfl info_iv rfl ⟨rfl, (((Below.refl _ _).alloc (Nat.le_refl _) _).alloc (by simp) _).alloc (by simp; omega) _⟩

theorem of_any (a : SV) (w : World) (h : svOk a) : Calls Tryz.prog 21 #[svV a] w fun e w' => e = .returned (iv a.1 (fnum a) a.2.2.2) ∧ Below w.heap.size w w' := by
  obtain ⟨k, n, d, t⟩ := a
  obtain ⟨h1, h5⟩ := h
  simp only [svV, fnum]
  by_cases k1 : k = 1
  · subst k1
    obtain ⟨j, hj, hd, hn⟩ := h1 rfl
    simp only at hd hn
    subst hd
    have e1 : ((2 : Int) ^ j).toNat.log2 = j := by
      rw [show ((2 : Int) ^ j).toNat = 2 ^ j by rw [show ((2 : Int) ^ j) = ((2 ^ j : Nat) : Int) by simp]; rfl]
      exact Nat.log2_two_pow
    simp only [if_true, e1]
    exact of_num n (2 ^ j) t (enc n j) w (div_den n j hj hn)
  by_cases k3 : k = 3
  · subst k3
    have := of_log n d t w
    rw [floatOfInt_enc] at this
    simpa using this
  · simp only [k1, k3, if_false]
    exact of_else k n d t w (by simpa using k1) (by simpa using k3) (by simpa using h5)

theorem fin_enc (n : Int) (k : Nat) (hn : n.natAbs < 9007199254740992) (hk : k ≤ 1000) : fin (enc n k) := by
  show Ieee.double.order _ _ = _
  rw [order_enc n n k hn hn hk, Int.compare_eq_eq.2 rfl]
theorem avOk_of (a : SV) (h : svOk a) : avOk (avOf a) := by
  refine ⟨fun h1 => ?_, h.2⟩
  obtain ⟨j, hj, hd, hn⟩ := h.1 h1
  have h1' : a.1 = 1 := h1
  simp only [avOf, fnum, if_pos h1']
  refine fin_enc _ _ hn ?_
  rw [hd, show ((2 : Int) ^ j).toNat = 2 ^ j by rw [show ((2 : Int) ^ j) = ((2 ^ j : Nat) : Int) by simp]; rfl, Nat.log2_two_pow]
  omega

set_option maxHeartbeats 400000 in
/-- laws.all on flat values: a row of its own -/
theorem all_own (l : List SV) (v : Value) (w : World) (h : Sl w w.heap.size 5 v l.length (l.flatMap svCells)) (hok : ∀ a ∈ l, svOk a) (hlen : l.length ≤ 1000) :
    Calls Tryz.prog 13 #[v] w fun e w' => ∃ A' c', e = .returned (.slice A' l.length c') ∧ w'.ownsRow w.heap.size 42 4 (.slice A' l.length c') l.length ((l.map avOf).flatMap avCells) ∧ Below w.heap.size w w' := by
  obtain ⟨A, c, rfl, hl, hc⟩ := h
  clear hl
  obtain ⟨i0, hi, hz0, hz1, hz2⟩ := info_parts infos_iv
  go_enter Tryz.func13, Tryz.ntmps13
  go_wp2_with fail
  go_loopw [3, 4] (fun u i wr => ∃ (k : Nat), k ≤ l.length ∧ i = .int .i64 k ∧ wr.ownsRow w.heap.size 42 4 u k (((l.map avOf).take k).flatMap avCells) ∧ Below w.heap.size w wr) (fun _ i _ => l.length - (intOf i).toNat)
  case atStart => exact ⟨0, Nat.zero_le _, rfl, World.ownsRow_nil _ _ _ _, Below.refl _ _⟩
  case round =>
    obtain ⟨k, hk, rfl, hown, hb⟩ := hrel
    by_cases hlt : k < l.length
    · obtain ⟨b, o, rfl, hbB, hcell⟩ := hc (by omega)
      obtain ⟨a, ha⟩ : ∃ a, l[k]? = some a := ⟨l[k], List.getElem?_eq_getElem hlt⟩
      have hokA : Hid (svOk a) := hid (hok a (List.mem_of_getElem? ha))
      have f := fun j (hj : j < 5) => flat_at svCells 5 svCells_len l k a j ha hj
      have g0 : wr.cell? ⟨b, o + k * 5, none⟩ = some (.int .i64 a.1) := (hb.cell (p := ⟨b, o + k * 5, none⟩) hbB).trans (by have := hcell (k * 5 + 0) _ ((f 0 (by omega)).trans rfl); simpa using this)
      have g1 : wr.cell? ⟨b, o + k * 5 + 1, none⟩ = some (.int .i64 a.2.1) := (hb.cell (p := ⟨b, o + k * 5 + 1, none⟩) hbB).trans (hcell (k * 5 + 1) _ ((f 1 (by omega)).trans rfl))
      have g2 : wr.cell? ⟨b, o + k * 5 + 2, none⟩ = some (.int .i64 a.2.2.1) := (hb.cell (p := ⟨b, o + k * 5 + 2, none⟩) hbB).trans (hcell (k * 5 + 2) _ ((f 2 (by omega)).trans rfl))
      have g3 : wr.cell? ⟨b, o + k * 5 + 3, none⟩ = some (.string a.2.2.2) := (hb.cell (p := ⟨b, o + k * 5 + 3, none⟩) hbB).trans (hcell (k * 5 + 3) _ ((f 3 (by omega)).trans rfl))
      have g4 : wr.cell? ⟨b, o + k * 5 + 4, none⟩ = some (.slice none 0 0) := (hb.cell (p := ⟨b, o + k * 5 + 4, none⟩) hbB).trans (hcell (k * 5 + 4) _ ((f 4 (by omega)).trans rfl))
      have hmap : Hid (((l.map avOf).take (k + 1)).flatMap avCells = ((l.map avOf).take k).flatMap avCells ++ avCells (avOf a)) := hid (flat_take avCells (l.map avOf) k (avOf a) (by rw [List.getElem?_map, ha]; rfl))
      clear f hcell hc ha hok
      go_wp2_with fail
      refine (of_any a _ hokA.out).mono ?_
      rintro e w2 ⟨rfl, hb2⟩
      have hown2 : w2.ownsRow w.heap.size 42 4 _ k (((l.map avOf).take k).flatMap avCells) := own_keep hown hb2
      have hb3 : Below w.heap.size w w2 := Below.lift hb hb.size hb2
      have hw2 := hb3.size
      unfold iv
      go_wp2_with (at_builtin; refine wpList_append_own _ rfl _ _ 43 rfl w.heap.size 42 i0 _ 4 56 Tryz.underlying43 hi hz0 hz1 hz2 rfl (by decide) _ _ _ rfl (hown2.alloc _) ⟨w2.heap.size, 0, none⟩ 1 1 (avCells (avOf a)) rfl rfl ?c1 ?c2 ?c3 ?c4 ?c5 ?_)
      case c1 =>
        intro j u hj
        have : avCells (avOf a) = [.int .i64 a.1, .float .f64 (fnum a), .string a.2.2.2, .slice none 0 0] := rfl
        rw [this] at hj
        rw [add_mid, Nat.zero_add, (Bk.new _ _ _).cell]
        simpa using hj
      case c2 => intro u hu; simp [avCells] at hu; rcases hu with rfl | rfl | rfl | rfl <;> rfl
      case c3 => unfold maxLen; omega
      case c4 => omega
      case c5 => have := hb3.size; simp; omega
      · intro v' w' hown' hgrow _
        have hb' : Below w.heap.size w w' := (hb3.alloc hw2 _).grown hgrow (by simp; omega) (fun g hg => ((hown2.lt) g hg).1)
        rw [← hmap.out] at hown'
        clear hown hown2 hgrow hb hb2 hb3 g0 g1 g2 g3 g4
        go_wp2
        go_roundw
        case rel => exact ⟨k + 1, by omega, by go_num, hown', hb'⟩
        case measure => simp [intOf]; omega
    · have hkl : k = l.length := by omega
      have hkm : Hid ((l.map avOf).take k = l.map avOf) := by show _ = _; rw [hkl, ← List.length_map (f := avOf), List.take_length]
      subst hkl
      rw [hkm.out] at hown
      obtain ⟨A', c', hv', _, _⟩ := Sl.of_own hown
      subst hv'
      clear hkm hc hok
      go_wp2
      go_ret
      exact ⟨A', c', rfl, hown, hb⟩

/-- laws.all on flat values -/
theorem all_any (l : List SV) (v : Value) (w : World) (h : Sl w w.heap.size 5 v l.length (l.flatMap svCells)) (hok : ∀ a ∈ l, svOk a) (hlen : l.length ≤ 1000) :
    Calls Tryz.prog 13 #[v] w fun e w' => ∃ v', e = .returned v' ∧ Sl w' w'.heap.size 4 v' (l.map avOf).length ((l.map avOf).flatMap avCells) ∧ Below w.heap.size w w' :=
  (all_own l v w h hok hlen).mono fun _ _ ⟨_, _, he, ho, hb⟩ => ⟨_, he, by rw [List.length_map]; exact Sl.of_own ho, hb⟩
end Go.Proofs.YtdanlcciefbboaaGreat
