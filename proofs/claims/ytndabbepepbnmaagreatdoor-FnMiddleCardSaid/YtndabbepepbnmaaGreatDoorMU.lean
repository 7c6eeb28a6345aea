import Derived.Test.YtndabbepepbnmaaGreatDoorMM
namespace Go.Proofs.YtndabbepepbnmaaGreatDoor
open Go.RowKit
attribute [local go_sem] run_store_float

theorem toInt_encM (N : Int) (hN : N.natAbs < 9007199254740992) : floatToIntVal .f64 (enc N 0) .i64 = some N := by
  rw [enc_E]
  have h := toInt_E (decide (N < 0)) N.natAbs 0 hN (by omega)
  rw [Nat.pow_zero, Nat.div_one, sg_natAbs] at h
  show (match (Ieee.double.read (E (decide (N < 0)) N.natAbs 0)).toInt .zero with | some n => if IntKind.i64.min ≤ n ∧ n ≤ IntKind.i64.max then some n else none | none => none) = _
  rw [h]
  show (if IntKind.i64.min ≤ N ∧ N ≤ IntKind.i64.max then some N else none) = some N
  rw [if_pos]
  exact ⟨by show (-9223372036854775808 : Int) ≤ N; omega, by show N ≤ (9223372036854775807 : Int); omega⟩
theorem fin_one : fin one64 := by show FloatKind.f64.format.order one64 one64 = some .eq; decide
theorem nz_one : nz one64 = one64 := by decide
theorem nz_zero : nz 0 = 0 := by decide

/-- the unit matrix, in floats -/
def unitF (i j : Nat) : Nat := if i = j then one64 else 0

set_option maxRecDepth 100000 in
set_option maxHeartbeats 4000000 in
theorem MUNIT_walk (n : Nat) (hn : 0 < n ∧ n ≤ 6) (g L : Nat) (el : List Nat) (w : World) (hL : IsL w L el [.iface 78 (fa (enc (n : Int) 0) es false es 1)]) :
    Calls Tryz.prog 112 #[ptr g, ptr L] w fun e w' => ∃ v, e = .returned (faM v (.pointer none) (.pointer none)) ∧ Rwn w w' 10 flA v (grid n n unitF) ∧ Below w.heap.size w w' := by
  obtain ⟨i0, hi, hz0, hz1, hz2⟩ := info_parts infos_fa
  obtain ⟨i1, hj, hy0, hy1, hy2⟩ := info_parts infos_fas
  have HL := hid hL
  clear hL
  have hord := hid (gt_true (a := (n : Int)) (b := 0) (k := 0) (by omega) (by omega) (by omega) (by omega))
  have hTN := hid (toNumber_whole (n : Int) (by omega))
  have hto := fun wx => run_convert_float_int (P := Tryz.prog) wx 39 3 .f64 .i64 (enc (n : Int) 0) (n : Int) (by kernel_rfl) Tryz.underlying3 (toInt_encM (n : Int) (by omega))
  have hoz : FloatKind.f64.format.order (enc (n : Int) 0) 0 = some .gt := by have := hord.out; rwa [enc_zero] at this
  clear hord
  generalize enc (n : Int) 0 = x at *
  have hta := fun (u : Value) wx => run_typeAssert_struct (P := Tryz.prog) 78 20 u wx Tryz.underlying78
  go_enter Tryz.func112, Tryz.ntmps112
  go_wp2_with fail
  have k1 : Below w.heap.size w (w.alloc (.cells #[.string ⟨#[]⟩, .float .f64 0, .string ⟨#[]⟩, .slice none 0 0, .slice none 0 0, .bool false, .string ⟨#[]⟩, .int .u8 0, .pointer none, .pointer none] 78)) := (Below.refl _ _).alloc (Nat.le_refl _) _
  have HL1 := hid (HL.out.keep k1)
  have b0 := Bk.new w 78 #[.string ⟨#[]⟩, .float .f64 0, .string ⟨#[]⟩, .slice none 0 0, .slice none 0 0, .bool false, .string ⟨#[]⟩, .int .u8 0, .pointer none, .pointer none]
  generalize w.alloc (.cells #[.string ⟨#[]⟩, .float .f64 0, .string ⟨#[]⟩, .slice none 0 0, .slice none 0 0, .bool false, .string ⟨#[]⟩, .int .u8 0, .pointer none, .pointer none] 78) = W at *
  obtain ⟨f1, e1, l1, c1⟩ := HL1.out.at_ (i := 0) rfl
  refine (len_any HL1.out).mono ?_
  rintro e w1 ⟨rfl, rfl⟩
  go_wp2_with fail
  refine (back_any HL1.out e1 (by simp)).mono ?_
  rintro e w1 ⟨rfl, rfl⟩
  unfold fa at c1
  go_wp2_with fail
  refine (hTN.out W).mono ?_
  rintro e w1 ⟨rfl, hb1⟩
  have bR := b0.below hb1 b0.lt
  have hX := k1.trans (hb1.mono k1.size)
  have hXz := hX.size
  clear HL1 hta hTN k1 b0 c1 hb1 HL
  unfold fa
  have hmk0 := fun W => mk0_eq (P := Tryz.prog) 74 73 i1 1 24 Tryz.underlying74 hj hy0 hy1 hy2 (by omega) n (by omega) W
  have hmk := fun W => mk_eq (P := Tryz.prog) 73 78 i0 10 136 Tryz.underlying73 hi hz0 hz1 hz2 (by omega) n (by omega) W
  go_wp2_with fail
  have bD : Bk ((w1.alloc (.cells #[.string es, .float .f64 x, .string es, .slice none 0 0, .slice none 0 0, .bool false, .string es, .int .u8 1, .pointer none, .pointer none] 78)).alloc (.cells (madeCells #[.slice none 0 0] n) 73)) w1.heap.size 78 #[.string es, .float .f64 x, .string es, .slice none 0 0, .slice none 0 0, .bool false, .string es, .int .u8 1, .pointer none, .pointer none] := (Bk.new w1 _ _).alloc _
  have bRZ : Bk ((w1.alloc (.cells #[.string es, .float .f64 x, .string es, .slice none 0 0, .slice none 0 0, .bool false, .string es, .int .u8 1, .pointer none, .pointer none] 78)).alloc (.cells (madeCells #[.slice none 0 0] n) 73)) w.heap.size 78 _ := (bR.alloc _).alloc _
  have hXZ : Below w.heap.size w ((w1.alloc (.cells #[.string es, .float .f64 x, .string es, .slice none 0 0, .slice none 0 0, .bool false, .string es, .int .u8 1, .pointer none, .pointer none] 78)).alloc (.cells (madeCells #[.slice none 0 0] n) 73)) := (hX.alloc hXz _).alloc (by simp; omega) _
  have hown0 : World.ownsRow ((w1.alloc (.cells #[.string es, .float .f64 x, .string es, .slice none 0 0, .slice none 0 0, .bool false, .string es, .int .u8 1, .pointer none, .pointer none] 78)).alloc (.cells (madeCells #[.slice none 0 0] n) 73)) (w1.heap.size + 1) 73 1 (.slice (some ⟨w1.heap.size + 1, 0, none⟩) 0 n) 0 [] := by
    have := World.ownsRow_made (base := w1.heap.size + 1) (e := 73) (size := 1) (w1.alloc (.cells #[.string es, .float .f64 x, .string es, .slice none 0 0, .slice none 0 0, .bool false, .string es, .int .u8 1, .pointer none, .pointer none] 78)) (madeCells #[.slice none 0 0] n) n (by simp) (by unfold maxLen; omega) (by simp [size_madeCells])
    simpa using this
  have hZz : (((w1.alloc (.cells #[.string es, .float .f64 x, .string es, .slice none 0 0, .slice none 0 0, .bool false, .string es, .int .u8 1, .pointer none, .pointer none] 78)).alloc (.cells (madeCells #[.slice none 0 0] n) 73))).heap.size = w1.heap.size + 1 + 1 := by simp
  have hwr0 : w.heap.size < w1.heap.size := bR.lt
  clear bR hX hXz
  generalize ((w1.alloc (.cells #[.string es, .float .f64 x, .string es, .slice none 0 0, .slice none 0 0, .bool false, .string es, .int .u8 1, .pointer none, .pointer none] 78)).alloc (.cells (madeCells #[.slice none 0 0] n) 73)) = Z at *
  generalize w1.heap.size = D at *
  have HPl : Hid ((grid n n unitF).length = n) := hid (grid_len n n _)
  have HPt : Hid (∀ i, i < n → (grid n n unitF).take (i + 1) = (grid n n unitF).take i ++ [(List.range n).map (unitF i)]) := hid (fun i hi => by rw [List.take_add_one, grid_at _ _ _ hi]; rfl)
  obtain ⟨P, hP⟩ : ∃ P, (grid n n unitF) = P := ⟨_, rfl⟩
  rw [hP] at HPl
  simp only [hP] at HPt
  have HP := hid hP
  clear hP
  go_loopw [6, 7] (fun u i wr => ∃ (k : Nat) (us : List Value), k ≤ n ∧ i = .int .i64 k ∧ wr.ownsRow (D + 1) 73 1 u k us ∧ Hid (OR wr (D + 1) 78 10 flA us (P.take k)) ∧ Below (D + 1) Z wr) (fun _ i _ => n - (intOf i).toNat)
  case atStart => exact ⟨0, [], Nat.zero_le _, rfl, hown0, hid (OR.nil _ _ _ _ _), Below.refl _ _⟩
  case round =>
    obtain ⟨k, us, hk, rfl, hown, hOR, hb⟩ := hrel
    have hbz := hb.size
    clear hown0
    obtain ⟨V, hV⟩ : ∃ V, V = wr := ⟨_, rfl⟩
    subst hV
    have bDV := bD.below hb (by omega)
    have dx : V.cell? ⟨D, 1, none⟩ = some (.float .f64 x) := bDV.cell 1
    have hDV : D < V.heap.size := bDV.lt
    by_cases hlt : k < n
    · have hkI : (k : Int) < (n : Int) := by omega
      have HT := hid (HPt.out k hlt)
      obtain ⟨ro, hro⟩ : ∃ ro : List Nat, (List.range n).map (unitF k) = ro := ⟨_, rfl⟩
      have hrol : ro.length = n := by rw [← hro]; simp
      have HRo : Hid (∀ j, j < n → ro[j]? = some (unitF k j)) := hid (fun j hj => by rw [← hro]; exact range_at n _ hj)
      rw [hro] at HT
      clear hro
      have hF4 : Fil (V.alloc (.cells (madeCells #[.string ⟨#[]⟩, .float .f64 0, .string ⟨#[]⟩, .slice none 0 0, .slice none 0 0, .bool false, .string ⟨#[]⟩, .int .u8 0, .pointer none, .pointer none] (n * 10)) 78)) V.heap.size 78 (n * 10) [] := Fil.start (Bk.new V _ _) (by simp [size_madeCells])
      have hgV : V.grownBy (V.alloc (.cells (madeCells #[.string ⟨#[]⟩, .float .f64 0, .string ⟨#[]⟩, .slice none 0 0, .slice none 0 0, .bool false, .string ⟨#[]⟩, .int .u8 0, .pointer none, .pointer none] (n * 10)) 78)) (some V.heap.size) := World.grownBy_alloc _ _ _
      go_wp2_with fail
      generalize V.alloc (.cells (madeCells #[.string ⟨#[]⟩, .float .f64 0, .string ⟨#[]⟩, .slice none 0 0, .slice none 0 0, .bool false, .string ⟨#[]⟩, .int .u8 0, .pointer none, .pointer none] (n * 10)) 78) = w4 at *
      go_loopw [9] (fun i wr => ∃ (j : Nat), j ≤ n ∧ i = .int .i64 j ∧ V.grownBy wr (some V.heap.size) ∧ Fil wr V.heap.size 78 (n * 10) ((ro.take j).flatMap flA)) (fun i _ => n - (intOf i).toNat)
      case atStart => exact ⟨0, Nat.zero_le _, rfl, hgV, hF4⟩
      case round =>
        obtain ⟨j, hj', rfl, hg, hFil⟩ := hrel
        clear hgV hF4
        have hgz := hg.size
        have dxw : wr.cell? ⟨D, 1, none⟩ = some (.float .f64 x) := hg.cell dx (by simp; omega)
        by_cases hltj : j < n
        · have hjI : (j : Int) < (n : Int) := by omega
          have hVw : V.heap.size < wr.heap.size := hFil.lt
          have hlj : ((ro.take j).flatMap flA).length = j * 10 := by rw [flat_len flA 10 flA_len, List.length_take]; congr 1; omega
          have hu : ∃ y, unitF k j = y ∧ (((k : Int) == (j : Int)) = true ∧ y = one64 ∨ ((k : Int) == (j : Int)) = false ∧ y = 0) := by
            refine ⟨_, rfl, ?_⟩
            unfold unitF
            by_cases h : k = j
            · left; subst h; simp
            · right; rw [if_neg h]; exact ⟨by simp; omega, rfl⟩
          obtain ⟨y, hy, hyc⟩ := hu
          have HT1 := hid (flat_take flA ro j y (by rw [HRo.out j hltj, hy]))
          clear hy
          have hNy : Hid (∀ wx, Calls Tryz.prog 135 #[.float .f64 y] wx fun e w' => e = .returned (fa y es false es 1) ∧ Below wx.heap.size wx w') := hid (fun wx => by
            have h : fin y ∧ nz y = y := by
              rcases hyc with ⟨_, rfl⟩ | ⟨_, rfl⟩
              · exact ⟨fin_one, nz_one⟩
              · exact ⟨fin_zero, nz_zero⟩
            have := newNumber_any y wx h.1
            rwa [h.2] at this)
          rcases hyc with ⟨hkj, rfl⟩ | ⟨hkj, rfl⟩
          all_goals
            go_wp2_with fail
            refine (hNy.out wr).mono ?_
            rintro e wy ⟨rfl, hb'⟩
            have hFy := hFil.keep (hb'.block _ hVw)
            have hgy := grownBy_below hg hb'
            have hyz := hb'.size
            obtain ⟨o0, p0⟩ := hFy.at_ (j * 10) (by omega)
            obtain ⟨o1, p1⟩ := hFy.at_ (j * 10 + 1) (by omega)
            obtain ⟨o2, p2⟩ := hFy.at_ (j * 10 + 2) (by omega)
            obtain ⟨o3, p3⟩ := hFy.at_ (j * 10 + 3) (by omega)
            obtain ⟨o4, p4⟩ := hFy.at_ (j * 10 + 4) (by omega)
            obtain ⟨o5, p5⟩ := hFy.at_ (j * 10 + 5) (by omega)
            obtain ⟨o6, p6⟩ := hFy.at_ (j * 10 + 6) (by omega)
            obtain ⟨o7, p7⟩ := hFy.at_ (j * 10 + 7) (by omega)
            obtain ⟨o8, p8⟩ := hFy.at_ (j * 10 + 8) (by omega)
            obtain ⟨o9, p9⟩ := hFy.at_ (j * 10 + 9) (by omega)
            have pf := hFy.free
            have HFn := hid (fun y => hFy.put10 (i := j * 10) hlj (by omega) (.string es) (.float .f64 y) (.string es) (.slice none 0 0) (.slice none 0 0) (.bool false) (.string es) (.int .u8 1) (.pointer none) (.pointer none))
            have HGn := hid (fun y => grownBy_setCell (grownBy_setCell (grownBy_setCell (grownBy_setCell (grownBy_setCell (grownBy_setCell (grownBy_setCell (grownBy_setCell (grownBy_setCell (grownBy_setCell hgy (j * 10) (.string es)) (j * 10 + 1) (.float .f64 y)) (j * 10 + 2) (.string es)) (j * 10 + 3) (.slice none 0 0)) (j * 10 + 4) (.slice none 0 0)) (j * 10 + 5) (.bool false)) (j * 10 + 6) (.string es)) (j * 10 + 7) (.int .u8 1)) (j * 10 + 8) (.pointer none)) (j * 10 + 9) (.pointer none))
            clear hFy hgy hFil hg hNy hb' hyz
            unfold fa
            go_wp2_with fail
            go_roundw
            case rel => exact ⟨j + 1, by omega, by go_num, HGn.out _, by rw [HT1.out]; exact HFn.out _⟩
            case measure => simp [intOf]; omega
        · have hjl : j = n := by omega
          subst hjl
          have hFil' := hFil
          rw [← hrol, List.take_length] at hFil'
          rw [hrol] at hFil'
          have hrow := hFil'.own (base := D + 1) (sz := 10) (n := ro.length) (by rw [hrol]) (by rw [flat_len flA 10 flA_len]) (by omega) (by omega)
          have hORn := (OR.farB hOR.out hOR.out hg (fun g h => by injection h with h; omega))
          have hOwnU := hown.kept hg (.inr (fun e => by have := (hown.lt _ e).2; omega))
          have hbn : Below (D + 1) Z wr := hb.grown hg (by omega) (fun g h => by injection h with h; omega)
          have hrz := hFil.lt
          rw [hrol] at hrow
          clear hFil hFil' hg hOR hown hb hbz
          go_wp2_with (at_builtin; refine wpList_append_lies _ rfl _ _ 74 rfl (D + 1) 73 i1 _ 1 24 Tryz.underlying74 hj hy0 hy1 hy2 rfl (by decide) _ _ _ rfl (hOwnU.alloc _) ⟨wr.heap.size, 0, none⟩ 1 1 [.slice (some ⟨V.heap.size, 0, none⟩) j j] rfl rfl ?c1 ?c2 (by decide) ?c3 ?c4 ?c5 (wr.heap.size + 1) ?c6 ?_)
          case c1 =>
            intro i u hi
            rw [add_mid, Nat.zero_add, (Bk.new _ _ _).cell]
            simpa using hi
          case c2 => intro u hu; simp at hu; subst hu; rfl
          case c3 => unfold maxLen; omega
          case c4 => omega
          case c5 => simp; omega
          case c6 => simp
          intro gg cap w6 hown6 hgrow hat hlt6
          have hrow6 := (hrow.alloc (.cells #[.slice (some ⟨V.heap.size, 0, none⟩) j j] 73)).kept hgrow (own_ne (hrow.alloc (.cells #[.slice (some ⟨V.heap.size, 0, none⟩) j j] 73)) (hOwnU.alloc _) (by decide))
          have hOR6 := hid ((((hORn.alloc (.cells #[.slice (some ⟨V.heap.size, 0, none⟩) j j] 73)).grown (hOwnU.alloc _) (by decide) hgrow)).push (r := ro) (by rw [hrol]; exact hrow6))
          rw [← HT.out] at hOR6
          have hb6 : Below (D + 1) Z w6 := (hbn.alloc (by omega) _).grown hgrow (by simp; omega) (fun g hg => (hOwnU.lt g hg).1)
          clear hgrow hat hrow hrow6 hOwnU hORn hbn
          go_wp2_with fail
          go_roundw
          case rel => exact ⟨k + 1, _, by omega, by go_num, hown6, hOR6, hb6⟩
          case measure => simp [intOf]; omega
    · have hkl : k = n := by omega
      subst hkl
      have HRW : Hid (RwP V (fun b => D + 1 ≤ b ∧ b < V.heap.size) 10 flA u6 P) := hid (RwP.of_own (by rw [HPl.out]; exact hown) (by have := hOR.out; rwa [List.take_of_length_le (by rw [HPl.out]; exact Nat.le_refl _)] at this) (fun h => by have := HPl.out; rw [h] at this; simp at this; omega))
      have bRV := bRZ.below hb (by omega)
      have hXV := hXZ.trans (hb.mono (by omega))
      have hXVz := hXV.size
      obtain ⟨A9, c9, hv9⟩ := HRW.out.form
      rw [HPl.out] at hv9
      subst hv9
      clear hown hOR hb bDV
      go_wp2_with fail
      refine (newMatrix_any _ _ _ _).mono ?_
      rintro e w5 ⟨rfl, hb5⟩
      have bRV5 := bRV.below hb5 bRV.lt
      have hXV5 := hXV.trans (hb5.mono hXVz)
      have hz5 := hb5.size
      have HRV5 : Hid (∀ W' : World, (∀ b, b ≠ w.heap.size → W'.heap[b]? = w5.heap[b]?) → W'.heap.size = w5.heap.size → Rwn w W' 10 flA (.slice A9 k c9) P) := hid (fun W' h1 h2 => RwP.keep (w' := W') (S' := fun b => w.heap.size ≤ b ∧ b < W'.heap.size) HRW.out fun b hb => ⟨(h1 b (fun e => by have := hb.1; omega)).trans (hb5.block b hb.2), by have := hb.1; omega, by have := hb.2; omega⟩)
      obtain ⟨q0, q1, q2, q3, q4, q5, q6, q7, q8, q9, qf⟩ := bRV5.cells10
      have hzl := bRV5.lt
      unfold faM
      clear hb5 HRW
      go_wp2_with fail
      refine end_cell Tryz.results112 rfl (Bk.set10 bRV5 _ _ _ _ _ _ _ _ _ _) Tryz.underlying78 rfl info_fa rfl ?_
      rw [HP.out]
      exact ⟨_, rfl, HRV5.out _ (fun b hb => heap_set10 w5 hb _ _ _ _ _ _ _ _ _ _) (by simp [World.setCell]), Below.set10 hXV5 (Nat.le_refl _) _ _ _ _ _ _ _ _ _ _⟩
end Go.Proofs.YtndabbepepbnmaaGreatDoor
