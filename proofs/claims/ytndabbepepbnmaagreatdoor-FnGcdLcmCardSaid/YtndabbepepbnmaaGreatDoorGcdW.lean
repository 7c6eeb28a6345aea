import Derived.Test.YtndabbepepbnmaaGreatDoorGcd
namespace Go.Proofs.YtndabbepepbnmaaGreatDoor
open Go.RowKit
attribute [local go_sem] run_store_float

theorem infos_f64 : (Tryz.prog.info? 39).map (fun i => (i.zero, i.size, i.bytes)) = some (some (.float .f64 0), 1, 8) := by kernel_rfl
def fl (n : Nat) : Value := .float .f64 (enc (n : Int) 0)
def argAt (f0 f1 : Nat) : Nat → Value
  | 0 => ptr f0
  | 1 => ptr f1
  | _ => .pointer none

set_option maxRecDepth 100000 in
set_option maxHeartbeats 2000000 in
theorem GCD_whole (a b : Nat) (ha : 1 ≤ a) (hb : 1 ≤ b) (ha2 : a ≤ 1000000) (hb2 : b ≤ 1000000) (w : World) (g L : Nat) (el : List Nat)
    (h : IsL w L el [.iface 78 (fa (enc (a : Int) 0) es false es 1), .iface 78 (fa (enc (b : Int) 0) es false es 1)]) :
    Calls Tryz.prog 118 #[ptr g, ptr L] w fun e w' => e = .returned (fa (enc (Nat.gcd a b : Nat) 0) es false es 1) ∧ Below w.heap.size w w' := by
  obtain ⟨f0, hf0, hlt0, hv0⟩ := h.at_ (i := 0) rfl
  obtain ⟨f1, hf1, hlt1, hv1⟩ := h.at_ (i := 1) rfl
  have hta := fun (u : Value) wx => run_typeAssert_struct (P := Tryz.prog) 78 20 u wx Tryz.underlying78
  obtain ⟨i0, hi, hz0, hz1, hz2⟩ := info_parts infos_f64
  have hlen : el.length = 2 := h.len
  have H := hid h
  have Hf0 := hid hf0
  have Hf1 := hid hf1
  have HR : Hid (Nat.gcd a b ≤ 1000000000000) := by
    show Nat.gcd a b ≤ _
    have := Nat.gcd_le_left b ha; omega
  have HX := hid (gcd_any a b ha hb ha2 hb2)
  have la := hid (lt_zero_float a (by omega))
  have lb := hid (lt_zero_float b (by omega))
  generalize Nat.gcd a b = r at *
  clear h hf0 hf1
  go_enter Tryz.func118, Tryz.ntmps118
  go_wp2_with fail
  refine (len_any (H.out.keep ((Below.refl _ _).alloc (Nat.le_refl _) _))).mono ?_
  rintro e w1 ⟨rfl, rfl⟩
  go_wp2_with fail
  refine (front_any (H.out.keep ((Below.refl _ _).alloc (Nat.le_refl _) _)) Hf0.out).mono ?_
  rintro e w1 ⟨rfl, rfl⟩
  go_wp2_with fail
  go_loopg [5, 6, 7] 2 (fun gg x u arg wr => ∃ (k y : Nat), k ≤ 2 ∧ gg = 2 - k ∧ x = .float .f64 y ∧ arg = argAt f0 f1 k ∧
    wr.ownsRow (w.heap.size + 1) 39 1 u k ([fl a, fl b].take k) ∧ Below (w.heap.size + 1) (w.alloc (.cells #[.string ⟨#[]⟩, .float .f64 0, .string ⟨#[]⟩, .slice none 0 0, .slice none 0 0, .bool false, .string ⟨#[]⟩, .int .u8 0, .pointer none, .pointer none] 78)) wr)
  case atStart => exact ⟨0, 0, by omega, rfl, rfl, rfl, World.ownsRow_nil _ _ _ _, Below.refl _ _⟩
  case round =>
    obtain ⟨k, y, hk, hgk, rfl, harg, hown, hb⟩ := hrel
    have hz : w.heap.size + 1 ≤ wr.heap.size := by have := hb.size; simpa using this
    have hbw : Below w.heap.size w wr := Below.lift ((Below.refl _ _).alloc (Nat.le_refl _) _) (by simp) (hb.mono (by simp))
    have hk3 : k = 0 ∨ k = 1 ∨ k = 2 := by omega
    rcases hk3 with rfl | rfl | rfl
    · change _ = ptr f0 at harg
      subst harg
      have gv : wr.cell? ⟨f0, 3, none⟩ = _ := (hbw.cell (p := ⟨f0, 3, none⟩) hlt0).trans hv0
      have gl : f0 < wr.heap.size := by omega
      unfold fa at gv
      go_wp2_with (at_builtin; refine wpList_append_own _ rfl _ _ 112 rfl (w.heap.size + 1) 39 i0 _ 1 8 Tryz.underlying112 hi hz0 hz1 hz2 rfl (by decide) _ _ _ rfl ((hown.alloc _).alloc _) ⟨wr.heap.size + 1, 0, none⟩ 1 1 [fl a] rfl rfl ?c1 ?c2 ?c3 ?c4 ?c5 ?_)
      case c1 =>
        intro j u' hj
        rw [add_mid, Nat.zero_add, (Bk.new_at (by simp)).cell]
        simpa [fl] using hj
      case c2 => intro u' hu; simp at hu; subst hu; rfl
      case c3 => unfold maxLen; omega
      case c4 => omega
      case c5 => simp; omega
      · intro v' w' hown' hgrow _
        have hb' := ((hb.alloc hz (.cells #[.string es, .float .f64 (enc (a : Int) 0), .string es, .slice none 0 0, .slice none 0 0, .bool false, .string es, .int .u8 1, .pointer none, .pointer none] 78)).alloc (by simp; omega) (.cells #[fl a] 39)).grown hgrow (by simp; omega) (fun g hg => ((hown.lt) g hg).1)
        have hbw' : Below w.heap.size w w' := Below.lift ((Below.refl _ _).alloc (Nat.le_refl _) _) (by simp) (hb'.mono (by simp))
        clear hown hgrow hb gv gl hbw hz
        go_wp2_with fail
        refine (next_some (H.out.keep hbw') Hf0.out Hf1.out).mono ?_
        rintro e w2 ⟨rfl, rfl⟩
        go_wp2_with fail
        go_roundg (2 - 1)
        case measure => omega
        case rel => exact ⟨1, _, by omega, rfl, rfl, rfl, hown', hb'⟩
    · change _ = ptr f1 at harg
      subst harg
      have gv : wr.cell? ⟨f1, 3, none⟩ = _ := (hbw.cell (p := ⟨f1, 3, none⟩) hlt1).trans hv1
      have gl : f1 < wr.heap.size := by omega
      unfold fa at gv
      go_wp2_with (at_builtin; refine wpList_append_own _ rfl _ _ 112 rfl (w.heap.size + 1) 39 i0 _ 1 8 Tryz.underlying112 hi hz0 hz1 hz2 rfl (by decide) _ _ _ rfl ((hown.alloc _).alloc _) ⟨wr.heap.size + 1, 0, none⟩ 1 1 [fl b] rfl rfl ?c1 ?c2 ?c3 ?c4 ?c5 ?_)
      case c1 =>
        intro j u' hj
        rw [add_mid, Nat.zero_add, (Bk.new_at (by simp)).cell]
        simpa [fl] using hj
      case c2 => intro u' hu; simp at hu; subst hu; rfl
      case c3 => unfold maxLen; omega
      case c4 => omega
      case c5 => simp; omega
      · intro v' w' hown' hgrow _
        have hb' := ((hb.alloc hz (.cells #[.string es, .float .f64 (enc (b : Int) 0), .string es, .slice none 0 0, .slice none 0 0, .bool false, .string es, .int .u8 1, .pointer none, .pointer none] 78)).alloc (by simp; omega) (.cells #[fl b] 39)).grown hgrow (by simp; omega) (fun g hg => ((hown.lt) g hg).1)
        have hbw' : Below w.heap.size w w' := Below.lift ((Below.refl _ _).alloc (Nat.le_refl _) _) (by simp) (hb'.mono (by simp))
        clear hown hgrow hb gv gl hbw hz
        go_wp2_with fail
        refine (next_none (H.out.keep hbw') Hf1.out hlen).mono ?_
        rintro e w2 ⟨rfl, rfl⟩
        go_wp2_with fail
        go_roundg (2 - 2)
        case measure => omega
        case rel => exact ⟨2, _, by omega, rfl, rfl, rfl, hown', hb'⟩
    · change _ = Value.pointer none at harg
      subst harg
      have hB := (Bk.new w 78 #[.string ⟨#[]⟩, .float .f64 0, .string ⟨#[]⟩, .slice none 0 0, .slice none 0 0, .bool false, .string ⟨#[]⟩, .int .u8 0, .pointer none, .pointer none]).below hb (by simp)
      obtain ⟨A, cap, rfl, _, hc⟩ := Sl.of_own hown
      obtain ⟨c, o, rfl, hcB, hcell⟩ := hc (by omega)
      have n0 : wr.cell? ⟨c, o, none⟩ = some (.float .f64 (enc (a : Int) 0)) := hcell 0 _ rfl
      have n1 : wr.cell? ⟨c, o + 1, none⟩ = some (.float .f64 (enc (b : Int) 0)) := hcell 1 _ rfl
      clear hown hc hcell hb
      have la' := la.out
      go_wp2_with fail
      clear la'
      go_loop [10, 11] (fun cd i => (i = .int .i64 1 ∧ cd = .float .f64 (enc (a : Int) 0)) ∨ (i = .int .i64 2 ∧ cd = .float .f64 (enc (r : Int) 0))) (fun _ i => 2 - (intOf i).toNat)
      case atStart => exact .inl ⟨rfl, rfl⟩
      case round =>
        rcases hrel with ⟨rfl, rfl⟩ | ⟨rfl, rfl⟩
        · have lb' := lb.out
          go_wp2_with fail
          refine (HX.out _).mono ?_
          rintro e w2 ⟨rfl, rfl⟩
          go_wp2_with fail
          go_round
          case rel => exact .inr ⟨rfl, rfl⟩
          case measure => decide
        · go_wp2_with fail
          refine (newNumber_any _ _ (fin_enc (r : Int) 0 (by have := HR.out; omega) (by omega))).mono ?_
          rintro e w4 ⟨rfl, hb4⟩
          rw [nz_whole _ (by have := HR.out; omega)]
          have hB4 := hB.below hb4 (by omega)
          have hd4 := Below.lift hbw (by omega) hb4
          have hz4 : w.heap.size < w4.heap.size := by have := hb4.size; omega
          obtain ⟨q0, q1, q2, q3, q4, q5, q6, q7, q8, q9, qf⟩ := hB4.cells10
          clear hb4 hB hbw n0 n1
          unfold fa
          go_wp2_with fail
          exact end_cell Tryz.results118 rfl (Bk.set10 hB4 _ _ _ _ _ _ _ _ _ _) Tryz.underlying78 rfl info_fa rfl
            ⟨rfl, Below.set10 hd4 (Nat.le_refl _) _ _ _ _ _ _ _ _ _ _⟩

set_option maxRecDepth 100000 in
set_option maxHeartbeats 2000000 in
theorem LCM_whole (a b : Nat) (ha : 1 ≤ a) (hb : 1 ≤ b) (ha2 : a ≤ 1000000) (hb2 : b ≤ 1000000) (w : World) (g L : Nat) (el : List Nat)
    (h : IsL w L el [.iface 78 (fa (enc (a : Int) 0) es false es 1), .iface 78 (fa (enc (b : Int) 0) es false es 1)]) :
    Calls Tryz.prog 119 #[ptr g, ptr L] w fun e w' => e = .returned (fa (enc (a * b / Nat.gcd a b : Nat) 0) es false es 1) ∧ Below w.heap.size w w' := by
  obtain ⟨f0, hf0, hlt0, hv0⟩ := h.at_ (i := 0) rfl
  obtain ⟨f1, hf1, hlt1, hv1⟩ := h.at_ (i := 1) rfl
  have hta := fun (u : Value) wx => run_typeAssert_struct (P := Tryz.prog) 78 20 u wx Tryz.underlying78
  obtain ⟨i0, hi, hz0, hz1, hz2⟩ := info_parts infos_f64
  have hlen : el.length = 2 := h.len
  have H := hid h
  have Hf0 := hid hf0
  have Hf1 := hid hf1
  have HR : Hid (a * b / Nat.gcd a b ≤ 1000000000000) := by
    show a * b / Nat.gcd a b ≤ _
    have h1 : a * b ≤ 1000000 * 1000000 := Nat.mul_le_mul ha2 hb2
    have h2 := Nat.div_le_self (a * b) (Nat.gcd a b)
    omega
  have HX := hid (lcm_any a b ha hb ha2 hb2)
  have la := hid (lt_zero_float a (by omega))
  have lb := hid (lt_zero_float b (by omega))
  generalize a * b / Nat.gcd a b = r at *
  clear h hf0 hf1
  go_enter Tryz.func119, Tryz.ntmps119
  go_wp2_with fail
  refine (len_any (H.out.keep ((Below.refl _ _).alloc (Nat.le_refl _) _))).mono ?_
  rintro e w1 ⟨rfl, rfl⟩
  go_wp2_with fail
  refine (front_any (H.out.keep ((Below.refl _ _).alloc (Nat.le_refl _) _)) Hf0.out).mono ?_
  rintro e w1 ⟨rfl, rfl⟩
  go_wp2_with fail
  go_loopg [5, 6, 8] 2 (fun gg x u arg wr => ∃ (k y : Nat), k ≤ 2 ∧ gg = 2 - k ∧ x = .float .f64 y ∧ arg = argAt f0 f1 k ∧
    wr.ownsRow (w.heap.size + 1) 39 1 u k ([fl a, fl b].take k) ∧ Below (w.heap.size + 1) (w.alloc (.cells #[.string ⟨#[]⟩, .float .f64 0, .string ⟨#[]⟩, .slice none 0 0, .slice none 0 0, .bool false, .string ⟨#[]⟩, .int .u8 0, .pointer none, .pointer none] 78)) wr)
  case atStart => exact ⟨0, 0, by omega, rfl, rfl, rfl, World.ownsRow_nil _ _ _ _, Below.refl _ _⟩
  case round =>
    obtain ⟨k, y, hk, hgk, rfl, harg, hown, hb⟩ := hrel
    have hz : w.heap.size + 1 ≤ wr.heap.size := by have := hb.size; simpa using this
    have hbw : Below w.heap.size w wr := Below.lift ((Below.refl _ _).alloc (Nat.le_refl _) _) (by simp) (hb.mono (by simp))
    have hk3 : k = 0 ∨ k = 1 ∨ k = 2 := by omega
    rcases hk3 with rfl | rfl | rfl
    · change _ = ptr f0 at harg
      subst harg
      have gv : wr.cell? ⟨f0, 3, none⟩ = _ := (hbw.cell (p := ⟨f0, 3, none⟩) hlt0).trans hv0
      have gl : f0 < wr.heap.size := by omega
      unfold fa at gv
      go_wp2_with (at_builtin; refine wpList_append_own _ rfl _ _ 112 rfl (w.heap.size + 1) 39 i0 _ 1 8 Tryz.underlying112 hi hz0 hz1 hz2 rfl (by decide) _ _ _ rfl ((hown.alloc _).alloc _) ⟨wr.heap.size + 1, 0, none⟩ 1 1 [fl a] rfl rfl ?c1 ?c2 ?c3 ?c4 ?c5 ?_)
      case c1 =>
        intro j u' hj
        rw [add_mid, Nat.zero_add, (Bk.new_at (by simp)).cell]
        simpa [fl] using hj
      case c2 => intro u' hu; simp at hu; subst hu; rfl
      case c3 => unfold maxLen; omega
      case c4 => omega
      case c5 => simp; omega
      · intro v' w' hown' hgrow _
        have hb' := ((hb.alloc hz (.cells #[.string es, .float .f64 (enc (a : Int) 0), .string es, .slice none 0 0, .slice none 0 0, .bool false, .string es, .int .u8 1, .pointer none, .pointer none] 78)).alloc (by simp; omega) (.cells #[fl a] 39)).grown hgrow (by simp; omega) (fun g hg => ((hown.lt) g hg).1)
        have hbw' : Below w.heap.size w w' := Below.lift ((Below.refl _ _).alloc (Nat.le_refl _) _) (by simp) (hb'.mono (by simp))
        clear hown hgrow hb gv gl hbw hz
        go_wp2_with fail
        refine (next_some (H.out.keep hbw') Hf0.out Hf1.out).mono ?_
        rintro e w2 ⟨rfl, rfl⟩
        go_wp2_with fail
        go_roundg (2 - 1)
        case measure => omega
        case rel => exact ⟨1, _, by omega, rfl, rfl, rfl, hown', hb'⟩
    · change _ = ptr f1 at harg
      subst harg
      have gv : wr.cell? ⟨f1, 3, none⟩ = _ := (hbw.cell (p := ⟨f1, 3, none⟩) hlt1).trans hv1
      have gl : f1 < wr.heap.size := by omega
      unfold fa at gv
      go_wp2_with (at_builtin; refine wpList_append_own _ rfl _ _ 112 rfl (w.heap.size + 1) 39 i0 _ 1 8 Tryz.underlying112 hi hz0 hz1 hz2 rfl (by decide) _ _ _ rfl ((hown.alloc _).alloc _) ⟨wr.heap.size + 1, 0, none⟩ 1 1 [fl b] rfl rfl ?c1 ?c2 ?c3 ?c4 ?c5 ?_)
      case c1 =>
        intro j u' hj
        rw [add_mid, Nat.zero_add, (Bk.new_at (by simp)).cell]
        simpa [fl] using hj
      case c2 => intro u' hu; simp at hu; subst hu; rfl
      case c3 => unfold maxLen; omega
      case c4 => omega
      case c5 => simp; omega
      · intro v' w' hown' hgrow _
        have hb' := ((hb.alloc hz (.cells #[.string es, .float .f64 (enc (b : Int) 0), .string es, .slice none 0 0, .slice none 0 0, .bool false, .string es, .int .u8 1, .pointer none, .pointer none] 78)).alloc (by simp; omega) (.cells #[fl b] 39)).grown hgrow (by simp; omega) (fun g hg => ((hown.lt) g hg).1)
        have hbw' : Below w.heap.size w w' := Below.lift ((Below.refl _ _).alloc (Nat.le_refl _) _) (by simp) (hb'.mono (by simp))
        clear hown hgrow hb gv gl hbw hz
        go_wp2_with fail
        refine (next_none (H.out.keep hbw') Hf1.out hlen).mono ?_
        rintro e w2 ⟨rfl, rfl⟩
        go_wp2_with fail
        go_roundg (2 - 2)
        case measure => omega
        case rel => exact ⟨2, _, by omega, rfl, rfl, rfl, hown', hb'⟩
    · change _ = Value.pointer none at harg
      subst harg
      have hB := (Bk.new w 78 #[.string ⟨#[]⟩, .float .f64 0, .string ⟨#[]⟩, .slice none 0 0, .slice none 0 0, .bool false, .string ⟨#[]⟩, .int .u8 0, .pointer none, .pointer none]).below hb (by simp)
      obtain ⟨A, cap, rfl, _, hc⟩ := Sl.of_own hown
      obtain ⟨c, o, rfl, hcB, hcell⟩ := hc (by omega)
      have n0 : wr.cell? ⟨c, o, none⟩ = some (.float .f64 (enc (a : Int) 0)) := hcell 0 _ rfl
      have n1 : wr.cell? ⟨c, o + 1, none⟩ = some (.float .f64 (enc (b : Int) 0)) := hcell 1 _ rfl
      clear hown hc hcell hb
      have la' := la.out
      go_wp2_with fail
      clear la'
      go_loop [10, 11] (fun cd i => (i = .int .i64 1 ∧ cd = .float .f64 (enc (a : Int) 0)) ∨ (i = .int .i64 2 ∧ cd = .float .f64 (enc (r : Int) 0))) (fun _ i => 2 - (intOf i).toNat)
      case atStart => exact .inl ⟨rfl, rfl⟩
      case round =>
        rcases hrel with ⟨rfl, rfl⟩ | ⟨rfl, rfl⟩
        · have lb' := lb.out
          go_wp2_with fail
          refine (HX.out _).mono ?_
          rintro e w2 ⟨rfl, rfl⟩
          go_wp2_with fail
          go_round
          case rel => exact .inr ⟨rfl, rfl⟩
          case measure => decide
        · go_wp2_with fail
          refine (newNumber_any _ _ (fin_enc (r : Int) 0 (by have := HR.out; omega) (by omega))).mono ?_
          rintro e w4 ⟨rfl, hb4⟩
          rw [nz_whole _ (by have := HR.out; omega)]
          have hB4 := hB.below hb4 (by omega)
          have hd4 := Below.lift hbw (by omega) hb4
          have hz4 : w.heap.size < w4.heap.size := by have := hb4.size; omega
          obtain ⟨q0, q1, q2, q3, q4, q5, q6, q7, q8, q9, qf⟩ := hB4.cells10
          clear hb4 hB hbw n0 n1
          unfold fa
          go_wp2_with fail
          exact end_cell Tryz.results119 rfl (Bk.set10 hB4 _ _ _ _ _ _ _ _ _ _) Tryz.underlying78 rfl info_fa rfl
            ⟨rfl, Below.set10 hd4 (Nat.le_refl _) _ _ _ _ _ _ _ _ _ _⟩
end Go.Proofs.YtndabbepepbnmaaGreatDoor
