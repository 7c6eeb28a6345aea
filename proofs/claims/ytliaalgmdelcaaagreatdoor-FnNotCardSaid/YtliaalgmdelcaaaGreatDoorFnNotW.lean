import Derived.Test.YtliaalgmdelcaaaGreatDoorFnNot
namespace Go.Proofs.YtliaalgmdelcaaaGreatDoor
open Go.RowKit
attribute [local go_sem] run_store_float

theorem order_zero (n : Int) (k : Nat) (hn : n.natAbs < 9007199254740992) (hk : k ≤ 1000) : FloatKind.f64.format.order (enc n k) 0 = some (compare n 0) := by
  have := order_enc n 0 k hn (by decide) hk
  rwa [enc_zero] at this
theorem enc_one : enc 1 0 = one64 := by decide
theorem order_one : FloatKind.f64.format.order one64 0 = some .gt := by decide
theorem order_zero0 : FloatKind.f64.format.order 0 0 = some .eq := by decide

theorem fnum_log (b : Bool) : fnum (3, b2i b, 0, es) = if b then one64 else 0 := by
  unfold fnum
  rw [if_neg (by simp), if_pos rfl]
  cases b
  · exact enc_zero 0
  · exact enc_one

theorem agree_NOT_bool (b : Bool) (A : Option Addr) (c : Nat) (w : World) (h : Sl w w.heap.size 5 (.slice A 1 c) 1 ([((3, b2i b, 0, es) : SV)].flatMap svCells)) :
    Calls Tryz.prog 8 #[.func (.func 10) #[] #[], .string ⟨#[78, 79, 84]⟩, .slice A 1 c] w fun e w' => e = .returned (.bool true) ∧ Below w.heap.size w w' := by
  have hx : fav 3 (enc (b2i b) 0) es = fa (if b then one64 else 0) es true es 1 := by
    cases b
    · simp [fav, b2i, enc_zero, order_zero0]
    · simp [fav, b2i, enc_one, order_one]
  refine agrees_yes_NOT [(3, b2i b, 0, es)] (3, b2i (!b), 0, es) A c w h ?_ (by simp) ?_ ?_ ?_ ?_ rfl rfl
  · intro a ha; simp at ha; subst ha; exact ⟨fun h => absurd h (by simp), by simp⟩
  · exact ⟨fun h => absurd h (by simp), by simp⟩
  · refine fin_fnum _ ⟨fun h => absurd h (by simp), by simp⟩ (fun _ => ?_)
    cases b <;> decide
  · intro W hW
    have hS := (h.keep hW).more hW.size
    refine call_NOT_yes (3, b2i b, 0, es) (b2i b) (!b) (by cases b <;> rfl) (.inr rfl) A c W hS (fun V => AsLogic_log (b2i b) 0 es V)
  · intro W v' hv
    have := impl_NOT _ _ (Fn_NOT (if b then one64 else 0) b (by cases b <;> decide) (avOf (3, b2i b, 0, es)) ⟨true, by simpa [avOf, fnum] using hx⟩) v' W hv (fun a ha => by simp at ha; subst ha; exact avOk_of _ ⟨fun h => absurd h (by simp), by simp⟩) (by simp)
    have e : avV (Res.log (if b then 0 else one64)).av = iv 3 (fnum (3, b2i (!b), 0, es)) es := by
      rw [fnum_log]
      cases b <;> rfl
    rw [e] at this
    exact this

theorem fnum_whole (n : Int) : fnum (1, n, 1, es) = enc n 0 := by
  unfold fnum
  rw [if_pos rfl]
  show enc n ((1 : Int).toNat.log2) = _
  rw [show ((1 : Int).toNat.log2) = 0 from by decide]
theorem avOf_whole (n : Int) : avOf (1, n, 1, es) = (1, enc n 0, es) := by
  unfold avOf; rw [fnum_whole]
theorem svOk_whole (n : Int) (hn : n.natAbs < 9007199254740992) : svOk (1, n, 1, es) := ⟨fun _ => ⟨0, by omega, rfl, hn⟩, by simp⟩
theorem fav_num (x : Nat) (t : ByteArray) : fav 1 x t = fa (nz x) es false es 1 := by unfold fav; rw [if_pos rfl]
theorem nz_whole (n : Int) (hn : n.natAbs < 9007199254740992) : nz (enc n 0) = enc n 0 := by
  unfold nz
  rw [order_zero n 0 hn (by omega)]
  by_cases h0 : n = 0
  · subst h0; rw [enc_zero]; simp
  · rw [if_neg]
    intro hh; injection hh with hh; exact h0 (Int.compare_eq_eq.1 hh)
theorem test_whole (n : Int) (hn : n.natAbs < 9007199254740992) : (FloatKind.f64.format.order (enc n 0) 0 != some .eq) = !(n == 0) := by
  rw [order_zero n 0 hn (by omega)]
  by_cases h0 : n = 0
  · subst h0; rfl
  · have h1 : (n == 0) = false := by simpa using h0
    rw [h1]
    have : compare n 0 ≠ .eq := by intro hh; exact h0 (Int.compare_eq_eq.1 hh)
    simpa using this

theorem agree_NOT_int (n : Int) (h1 : -99999999999 ≤ n) (h2 : n ≤ 99999999999) (A : Option Addr) (c : Nat) (w : World) (h : Sl w w.heap.size 5 (.slice A 1 c) 1 ([((1, n, 1, es) : SV)].flatMap svCells)) :
    Calls Tryz.prog 8 #[.func (.func 10) #[] #[], .string ⟨#[78, 79, 84]⟩, .slice A 1 c] w fun e w' => e = .returned (.bool true) ∧ Below w.heap.size w w' := by
  have hn : n.natAbs < 9007199254740992 := by omega
  have hok := svOk_whole n hn
  obtain ⟨r, hr⟩ : ∃ r, (n == 0) = r := ⟨_, rfl⟩
  have ht := test_whole n hn
  rw [hr] at ht
  have hokl : svOk (3, b2i r, 0, es) := ⟨fun h => absurd h (by simp), by simp⟩
  have hfl : fin (fnum (3, b2i r, 0, es)) := fin_fnum _ hokl (fun _ => by cases r <;> decide)
  refine agrees_yes_NOT [(1, n, 1, es)] (3, b2i r, 0, es) A c w h ?_ (by simp) hokl hfl ?_ ?_ rfl rfl
  · intro a ha; simp at ha; subst ha; exact hok
  · intro W hW
    have hS := (h.keep hW).more hW.size
    have hA : ∀ V, Calls Tryz.prog 209 #[svV (1, n, 1, es)] V fun e w' => e = .returned (sv 3 (b2i (!r)) 0 es) ∧ Below V.heap.size V w' := fun V => AsLogic_num n 1 es V (!r) (by rw [← hr]; rfl)
    exact call_NOT_yes (1, n, 1, es) (b2i (!r)) r (by cases r <;> rfl) (.inl rfl) A c W hS hA
  · intro W v' hv
    have hF := Fn_NOT (enc n 0) (!r) ht (avOf (1, n, 1, es)) ⟨false, by rw [avOf_whole, fav_num, nz_whole n hn]⟩
    have := impl_NOT _ _ hF v' W hv (fun a ha => by simp at ha; subst ha; exact avOk_of _ hok) (by simp)
    have e : avV (Res.log (if !r then 0 else one64)).av = iv 3 (fnum (3, b2i r, 0, es)) es := by
      rw [fnum_log]
      cases r <;> rfl
    rw [e] at this
    exact this

theorem agree_NOT_no (A : Option Addr) (c : Nat) (w : World) (h : Sl w w.heap.size 5 (.slice A 1 c) 1 ([((6, 0, 0, es) : SV)].flatMap svCells)) :
    Calls Tryz.prog 8 #[.func (.func 10) #[] #[], .string ⟨#[78, 79, 84]⟩, .slice A 1 c] w fun e w' => e = .returned (.bool true) ∧ Below w.heap.size w w' := by
  refine agrees_no_NOT [(6, 0, 0, es)] (6, 0, 0, es) A c w h (fun a ha => by simp at ha; subst ha; simp) (by simp) (by simp) ?_ (.inl rfl)
  intro W hW
  exact call_NOT_no (6, 0, 0, es) rfl A c W ((h.keep hW).more hW.size)

theorem argWhole_no (n : Int) (w : World) (h : n < -99999999999 ∨ 99999999999 < n) : Calls Tryz.prog 7 #[.int .i64 n] w fun e w' => e = .returned (sv 6 0 0 es) ∧ Below w.heap.size w w' := by
  go_enter Tryz.func7, Tryz.ntmps7
  go_wp2_with fail
  refine (int_no n _ h).mono ?_
  rintro e w1 ⟨rfl, hb⟩
  obtain ⟨hc, hf⟩ := bcell hb
  unfold sv
  go_wp2_with fail
  exact end_cell Tryz.results7 rfl (Bk.set5 ((Bk.new w _ _).below hb (by simp)) _ _ _ _ _) Tryz.underlying27 rfl info_sv rfl
    ⟨rfl, Below.set5 (Below.lift ((Below.refl _ _).alloc (Nat.le_refl _) _) (by simp) hb) (Nat.le_refl _) _ _ _ _ _⟩

/-- the row of one flat value, just laid -/
theorem Sl.row1 (a : SV) (W : World) (t : TypeId) : Sl (W.alloc (.cells (svCells a).toArray t)) (W.alloc (.cells (svCells a).toArray t)).heap.size 5 (.slice (some ⟨W.heap.size, 0, none⟩) 1 1) 1 ([a].flatMap svCells) :=
  (Sl.lit (n := 1) (sz := 5) (Bk.new W t (svCells a).toArray) 1 rfl).cast rfl rfl

set_option maxRecDepth 100000 in
theorem law_FnNot (b : Bool) (n : Int) (w : World) :
    Calls Tryz.prog 4 #[.bool b, .int .i64 n] w fun e w' => e = .returned (.bool true) ∧ Below w.heap.size w w' := by
  go_enter Tryz.func4, Tryz.ntmps4
  go_wp2_with fail
  refine (bool_any b _).mono ?_
  rintro e w1 ⟨rfl, hb1⟩
  unfold sv
  go_wp2_with fail
  refine (agree_NOT_bool b _ _ _ (Sl.row1 (3, b2i b, 0, es) w1 _)).mono ?_
  rintro e w2 ⟨rfl, hb2⟩
  have hd2 : Below w.heap.size w w2 := Below.lift (hb1.alloc hb1.size _) (by have := hb1.size; simp; omega) hb2
  clear hb1 hb2
  go_wp2_with fail
  by_cases hn : -99999999999 ≤ n ∧ n ≤ 99999999999
  · obtain ⟨hn1, hn2⟩ := hn
    refine (argWhole_ok n _ hn1 hn2).mono ?_
    rintro e w3 ⟨rfl, hb3⟩
    have hd3 := Below.lift hd2 hd2.size hb3
    clear hd2 hb3
    unfold sv
    go_wp2_with fail
    refine (agree_NOT_int n hn1 hn2 _ _ _ (Sl.row1 (1, n, 1, es) w3 _)).mono ?_
    rintro e w4 ⟨rfl, hb4⟩
    go_wp2_with fail
    go_ret
    exact ⟨rfl, Below.lift (hd3.alloc hd3.size _) (by have := hd3.size; simp; omega) hb4⟩
  · have hn' : n < -99999999999 ∨ 99999999999 < n := by omega
    have Hn := hid hn'
    clear hn hn'
    refine (argWhole_no n _ Hn.out).mono ?_
    rintro e w3 ⟨rfl, hb3⟩
    have hd3 := Below.lift hd2 hd2.size hb3
    clear hd2 hb3
    unfold sv
    go_wp2_with fail
    refine (agree_NOT_no _ _ _ (Sl.row1 (6, 0, 0, es) w3 _)).mono ?_
    rintro e w4 ⟨rfl, hb4⟩
    go_wp2_with fail
    go_ret
    exact ⟨rfl, Below.lift (hd3.alloc hd3.size _) (by have := hd3.size; simp; omega) hb4⟩
end Go.Proofs.YtliaalgmdelcaaaGreatDoor
