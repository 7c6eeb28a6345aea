import Derived.Test.YtjnlghokhlmjlaaGreatDoorIsnumA
import Derived.Test.YtjnlghokhlmjlaaGreatDoorAscii
import Derived.Laws.Bits64
namespace Go.Proofs.YtjnlghokhlmjlaaGreatDoor
open Go.RowKit
attribute [local go_sem] run_store_float

theorem svV_sv (a : SV) : svV a = sv a.1 a.2.1 a.2.2.1 a.2.2.2 := rfl

set_option maxRecDepth 100000 in
theorem argPart_some (n : Int) (w : World) : Calls Tryz.prog 30 #[.int .i64 n] w fun e w' => ∃ v : SV, OkNum v ∧ e = .returned (svV v) ∧ Below w.heap.size w w' := by
  obtain ⟨m, hm1, hm2, hm⟩ : ∃ m : Int, -35184372088832 ≤ m ∧ m ≤ 35184372088832 ∧ (35184372088832 < n ∧ m = 35184372088832 ∨ n < -35184372088832 ∧ m = -35184372088832 ∨ (n ≤ 35184372088832 ∧ -35184372088832 ≤ n) ∧ m = n) := by
    by_cases h1 : 35184372088832 < n
    · exact ⟨35184372088832, by omega, by omega, .inl ⟨h1, rfl⟩⟩
    by_cases h2 : n < -35184372088832
    · exact ⟨-35184372088832, by omega, by omega, .inr (.inl ⟨h2, rfl⟩)⟩
    exact ⟨n, by omega, by omega, .inr (.inr ⟨⟨by omega, by omega⟩, rfl⟩)⟩
  have HF := hid (fun W => frac_some m 16 W (by omega) (by omega) (by omega) (by omega))
  rcases hm with ⟨h1, rfl⟩ | ⟨h1, rfl⟩ | ⟨⟨h1, h2⟩, rfl⟩
  all_goals
    go_enter Tryz.func30, Tryz.ntmps30
    go_wp2_with fail
    refine (HF.out _).mono ?_
    rintro e w1 ⟨v, hv, rfl, hb⟩
    have hB := Bk.below (Bk.new w 27 #[.int .i64 0, .int .i64 0, .int .i64 0, .string ⟨#[]⟩, .slice none 0 0]) hb (by simp)
    have hd := Below.lift ((Below.refl w.heap.size w).alloc (Nat.le_refl _) _) (by simp) hb
    obtain ⟨q0, q1, q2, q3, q4, qf⟩ := hB.cells5
    have hz := hB.lt
    have HV := hid hv
    clear hb hv
    unfold svV sv
    go_wp2_with fail
    exact end_cell Tryz.results30 rfl (Bk.set5 hB _ _ _ _ _) Tryz.underlying27 rfl info_sv rfl
      ⟨v, HV.out, rfl, Below.set5 hd (Nat.le_refl _) _ _ _ _ _⟩

/-- the row of one flat value, just laid -/
theorem Sl.row1' (a : SV) (W : World) (t : TypeId) : Sl (W.alloc (.cells (svCells a).toArray t)) (W.alloc (.cells (svCells a).toArray t)).heap.size 5 (.slice (some ⟨W.heap.size, 0, none⟩) 1 1) 1 ([a].flatMap svCells) :=
  (Sl.lit (n := 1) (sz := 5) (Bk.new W t (svCells a).toArray) 1 rfl).cast rfl rfl
theorem argWhole_some (n : Int) (w : World) : Calls Tryz.prog 7 #[.int .i64 n] w fun e w' => ∃ v : SV, OkNum v ∧ e = .returned (svV v) ∧ Below w.heap.size w w' := by
  by_cases h : -99999999999 ≤ n ∧ n ≤ 99999999999
  · exact (argWhole_ok n w h.1 h.2).mono fun e w' ⟨h1, h2⟩ => ⟨(1, n, 1, es), .inr ⟨n, 1, rfl, .inl rfl, h.1, h.2⟩, h1, h2⟩
  · have h' : n < -99999999999 ∨ 99999999999 < n := by omega
    have Hh := hid h'
    clear h h'
    go_enter Tryz.func7, Tryz.ntmps7
    go_wp2_with fail
    refine (int_no n _ Hh.out).mono ?_
    rintro e w1 ⟨rfl, hb⟩
    obtain ⟨hc, hf⟩ := bcell hb
    unfold sv
    go_wp2_with fail
    exact end_cell Tryz.results7 rfl (Bk.set5 ((Bk.new w _ _).below hb (by simp)) _ _ _ _ _) Tryz.underlying27 rfl info_sv rfl
      ⟨(6, 0, 0, es), .inl rfl, rfl, Below.set5 (Below.lift ((Below.refl _ _).alloc (Nat.le_refl _) _) (by simp) hb) (Nat.le_refl _) _ _ _ _ _⟩

set_option maxRecDepth 100000 in
set_option maxHeartbeats 4000000 in
theorem argMade_some (k : Nat) (n : Int) (s : ByteArray) (hs : s.size ≤ 1000) (w : World) :
    Calls Tryz.prog 12 #[.int .u8 k, .int .i64 n, .string s] w fun e w' => ∃ v : SV, Good v ∧ e = .returned (svV v) ∧ Below w.heap.size w w' := by
  have hr : k % 6 = 0 ∨ k % 6 = 1 ∨ k % 6 = 2 ∨ k % 6 = 3 ∨ k % 6 = 4 ∨ k % 6 = 5 := by omega
  rcases hr with hr | hr | hr | hr | hr | hr
  · have h1 : (k : Int).tmod 6 = 0 := by
      have e : (k : Int).tmod 6 = ((k % 6 : Nat) : Int) := rfl
      rw [e, hr]; rfl
    have h2 : (k : Int) % 6 = 0 := by omega
    go_enter Tryz.func12, Tryz.ntmps12
    go_wp2_with fail
    exact end_cell Tryz.results12 rfl ((Bk.new w 27 #[.int .i64 0, .int .i64 0, .int .i64 0, .string ⟨#[]⟩, .slice none 0 0]).alloc (.cells #[.string ⟨#[35, 78, 85, 76, 76, 33]⟩, .string ⟨#[35, 68, 73, 86, 47, 48, 33]⟩, .string ⟨#[35, 86, 65, 76, 85, 69, 33]⟩, .string ⟨#[35, 82, 69, 70, 33]⟩, .string ⟨#[35, 78, 65, 77, 69, 63]⟩, .string ⟨#[35, 78, 85, 77, 33]⟩, .string ⟨#[35, 78, 47, 65]⟩] 9)) Tryz.underlying27 rfl info_sv rfl
      ⟨(0, 0, 0, es), .inl rfl, rfl, ((Below.refl w.heap.size w).alloc (Nat.le_refl _) _).alloc (by simp) _⟩
  · have h1 : (k : Int).tmod 6 = 1 := by
      have e : (k : Int).tmod 6 = ((k % 6 : Nat) : Int) := rfl
      rw [e, hr]; rfl
    have h2 : (k : Int) % 6 = 1 := by omega
    go_enter Tryz.func12, Tryz.ntmps12
    go_wp2_with fail
    refine (argWhole_some n _).mono ?_
    rintro e w1 ⟨v, hv, rfl, hb⟩
    have HV := hid hv
    clear hv
    have hB := Bk.below ((Bk.new w 27 #[.int .i64 0, .int .i64 0, .int .i64 0, .string ⟨#[]⟩, .slice none 0 0]).alloc (.cells #[.string ⟨#[35, 78, 85, 76, 76, 33]⟩, .string ⟨#[35, 68, 73, 86, 47, 48, 33]⟩, .string ⟨#[35, 86, 65, 76, 85, 69, 33]⟩, .string ⟨#[35, 82, 69, 70, 33]⟩, .string ⟨#[35, 78, 65, 77, 69, 63]⟩, .string ⟨#[35, 78, 85, 77, 33]⟩, .string ⟨#[35, 78, 47, 65]⟩] 9)) hb (by simp; omega)
    have hd := Below.lift (((Below.refl w.heap.size w).alloc (Nat.le_refl _) (.cells #[.int .i64 0, .int .i64 0, .int .i64 0, .string ⟨#[]⟩, .slice none 0 0] 27)).alloc (by simp) (.cells #[.string ⟨#[35, 78, 85, 76, 76, 33]⟩, .string ⟨#[35, 68, 73, 86, 47, 48, 33]⟩, .string ⟨#[35, 86, 65, 76, 85, 69, 33]⟩, .string ⟨#[35, 82, 69, 70, 33]⟩, .string ⟨#[35, 78, 65, 77, 69, 63]⟩, .string ⟨#[35, 78, 85, 77, 33]⟩, .string ⟨#[35, 78, 47, 65]⟩] 9)) (by simp; omega) hb
    obtain ⟨q0, q1, q2, q3, q4, qf⟩ := hB.cells5
    have hz := hB.lt
    clear hb
    unfold svV sv
    go_wp2_with fail
    exact end_cell Tryz.results12 rfl (Bk.set5 hB _ _ _ _ _) Tryz.underlying27 rfl info_sv rfl
      ⟨v, .inr (.inl HV.out), rfl, Below.set5 hd (Nat.le_refl _) _ _ _ _ _⟩
  · have h1 : (k : Int).tmod 6 = 2 := by
      have e : (k : Int).tmod 6 = ((k % 6 : Nat) : Int) := rfl
      rw [e, hr]; rfl
    have h2 : (k : Int) % 6 = 2 := by omega
    go_enter Tryz.func12, Tryz.ntmps12
    go_wp2_with fail
    refine (str_any s _).mono ?_
    rintro e w1 ⟨rfl, hb⟩
    have hB := Bk.below ((Bk.new w 27 #[.int .i64 0, .int .i64 0, .int .i64 0, .string ⟨#[]⟩, .slice none 0 0]).alloc (.cells #[.string ⟨#[35, 78, 85, 76, 76, 33]⟩, .string ⟨#[35, 68, 73, 86, 47, 48, 33]⟩, .string ⟨#[35, 86, 65, 76, 85, 69, 33]⟩, .string ⟨#[35, 82, 69, 70, 33]⟩, .string ⟨#[35, 78, 65, 77, 69, 63]⟩, .string ⟨#[35, 78, 85, 77, 33]⟩, .string ⟨#[35, 78, 47, 65]⟩] 9)) hb (by simp; omega)
    have hd := Below.lift (((Below.refl w.heap.size w).alloc (Nat.le_refl _) (.cells #[.int .i64 0, .int .i64 0, .int .i64 0, .string ⟨#[]⟩, .slice none 0 0] 27)).alloc (by simp) (.cells #[.string ⟨#[35, 78, 85, 76, 76, 33]⟩, .string ⟨#[35, 68, 73, 86, 47, 48, 33]⟩, .string ⟨#[35, 86, 65, 76, 85, 69, 33]⟩, .string ⟨#[35, 82, 69, 70, 33]⟩, .string ⟨#[35, 78, 65, 77, 69, 63]⟩, .string ⟨#[35, 78, 85, 77, 33]⟩, .string ⟨#[35, 78, 47, 65]⟩] 9)) (by simp; omega) hb
    obtain ⟨q0, q1, q2, q3, q4, qf⟩ := hB.cells5
    have hz := hB.lt
    clear hb
    unfold sv
    go_wp2_with fail
    exact end_cell Tryz.results12 rfl (Bk.set5 hB _ _ _ _ _) Tryz.underlying27 rfl info_sv rfl
      ⟨(2, 0, 0, s), .inr (.inr (.inl ⟨s, rfl, hs⟩)), rfl, Below.set5 hd (Nat.le_refl _) _ _ _ _ _⟩
  · obtain ⟨b, hb3⟩ : ∃ b, (n.tmod 2 != 0) = b := ⟨_, rfl⟩
    have h1 : (k : Int).tmod 6 = 3 := by
      have e : (k : Int).tmod 6 = ((k % 6 : Nat) : Int) := rfl
      rw [e, hr]; rfl
    have h2 : (k : Int) % 6 = 3 := by omega
    go_enter Tryz.func12, Tryz.ntmps12
    go_wp2_with fail
    refine (bool_any b _).mono ?_
    rintro e w1 ⟨rfl, hb⟩
    have hB := Bk.below ((Bk.new w 27 #[.int .i64 0, .int .i64 0, .int .i64 0, .string ⟨#[]⟩, .slice none 0 0]).alloc (.cells #[.string ⟨#[35, 78, 85, 76, 76, 33]⟩, .string ⟨#[35, 68, 73, 86, 47, 48, 33]⟩, .string ⟨#[35, 86, 65, 76, 85, 69, 33]⟩, .string ⟨#[35, 82, 69, 70, 33]⟩, .string ⟨#[35, 78, 65, 77, 69, 63]⟩, .string ⟨#[35, 78, 85, 77, 33]⟩, .string ⟨#[35, 78, 47, 65]⟩] 9)) hb (by simp; omega)
    have hd := Below.lift (((Below.refl w.heap.size w).alloc (Nat.le_refl _) (.cells #[.int .i64 0, .int .i64 0, .int .i64 0, .string ⟨#[]⟩, .slice none 0 0] 27)).alloc (by simp) (.cells #[.string ⟨#[35, 78, 85, 76, 76, 33]⟩, .string ⟨#[35, 68, 73, 86, 47, 48, 33]⟩, .string ⟨#[35, 86, 65, 76, 85, 69, 33]⟩, .string ⟨#[35, 82, 69, 70, 33]⟩, .string ⟨#[35, 78, 65, 77, 69, 63]⟩, .string ⟨#[35, 78, 85, 77, 33]⟩, .string ⟨#[35, 78, 47, 65]⟩] 9)) (by simp; omega) hb
    obtain ⟨q0, q1, q2, q3, q4, qf⟩ := hB.cells5
    have hz := hB.lt
    clear hb
    unfold sv
    go_wp2_with fail
    exact end_cell Tryz.results12 rfl (Bk.set5 hB _ _ _ _ _) Tryz.underlying27 rfl info_sv rfl
      ⟨(3, b2i b, 0, es), .inr (.inr (.inr (.inl ⟨b, rfl⟩))), rfl, Below.set5 hd (Nat.le_refl _) _ _ _ _ _⟩
  · have hu0 : 0 ≤ IntKind.u64.wrap n := by rw [IntKind.wrap_u64]; omega
    have ht0 : 0 ≤ (IntKind.u64.wrap n).tmod 7 := Int.tmod_nonneg _ hu0
    have ht1 : (IntKind.u64.wrap n).tmod 7 < 7 := Int.tmod_lt_of_pos _ (by omega)
    obtain ⟨i, hi⟩ : ∃ i, (IntKind.u64.wrap n).tmod 7 = i := ⟨_, rfl⟩
    rw [hi] at ht0 ht1
    have hc : i = 0 ∨ i = 1 ∨ i = 2 ∨ i = 3 ∨ i = 4 ∨ i = 5 ∨ i = 6 := by omega
    clear ht0 ht1 hu0
    rcases hc with rfl | rfl | rfl | rfl | rfl | rfl | rfl
    · have h1 : (k : Int).tmod 6 = 4 := by
        have e : (k : Int).tmod 6 = ((k % 6 : Nat) : Int) := rfl
        rw [e, hr]; rfl
      have h2 : (k : Int) % 6 = 4 := by omega
      go_enter Tryz.func12, Tryz.ntmps12
      go_wp2_with fail
      refine (err_any ⟨#[35, 78, 85, 76, 76, 33]⟩ _).mono ?_
      rintro e w1 ⟨rfl, hb⟩
      have hB := Bk.below ((Bk.new w 27 #[.int .i64 0, .int .i64 0, .int .i64 0, .string ⟨#[]⟩, .slice none 0 0]).alloc (.cells #[.string ⟨#[35, 78, 85, 76, 76, 33]⟩, .string ⟨#[35, 68, 73, 86, 47, 48, 33]⟩, .string ⟨#[35, 86, 65, 76, 85, 69, 33]⟩, .string ⟨#[35, 82, 69, 70, 33]⟩, .string ⟨#[35, 78, 65, 77, 69, 63]⟩, .string ⟨#[35, 78, 85, 77, 33]⟩, .string ⟨#[35, 78, 47, 65]⟩] 9)) hb (by simp; omega)
      have hd := Below.lift (((Below.refl w.heap.size w).alloc (Nat.le_refl _) (.cells #[.int .i64 0, .int .i64 0, .int .i64 0, .string ⟨#[]⟩, .slice none 0 0] 27)).alloc (by simp) (.cells #[.string ⟨#[35, 78, 85, 76, 76, 33]⟩, .string ⟨#[35, 68, 73, 86, 47, 48, 33]⟩, .string ⟨#[35, 86, 65, 76, 85, 69, 33]⟩, .string ⟨#[35, 82, 69, 70, 33]⟩, .string ⟨#[35, 78, 65, 77, 69, 63]⟩, .string ⟨#[35, 78, 85, 77, 33]⟩, .string ⟨#[35, 78, 47, 65]⟩] 9)) (by simp; omega) hb
      obtain ⟨q0, q1, q2, q3, q4, qf⟩ := hB.cells5
      have hz := hB.lt
      clear hb
      unfold sv
      go_wp2_with fail
      exact end_cell Tryz.results12 rfl (Bk.set5 hB _ _ _ _ _) Tryz.underlying27 rfl info_sv rfl
        ⟨(4, 0, 0, ⟨#[35, 78, 85, 76, 76, 33]⟩), .inr (.inr (.inr (.inr ⟨⟨#[35, 78, 85, 76, 76, 33]⟩, rfl⟩))), rfl, Below.set5 hd (Nat.le_refl _) _ _ _ _ _⟩
    · have h1 : (k : Int).tmod 6 = 4 := by
        have e : (k : Int).tmod 6 = ((k % 6 : Nat) : Int) := rfl
        rw [e, hr]; rfl
      have h2 : (k : Int) % 6 = 4 := by omega
      go_enter Tryz.func12, Tryz.ntmps12
      go_wp2_with fail
      refine (err_any ⟨#[35, 68, 73, 86, 47, 48, 33]⟩ _).mono ?_
      rintro e w1 ⟨rfl, hb⟩
      have hB := Bk.below ((Bk.new w 27 #[.int .i64 0, .int .i64 0, .int .i64 0, .string ⟨#[]⟩, .slice none 0 0]).alloc (.cells #[.string ⟨#[35, 78, 85, 76, 76, 33]⟩, .string ⟨#[35, 68, 73, 86, 47, 48, 33]⟩, .string ⟨#[35, 86, 65, 76, 85, 69, 33]⟩, .string ⟨#[35, 82, 69, 70, 33]⟩, .string ⟨#[35, 78, 65, 77, 69, 63]⟩, .string ⟨#[35, 78, 85, 77, 33]⟩, .string ⟨#[35, 78, 47, 65]⟩] 9)) hb (by simp; omega)
      have hd := Below.lift (((Below.refl w.heap.size w).alloc (Nat.le_refl _) (.cells #[.int .i64 0, .int .i64 0, .int .i64 0, .string ⟨#[]⟩, .slice none 0 0] 27)).alloc (by simp) (.cells #[.string ⟨#[35, 78, 85, 76, 76, 33]⟩, .string ⟨#[35, 68, 73, 86, 47, 48, 33]⟩, .string ⟨#[35, 86, 65, 76, 85, 69, 33]⟩, .string ⟨#[35, 82, 69, 70, 33]⟩, .string ⟨#[35, 78, 65, 77, 69, 63]⟩, .string ⟨#[35, 78, 85, 77, 33]⟩, .string ⟨#[35, 78, 47, 65]⟩] 9)) (by simp; omega) hb
      obtain ⟨q0, q1, q2, q3, q4, qf⟩ := hB.cells5
      have hz := hB.lt
      clear hb
      unfold sv
      go_wp2_with fail
      exact end_cell Tryz.results12 rfl (Bk.set5 hB _ _ _ _ _) Tryz.underlying27 rfl info_sv rfl
        ⟨(4, 0, 0, ⟨#[35, 68, 73, 86, 47, 48, 33]⟩), .inr (.inr (.inr (.inr ⟨⟨#[35, 68, 73, 86, 47, 48, 33]⟩, rfl⟩))), rfl, Below.set5 hd (Nat.le_refl _) _ _ _ _ _⟩
    · have h1 : (k : Int).tmod 6 = 4 := by
        have e : (k : Int).tmod 6 = ((k % 6 : Nat) : Int) := rfl
        rw [e, hr]; rfl
      have h2 : (k : Int) % 6 = 4 := by omega
      go_enter Tryz.func12, Tryz.ntmps12
      go_wp2_with fail
      refine (err_any ⟨#[35, 86, 65, 76, 85, 69, 33]⟩ _).mono ?_
      rintro e w1 ⟨rfl, hb⟩
      have hB := Bk.below ((Bk.new w 27 #[.int .i64 0, .int .i64 0, .int .i64 0, .string ⟨#[]⟩, .slice none 0 0]).alloc (.cells #[.string ⟨#[35, 78, 85, 76, 76, 33]⟩, .string ⟨#[35, 68, 73, 86, 47, 48, 33]⟩, .string ⟨#[35, 86, 65, 76, 85, 69, 33]⟩, .string ⟨#[35, 82, 69, 70, 33]⟩, .string ⟨#[35, 78, 65, 77, 69, 63]⟩, .string ⟨#[35, 78, 85, 77, 33]⟩, .string ⟨#[35, 78, 47, 65]⟩] 9)) hb (by simp; omega)
      have hd := Below.lift (((Below.refl w.heap.size w).alloc (Nat.le_refl _) (.cells #[.int .i64 0, .int .i64 0, .int .i64 0, .string ⟨#[]⟩, .slice none 0 0] 27)).alloc (by simp) (.cells #[.string ⟨#[35, 78, 85, 76, 76, 33]⟩, .string ⟨#[35, 68, 73, 86, 47, 48, 33]⟩, .string ⟨#[35, 86, 65, 76, 85, 69, 33]⟩, .string ⟨#[35, 82, 69, 70, 33]⟩, .string ⟨#[35, 78, 65, 77, 69, 63]⟩, .string ⟨#[35, 78, 85, 77, 33]⟩, .string ⟨#[35, 78, 47, 65]⟩] 9)) (by simp; omega) hb
      obtain ⟨q0, q1, q2, q3, q4, qf⟩ := hB.cells5
      have hz := hB.lt
      clear hb
      unfold sv
      go_wp2_with fail
      exact end_cell Tryz.results12 rfl (Bk.set5 hB _ _ _ _ _) Tryz.underlying27 rfl info_sv rfl
        ⟨(4, 0, 0, ⟨#[35, 86, 65, 76, 85, 69, 33]⟩), .inr (.inr (.inr (.inr ⟨⟨#[35, 86, 65, 76, 85, 69, 33]⟩, rfl⟩))), rfl, Below.set5 hd (Nat.le_refl _) _ _ _ _ _⟩
    · have h1 : (k : Int).tmod 6 = 4 := by
        have e : (k : Int).tmod 6 = ((k % 6 : Nat) : Int) := rfl
        rw [e, hr]; rfl
      have h2 : (k : Int) % 6 = 4 := by omega
      go_enter Tryz.func12, Tryz.ntmps12
      go_wp2_with fail
      refine (err_any ⟨#[35, 82, 69, 70, 33]⟩ _).mono ?_
      rintro e w1 ⟨rfl, hb⟩
      have hB := Bk.below ((Bk.new w 27 #[.int .i64 0, .int .i64 0, .int .i64 0, .string ⟨#[]⟩, .slice none 0 0]).alloc (.cells #[.string ⟨#[35, 78, 85, 76, 76, 33]⟩, .string ⟨#[35, 68, 73, 86, 47, 48, 33]⟩, .string ⟨#[35, 86, 65, 76, 85, 69, 33]⟩, .string ⟨#[35, 82, 69, 70, 33]⟩, .string ⟨#[35, 78, 65, 77, 69, 63]⟩, .string ⟨#[35, 78, 85, 77, 33]⟩, .string ⟨#[35, 78, 47, 65]⟩] 9)) hb (by simp; omega)
      have hd := Below.lift (((Below.refl w.heap.size w).alloc (Nat.le_refl _) (.cells #[.int .i64 0, .int .i64 0, .int .i64 0, .string ⟨#[]⟩, .slice none 0 0] 27)).alloc (by simp) (.cells #[.string ⟨#[35, 78, 85, 76, 76, 33]⟩, .string ⟨#[35, 68, 73, 86, 47, 48, 33]⟩, .string ⟨#[35, 86, 65, 76, 85, 69, 33]⟩, .string ⟨#[35, 82, 69, 70, 33]⟩, .string ⟨#[35, 78, 65, 77, 69, 63]⟩, .string ⟨#[35, 78, 85, 77, 33]⟩, .string ⟨#[35, 78, 47, 65]⟩] 9)) (by simp; omega) hb
      obtain ⟨q0, q1, q2, q3, q4, qf⟩ := hB.cells5
      have hz := hB.lt
      clear hb
      unfold sv
      go_wp2_with fail
      exact end_cell Tryz.results12 rfl (Bk.set5 hB _ _ _ _ _) Tryz.underlying27 rfl info_sv rfl
        ⟨(4, 0, 0, ⟨#[35, 82, 69, 70, 33]⟩), .inr (.inr (.inr (.inr ⟨⟨#[35, 82, 69, 70, 33]⟩, rfl⟩))), rfl, Below.set5 hd (Nat.le_refl _) _ _ _ _ _⟩
    · have h1 : (k : Int).tmod 6 = 4 := by
        have e : (k : Int).tmod 6 = ((k % 6 : Nat) : Int) := rfl
        rw [e, hr]; rfl
      have h2 : (k : Int) % 6 = 4 := by omega
      go_enter Tryz.func12, Tryz.ntmps12
      go_wp2_with fail
      refine (err_any ⟨#[35, 78, 65, 77, 69, 63]⟩ _).mono ?_
      rintro e w1 ⟨rfl, hb⟩
      have hB := Bk.below ((Bk.new w 27 #[.int .i64 0, .int .i64 0, .int .i64 0, .string ⟨#[]⟩, .slice none 0 0]).alloc (.cells #[.string ⟨#[35, 78, 85, 76, 76, 33]⟩, .string ⟨#[35, 68, 73, 86, 47, 48, 33]⟩, .string ⟨#[35, 86, 65, 76, 85, 69, 33]⟩, .string ⟨#[35, 82, 69, 70, 33]⟩, .string ⟨#[35, 78, 65, 77, 69, 63]⟩, .string ⟨#[35, 78, 85, 77, 33]⟩, .string ⟨#[35, 78, 47, 65]⟩] 9)) hb (by simp; omega)
      have hd := Below.lift (((Below.refl w.heap.size w).alloc (Nat.le_refl _) (.cells #[.int .i64 0, .int .i64 0, .int .i64 0, .string ⟨#[]⟩, .slice none 0 0] 27)).alloc (by simp) (.cells #[.string ⟨#[35, 78, 85, 76, 76, 33]⟩, .string ⟨#[35, 68, 73, 86, 47, 48, 33]⟩, .string ⟨#[35, 86, 65, 76, 85, 69, 33]⟩, .string ⟨#[35, 82, 69, 70, 33]⟩, .string ⟨#[35, 78, 65, 77, 69, 63]⟩, .string ⟨#[35, 78, 85, 77, 33]⟩, .string ⟨#[35, 78, 47, 65]⟩] 9)) (by simp; omega) hb
      obtain ⟨q0, q1, q2, q3, q4, qf⟩ := hB.cells5
      have hz := hB.lt
      clear hb
      unfold sv
      go_wp2_with fail
      exact end_cell Tryz.results12 rfl (Bk.set5 hB _ _ _ _ _) Tryz.underlying27 rfl info_sv rfl
        ⟨(4, 0, 0, ⟨#[35, 78, 65, 77, 69, 63]⟩), .inr (.inr (.inr (.inr ⟨⟨#[35, 78, 65, 77, 69, 63]⟩, rfl⟩))), rfl, Below.set5 hd (Nat.le_refl _) _ _ _ _ _⟩
    · have h1 : (k : Int).tmod 6 = 4 := by
        have e : (k : Int).tmod 6 = ((k % 6 : Nat) : Int) := rfl
        rw [e, hr]; rfl
      have h2 : (k : Int) % 6 = 4 := by omega
      go_enter Tryz.func12, Tryz.ntmps12
      go_wp2_with fail
      refine (err_any ⟨#[35, 78, 85, 77, 33]⟩ _).mono ?_
      rintro e w1 ⟨rfl, hb⟩
      have hB := Bk.below ((Bk.new w 27 #[.int .i64 0, .int .i64 0, .int .i64 0, .string ⟨#[]⟩, .slice none 0 0]).alloc (.cells #[.string ⟨#[35, 78, 85, 76, 76, 33]⟩, .string ⟨#[35, 68, 73, 86, 47, 48, 33]⟩, .string ⟨#[35, 86, 65, 76, 85, 69, 33]⟩, .string ⟨#[35, 82, 69, 70, 33]⟩, .string ⟨#[35, 78, 65, 77, 69, 63]⟩, .string ⟨#[35, 78, 85, 77, 33]⟩, .string ⟨#[35, 78, 47, 65]⟩] 9)) hb (by simp; omega)
      have hd := Below.lift (((Below.refl w.heap.size w).alloc (Nat.le_refl _) (.cells #[.int .i64 0, .int .i64 0, .int .i64 0, .string ⟨#[]⟩, .slice none 0 0] 27)).alloc (by simp) (.cells #[.string ⟨#[35, 78, 85, 76, 76, 33]⟩, .string ⟨#[35, 68, 73, 86, 47, 48, 33]⟩, .string ⟨#[35, 86, 65, 76, 85, 69, 33]⟩, .string ⟨#[35, 82, 69, 70, 33]⟩, .string ⟨#[35, 78, 65, 77, 69, 63]⟩, .string ⟨#[35, 78, 85, 77, 33]⟩, .string ⟨#[35, 78, 47, 65]⟩] 9)) (by simp; omega) hb
      obtain ⟨q0, q1, q2, q3, q4, qf⟩ := hB.cells5
      have hz := hB.lt
      clear hb
      unfold sv
      go_wp2_with fail
      exact end_cell Tryz.results12 rfl (Bk.set5 hB _ _ _ _ _) Tryz.underlying27 rfl info_sv rfl
        ⟨(4, 0, 0, ⟨#[35, 78, 85, 77, 33]⟩), .inr (.inr (.inr (.inr ⟨⟨#[35, 78, 85, 77, 33]⟩, rfl⟩))), rfl, Below.set5 hd (Nat.le_refl _) _ _ _ _ _⟩
    · have h1 : (k : Int).tmod 6 = 4 := by
        have e : (k : Int).tmod 6 = ((k % 6 : Nat) : Int) := rfl
        rw [e, hr]; rfl
      have h2 : (k : Int) % 6 = 4 := by omega
      go_enter Tryz.func12, Tryz.ntmps12
      go_wp2_with fail
      refine (err_any ⟨#[35, 78, 47, 65]⟩ _).mono ?_
      rintro e w1 ⟨rfl, hb⟩
      have hB := Bk.below ((Bk.new w 27 #[.int .i64 0, .int .i64 0, .int .i64 0, .string ⟨#[]⟩, .slice none 0 0]).alloc (.cells #[.string ⟨#[35, 78, 85, 76, 76, 33]⟩, .string ⟨#[35, 68, 73, 86, 47, 48, 33]⟩, .string ⟨#[35, 86, 65, 76, 85, 69, 33]⟩, .string ⟨#[35, 82, 69, 70, 33]⟩, .string ⟨#[35, 78, 65, 77, 69, 63]⟩, .string ⟨#[35, 78, 85, 77, 33]⟩, .string ⟨#[35, 78, 47, 65]⟩] 9)) hb (by simp; omega)
      have hd := Below.lift (((Below.refl w.heap.size w).alloc (Nat.le_refl _) (.cells #[.int .i64 0, .int .i64 0, .int .i64 0, .string ⟨#[]⟩, .slice none 0 0] 27)).alloc (by simp) (.cells #[.string ⟨#[35, 78, 85, 76, 76, 33]⟩, .string ⟨#[35, 68, 73, 86, 47, 48, 33]⟩, .string ⟨#[35, 86, 65, 76, 85, 69, 33]⟩, .string ⟨#[35, 82, 69, 70, 33]⟩, .string ⟨#[35, 78, 65, 77, 69, 63]⟩, .string ⟨#[35, 78, 85, 77, 33]⟩, .string ⟨#[35, 78, 47, 65]⟩] 9)) (by simp; omega) hb
      obtain ⟨q0, q1, q2, q3, q4, qf⟩ := hB.cells5
      have hz := hB.lt
      clear hb
      unfold sv
      go_wp2_with fail
      exact end_cell Tryz.results12 rfl (Bk.set5 hB _ _ _ _ _) Tryz.underlying27 rfl info_sv rfl
        ⟨(4, 0, 0, ⟨#[35, 78, 47, 65]⟩), .inr (.inr (.inr (.inr ⟨⟨#[35, 78, 47, 65]⟩, rfl⟩))), rfl, Below.set5 hd (Nat.le_refl _) _ _ _ _ _⟩
  · have h1 : (k : Int).tmod 6 = 5 := by
      have e : (k : Int).tmod 6 = ((k % 6 : Nat) : Int) := rfl
      rw [e, hr]; rfl
    have h2 : (k : Int) % 6 = 5 := by omega
    go_enter Tryz.func12, Tryz.ntmps12
    go_wp2_with fail
    refine (argPart_some n _).mono ?_
    rintro e w1 ⟨v, hv, rfl, hb⟩
    have HV := hid hv
    clear hv
    have hB := Bk.below ((Bk.new w 27 #[.int .i64 0, .int .i64 0, .int .i64 0, .string ⟨#[]⟩, .slice none 0 0]).alloc (.cells #[.string ⟨#[35, 78, 85, 76, 76, 33]⟩, .string ⟨#[35, 68, 73, 86, 47, 48, 33]⟩, .string ⟨#[35, 86, 65, 76, 85, 69, 33]⟩, .string ⟨#[35, 82, 69, 70, 33]⟩, .string ⟨#[35, 78, 65, 77, 69, 63]⟩, .string ⟨#[35, 78, 85, 77, 33]⟩, .string ⟨#[35, 78, 47, 65]⟩] 9)) hb (by simp; omega)
    have hd := Below.lift (((Below.refl w.heap.size w).alloc (Nat.le_refl _) (.cells #[.int .i64 0, .int .i64 0, .int .i64 0, .string ⟨#[]⟩, .slice none 0 0] 27)).alloc (by simp) (.cells #[.string ⟨#[35, 78, 85, 76, 76, 33]⟩, .string ⟨#[35, 68, 73, 86, 47, 48, 33]⟩, .string ⟨#[35, 86, 65, 76, 85, 69, 33]⟩, .string ⟨#[35, 82, 69, 70, 33]⟩, .string ⟨#[35, 78, 65, 77, 69, 63]⟩, .string ⟨#[35, 78, 85, 77, 33]⟩, .string ⟨#[35, 78, 47, 65]⟩] 9)) (by simp; omega) hb
    obtain ⟨q0, q1, q2, q3, q4, qf⟩ := hB.cells5
    have hz := hB.lt
    clear hb
    unfold svV sv
    go_wp2_with fail
    exact end_cell Tryz.results12 rfl (Bk.set5 hB _ _ _ _ _) Tryz.underlying27 rfl info_sv rfl
      ⟨v, .inr (.inl HV.out), rfl, Below.set5 hd (Nat.le_refl _) _ _ _ _ _⟩

set_option maxRecDepth 100000 in
set_option maxHeartbeats 1000000 in
theorem law_FnIsnumber (k : Nat) (n : Int) (s : ByteArray) (w : World) (hs : s.size ≤ maxLen) :
    Calls Tryz.prog 4 #[.int .u8 k, .int .i64 n, .string s] w fun e w' => e = .returned (.bool true) ∧ Below w.heap.size w w' := by
  unfold maxLen at hs
  by_cases h1 : 2147483647 < s.size
  · go_enter Tryz.func4, Tryz.ntmps4
    go_wp2_with fail
    go_ret
    exact ⟨rfl, Below.refl _ _⟩
  by_cases h2 : 1000 < s.size
  · go_enter Tryz.func4, Tryz.ntmps4
    go_wp2_with fail
    refine (short_no s _ _ _ ((Bk.new w _ #[.string s]).cell 0) h2).mono ?_
    rintro e w1 ⟨rfl, rfl⟩
    go_wp2_with fail
    go_ret
    exact ⟨rfl, (Below.refl _ _).alloc (Nat.le_refl _) _⟩
  go_enter Tryz.func4, Tryz.ntmps4
  go_wp2_with fail
  refine (short_yes s _ _ _ ((Bk.new w _ #[.string s]).cell 0) (by omega)).mono ?_
  rintro e w1 ⟨rfl, rfl⟩
  go_wp2_with fail
  refine (argMade_some k n s (by omega) _).mono ?_
  rintro e w2 ⟨v, hv, rfl, hb2⟩
  have hd2 : Below w.heap.size w w2 := Below.lift ((Below.refl _ _).alloc (Nat.le_refl _) _) (by simp) hb2
  have HV := hid hv
  clear hb2 hv
  unfold svV sv
  go_wp2_with fail
  refine (agree_ISNUMBER v HV.out _ _ _ (Sl.row1' v w2 27)).mono ?_
  rintro e w3 ⟨rfl, hb3⟩
  have hd3 : Below w.heap.size w w3 := Below.lift (hd2.alloc hd2.size _) (by have := hd2.size; simp; omega) hb3
  go_wp2_with fail
  go_ret
  exact ⟨rfl, hd3⟩
end Go.Proofs.YtjnlghokhlmjlaaGreatDoor
