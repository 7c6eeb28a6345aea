import Derived.Test.YtndabbepepbnmaaGreatDoorCase0
import Derived.Test.YtndabbepepbnmaaGreatDoorAscii
import Derived.Test.YtndabbepepbnmaaGreatDoorBuf
import Derived.Lib.OthersKept
import Derived.Lib.BufferRead
import Derived.Laws.Runes
namespace Go.Proofs.YtndabbepepbnmaaGreatDoor
open Go.RowKit
attribute [local go_sem] run_store_float

theorem runeLen_ascii (r : Int) (h0 : 0 ≤ r) (h1 : r < 128) (w : World) : Calls Tryz.prog 193 #[.int .i32 r] w fun e w' => e = .returned (.int .i64 1) ∧ w = w' := by
  go_enter Tryz.func193, Tryz.ntmps193
  go_wp2_with fail
  go_ret
  exact ⟨rfl, rfl⟩

/-- a text from blank to tilde has as many UTF-16 units as bytes -/
theorem count_any (s : ByteArray) (hp : Plain s) (hs : s.size ≤ 100000) (w : World) :
    Calls Tryz.prog 166 #[.string s] w fun e w' => e = .returned (.int .i64 s.size) ∧ Below w.heap.size w w' := by
  have HP := hid hp
  clear hp
  go_enter Tryz.func166, Tryz.ntmps166
  go_wp2
  go_loopw [3] (fun c wr => ∃ pos : Nat, pos ≤ s.size ∧ c = .int .i64 pos ∧ wr.heap[w.heap.size]? = some (.stringIter s pos) ∧ Below w.heap.size w wr) (fun _ wr => s.size - wr.iterPos w.heap.size)
  case atStart => exact ⟨0, by omega, rfl, World.iter_heap w s 0, (Below.refl _ _).alloc (Nat.le_refl _) _⟩
  case round =>
    obtain ⟨pos, hpos, rfl, hit, hb⟩ := hrel
    by_cases hlt : pos < s.size
    · have hb1 := HP.out pos (s[pos]'hlt) (by rw [Array.getElem?_toList]; exact Array.getElem?_eq_getElem hlt)
      have hnx : ∀ ty, (Instr.next (.pointer (some ⟨w.heap.size, 0, none⟩)) true ty).run Tryz.prog wr = _ := fun ty => Lib.run_next_ascii_at wr w.heap.size s pos ty hit hlt (by omega)
      have hit2 := Lib.iterAt_heap wr w.heap.size s pos (pos + 1) hit
      have hb2 := Lib.below_iterAt hb (k := w.heap.size) (by omega) s (pos + 1)
      generalize ((s[pos]'hlt).toNat) = b at *
      obtain ⟨hb3, hb4⟩ := hb1
      go_wp2_with fail
      refine (runeLen_ascii (b : Int) (by omega) (by omega) _).mono ?_
      rintro e w1 ⟨rfl, rfl⟩
      clear hnx
      go_wp2_with fail
      go_roundw
      case rel => exact ⟨pos + 1, by omega, by go_num, hit2, hb2⟩
      case measure =>
        simp only [World.iterPos, hit2, hit]
        omega
    · have hnx : ∀ ty, (Instr.next (.pointer (some ⟨w.heap.size, 0, none⟩)) true ty).run Tryz.prog wr = _ := fun ty => Lib.run_next_end_at wr w.heap.size s pos ty hit hlt
      have he : pos = s.size := by omega
      subst he
      go_wp2_with fail
      go_ret
      exact ⟨rfl, hb⟩

set_option maxRecDepth 100000 in
theorem Fn_LEN (s : ByteArray) (hp : Plain s) (hs : s.size ≤ 100000) : Fn 128 ([((2, 0, 0, s) : SV)].map avOf) (.num (enc (s.size : Int) 0)) := by
  intro w g L el h
  simp only [List.map_cons, List.map_nil] at h
  rw [avI_str] at h
  obtain ⟨f, hf, hflt, hv⟩ := h.at_ (i := 0) rfl
  unfold fa at hv
  have hta := fun (u : Value) wx => run_typeAssert_struct (P := Tryz.prog) 78 20 u wx Tryz.underlying78
  have H := hid h
  have Hf := hid hf
  have HP := hid hp
  clear h hf hp
  go_enter Tryz.func128, Tryz.ntmps128
  go_wp2_with fail
  refine (len_any (H.out.keep ((Below.refl _ _).alloc (Nat.le_refl _) _))).mono ?_
  rintro e w1 ⟨rfl, rfl⟩
  go_wp2_with fail
  refine (front_any (H.out.keep ((Below.refl _ _).alloc (Nat.le_refl _) _)) Hf.out).mono ?_
  rintro e w1 ⟨rfl, rfl⟩
  go_wp2_with fail
  refine (value_str s _).mono ?_
  rintro e w1 ⟨rfl, hb1⟩
  have hz1 : w.heap.size < w1.heap.size := by have := hb1.size; simp at this; omega
  have hB1 := Bk.below (Bk.new w 78 #[.string ⟨#[]⟩, .float .f64 0, .string ⟨#[]⟩, .slice none 0 0, .slice none 0 0, .bool false, .string ⟨#[]⟩, .int .u8 0, .pointer none, .pointer none]) hb1 (by simp)
  have hd1 : Below w.heap.size w w1 := Below.lift ((Below.refl _ _).alloc (Nat.le_refl _) _) (by simp) hb1
  clear hb1
  go_wp2_with fail
  refine (count_any s HP.out hs _).mono ?_
  rintro e w2 ⟨rfl, hb2⟩
  have hB2 := hB1.below hb2 (by omega)
  have hd2 := Below.lift hd1 (by omega) hb2
  have hz2 : w.heap.size < w2.heap.size := by have := hb2.size; omega
  clear hb2 hB1 hd1
  go_wp2_with fail
  rw [floatOfInt_enc]
  refine (newNumber_any _ _ (fin_enc (s.size : Int) 0 (by omega) (by omega))).mono ?_
  rintro e w3 ⟨rfl, hb3⟩
  rw [nz_whole _ (by omega)]
  have hB3 := hB2.below hb3 (by omega)
  have hd3 := Below.lift hd2 (by omega) hb3
  obtain ⟨q0, q1, q2, q3, q4, q5, q6, q7, q8, q9, qf⟩ := hB3.cells10
  clear hb3 hB2 hd2
  unfold fa
  go_wp2_with fail
  exact end_cell Tryz.results128 rfl (Bk.set10 hB3 _ _ _ _ _ _ _ _ _ _) Tryz.underlying78 rfl info_fa rfl
    ⟨rfl, Below.set10 hd3 (Nat.le_refl _) _ _ _ _ _ _ _ _ _ _⟩

/-- a text, n times -/
def repL (l : List UInt8) (n : Nat) : List UInt8 := (List.replicate n l).flatten
def rep (s : ByteArray) (n : Nat) : ByteArray := ⟨(repL s.data.toList n).toArray⟩
theorem repL_succ (l : List UInt8) (n : Nat) : repL l (n + 1) = repL l n ++ l := by
  unfold repL
  rw [List.replicate_succ', List.flatten_append, List.flatten_singleton]
theorem repL_length (l : List UInt8) (n : Nat) : (repL l n).length = n * l.length := by
  induction n with
  | zero => simp [repL]
  | succ n ih => rw [repL_succ, List.length_append, ih, Nat.add_mul, Nat.one_mul]
theorem rep_size (s : ByteArray) (n : Nat) : (rep s n).size = n * s.size := by
  show (repL s.data.toList n).toArray.size = _
  rw [List.size_toArray, repL_length, Array.length_toList]; rfl
theorem rep_plain (s : ByteArray) (n : Nat) (h : Plain s) : Plain (rep s n) := by
  intro j b hj
  have hm : b ∈ repL s.data.toList n := List.mem_of_getElem? (by simpa [rep] using hj)
  unfold repL at hm
  obtain ⟨l, hl, hb⟩ := List.mem_flatten.1 hm
  rw [List.eq_of_mem_replicate hl] at hb
  obtain ⟨i, hi⟩ := List.getElem?_of_mem hb
  exact h i b hi

theorem buf_old {T e : TypeId} {B b : Nat} {bs : List Value} {w w' : World} (h : Lib.IsBuffer T e B b bs w) (hb : Below w.heap.size w w') : Lib.IsBuffer T e B b bs w' := by
  have hlt := h.lt
  obtain ⟨hB, v, lr, hbk, hown, hne⟩ := h
  exact ⟨hB, v, lr, (hb.block b hlt).trans hbk, own_keep hown hb, hne⟩

theorem REPT_zero (s : ByteArray) (w : World) (g L : Nat) (el : List Nat) (h : IsL w L el [.iface 78 (fa 0 s false es 2), .iface 78 (fa 0 es false es 1)]) :
    Calls Tryz.prog 129 #[ptr g, ptr L] w fun e w' => e = .returned (fa 0 es false es 2) ∧ Below w.heap.size w w' := by
  obtain ⟨f0, hf0, hlt0, hv0⟩ := h.at_ (i := 0) rfl
  obtain ⟨f1, hf1, hlt1, hv1⟩ := h.at_ (i := 1) rfl
  unfold fa at hv0 hv1
  have hta := fun (u : Value) wx => run_typeAssert_struct (P := Tryz.prog) 78 20 u wx Tryz.underlying78
  have h00 : (FloatKind.f64.format.order 0 0 == some .eq) = true := by rw [order_zero0]; rfl
  have h01 : (FloatKind.f64.format.order 0 0 == some .lt) = false := by rw [order_zero0]; rfl
  have H := hid h
  have Hf0 := hid hf0
  have Hf1 := hid hf1
  clear h hf0 hf1
  go_enter Tryz.func129, Tryz.ntmps129
  go_wp2_with fail
  refine (len_any (H.out.keep ((Below.refl _ _).alloc (Nat.le_refl _) _))).mono ?_
  rintro e w1 ⟨rfl, rfl⟩
  go_wp2_with fail
  refine (front_any (H.out.keep ((Below.refl _ _).alloc (Nat.le_refl _) _)) Hf0.out).mono ?_
  rintro e w1 ⟨rfl, rfl⟩
  go_wp2_with fail
  refine (back_any (H.out.keep (((Below.refl _ _).alloc (Nat.le_refl _) _).alloc (by simp) _)) Hf1.out (by simp)).mono ?_
  rintro e w1 ⟨rfl, rfl⟩
  go_wp2_with fail
  refine (toNumber_num 0 es false es _ fin_zero).mono ?_
  rintro e w1 ⟨rfl, hb1⟩
  rw [show nz 0 = 0 by unfold nz; rw [order_zero0]; simp]
  have hz1 : w.heap.size < w1.heap.size := by have := hb1.size; simp at this; omega
  have hB1 := Bk.below ((Bk.new w 78 #[.string ⟨#[]⟩, .float .f64 0, .string ⟨#[]⟩, .slice none 0 0, .slice none 0 0, .bool false, .string ⟨#[]⟩, .int .u8 0, .pointer none, .pointer none]).alloc (.cells #[.string es, .float .f64 0, .string s, .slice none 0 0, .slice none 0 0, .bool false, .string es, .int .u8 2, .pointer none, .pointer none] 78)) hb1 (by simp; omega)
  have hd1 : Below w.heap.size w w1 := Below.lift (((Below.refl _ _).alloc (Nat.le_refl _) _).alloc (by simp) _) (by simp; omega) hb1
  clear hb1
  unfold fa
  go_wp2_with fail
  have hB2 := hB1.alloc (.cells #[.string es, .float .f64 0, .string es, .slice none 0 0, .slice none 0 0, .bool false, .string es, .int .u8 1, .pointer none, .pointer none] 78)
  have hd2 := hd1.alloc (by omega) (.cells #[.string es, .float .f64 0, .string es, .slice none 0 0, .slice none 0 0, .bool false, .string es, .int .u8 1, .pointer none, .pointer none] 78)
  refine (newString_any _ _).mono ?_
  rintro e w4 ⟨rfl, hb4⟩
  have hB4 := hB2.below hb4 (by simp; omega)
  have hd4 := Below.lift hd2 (by simp; omega) hb4
  obtain ⟨q0, q1, q2, q3, q4, q5, q6, q7, q8, q9, qf⟩ := hB4.cells10
  clear hb4 hB2 hd2
  unfold fa
  go_wp2_with fail
  exact end_cell Tryz.results129 rfl (Bk.set10 hB4 _ _ _ _ _ _ _ _ _ _) Tryz.underlying78 rfl info_fa rfl
    ⟨rfl, Below.set10 hd4 (Nat.le_refl _) _ _ _ _ _ _ _ _ _ _⟩

set_option maxRecDepth 100000 in
set_option maxHeartbeats 1000000 in
theorem REPT_some (s : ByteArray) (n : Nat) (hn0 : 1 ≤ n) (hn : n ≤ 100) (hs : s.size ≤ 100) (w : World) (g L : Nat) (el : List Nat) (h : IsL w L el [.iface 78 (fa 0 s false es 2), .iface 78 (fa (enc (n : Int) 0) es false es 1)]) :
    Calls Tryz.prog 129 #[ptr g, ptr L] w fun e w' => e = .returned (fa 0 (rep s n) false es 2) ∧ Below w.heap.size w w' := by
  obtain ⟨f0, hf0, hlt0, hv0⟩ := h.at_ (i := 0) rfl
  obtain ⟨f1, hf1, hlt1, hv1⟩ := h.at_ (i := 1) rfl
  unfold fa at hv0 hv1
  have hta := fun (u : Value) wx => run_typeAssert_struct (P := Tryz.prog) 78 20 u wx Tryz.underlying78
  have hord := order_zero (n : Int) 0 (by omega) (by omega)
  rw [Int.compare_eq_gt.2 (show (0 : Int) < (n : Int) by omega)] at hord
  have h00 : (FloatKind.f64.format.order (enc (n : Int) 0) 0 == some .eq) = false := by rw [hord]; rfl
  have h01 : (FloatKind.f64.format.order (enc (n : Int) 0) 0 == some .lt) = false := by rw [hord]; rfl
  have Hto := hid (fun wx => run_convert_float_int (P := Tryz.prog) wx 39 3 .f64 .i64 (enc (n : Int) 0) (n : Int) (by kernel_rfl) Tryz.underlying3 (toInt_enc0 (n : Int) (by omega)))
  have HX := hid (toNumber_whole (n : Int) (by omega))
  have H := hid h
  have Hf0 := hid hf0
  have Hf1 := hid hf1
  clear h hf0 hf1 hord
  generalize enc (n : Int) 0 = x at *
  go_enter Tryz.func129, Tryz.ntmps129
  go_wp2_with fail
  refine (len_any (H.out.keep ((Below.refl _ _).alloc (Nat.le_refl _) _))).mono ?_
  rintro e w1 ⟨rfl, rfl⟩
  go_wp2_with fail
  refine (front_any (H.out.keep ((Below.refl _ _).alloc (Nat.le_refl _) _)) Hf0.out).mono ?_
  rintro e w1 ⟨rfl, rfl⟩
  go_wp2_with fail
  refine (back_any (H.out.keep (((Below.refl _ _).alloc (Nat.le_refl _) _).alloc (by simp) _)) Hf1.out (by simp)).mono ?_
  rintro e w1 ⟨rfl, rfl⟩
  go_wp2_with fail
  refine (HX.out _).mono ?_
  rintro e w1 ⟨rfl, hb1⟩
  have hz1 : w.heap.size + 1 < w1.heap.size := by have := hb1.size; simp at this; omega
  have hB1 := Bk.below ((Bk.new w 78 #[.string ⟨#[]⟩, .float .f64 0, .string ⟨#[]⟩, .slice none 0 0, .slice none 0 0, .bool false, .string ⟨#[]⟩, .int .u8 0, .pointer none, .pointer none]).alloc (.cells #[.string es, .float .f64 0, .string s, .slice none 0 0, .slice none 0 0, .bool false, .string es, .int .u8 2, .pointer none, .pointer none] 78)) hb1 (by simp; omega)
  have hT1 := Bk.below (Bk.new_at (w := w.alloc (.cells #[.string ⟨#[]⟩, .float .f64 0, .string ⟨#[]⟩, .slice none 0 0, .slice none 0 0, .bool false, .string ⟨#[]⟩, .int .u8 0, .pointer none, .pointer none] 78)) (t := 78) (cs := #[.string es, .float .f64 0, .string s, .slice none 0 0, .slice none 0 0, .bool false, .string es, .int .u8 2, .pointer none, .pointer none]) (g := w.heap.size + 1) (by simp)) hb1 (by simp)
  have hd1 : Below w.heap.size w w1 := Below.lift (((Below.refl _ _).alloc (Nat.le_refl _) _).alloc (by simp) _) (by simp; omega) hb1
  clear hb1
  unfold fa
  go_wp2_with fail
  have hB2 := hB1.alloc (.cells #[.string es, .float .f64 x, .string es, .slice none 0 0, .slice none 0 0, .bool false, .string es, .int .u8 1, .pointer none, .pointer none] 78)
  have hT2 := hT1.alloc (.cells #[.string es, .float .f64 x, .string es, .slice none 0 0, .slice none 0 0, .bool false, .string es, .int .u8 1, .pointer none, .pointer none] 78)
  have hX2 := Bk.new w1 78 #[.string es, .float .f64 x, .string es, .slice none 0 0, .slice none 0 0, .bool false, .string es, .int .u8 1, .pointer none, .pointer none]
  have hd2 := hd1.alloc (by omega) (.cells #[.string es, .float .f64 x, .string es, .slice none 0 0, .slice none 0 0, .bool false, .string es, .int .u8 1, .pointer none, .pointer none] 78)
  have hz2 : (w1.alloc (.cells #[.string es, .float .f64 x, .string es, .slice none 0 0, .slice none 0 0, .bool false, .string es, .int .u8 1, .pointer none, .pointer none] 78)).heap.size = w1.heap.size + 1 := by simp
  clear hB1 hT1 hd1
  generalize w1.alloc (.cells #[.string es, .float .f64 x, .string es, .slice none 0 0, .slice none 0 0, .bool false, .string es, .int .u8 1, .pointer none, .pointer none] 78) = W at *
  go_loopw [8] (fun i wr => ∃ k : Nat, k ≤ n ∧ i = .int .i64 k ∧ Lib.IsBuffer 132 5 W.heap.size W.heap.size (Lib.byteCells (repL s.data.toList k)) wr ∧ Below W.heap.size W wr) (fun i _ => n - (intOf i).toNat)
  case atStart => exact ⟨0, by omega, rfl, Lib.fresh_isBuffer _ _ W, (Below.refl _ _).alloc (Nat.le_refl _) _⟩
  case round =>
    obtain ⟨k, hk, rfl, hI, hb⟩ := hrel
    have hTr := hT2.below hb (by omega)
    have hXr := hX2.below hb (by omega)
    have hBr := hB2.below hb (by omega)
    have hzr : W.heap.size ≤ wr.heap.size := hb.size
    have HI := hid hI
    clear hI hT2 hX2 hB2
    obtain ⟨t0, t1, t2, t3, t4, t5, t6, t7, t8, t9, tf⟩ := hTr.cells10
    have x1 : wr.cell? ⟨w1.heap.size, 1, none⟩ = some (.float .f64 x) := hXr.cell 1
    have hto := Hto.out
    by_cases hlt : k < n
    · clear hBr
      go_wp2_with fail
      clear hto
      refine (value_str s _).mono ?_
      rintro e w2 ⟨rfl, hb2⟩
      have hI2 := buf_old HI.out hb2
      have hd3 := Below.lift hb hb.size hb2
      clear hb2
      go_wp2_with fail
      rw [hz2] at hI2
      refine (Tryz.Buffer_WriteString_k (w1.heap.size + 1) (w1.heap.size + 1) _ s _ hI2 (by have := hd3.size; omega) (Lib.byteCells_one _) (by
        rw [Lib.byteCells_length, repL_length, Array.length_toList]
        have h1 : k * s.data.size ≤ 100 * 100 := Nat.mul_le_mul (by omega) hs
        have h2 : s.size ≤ 100 := hs
        omega)).mono ?_
      rintro e w3 ⟨rfl, hI3, hb3, _⟩
      rw [← hz2] at hI3 hb3
      have HI3 : Hid (Lib.IsBuffer 132 5 W.heap.size W.heap.size (Lib.byteCells (repL s.data.toList (k + 1))) w3) := by
        show Lib.IsBuffer _ _ _ _ _ _
        rw [repL_succ, Lib.byteCells_append]; exact hI3
      have hd4 := hd3.trans hb3
      clear hI3 hb3 hd3 hI2
      go_wp2_with fail
      go_roundw
      case rel => exact ⟨k + 1, by omega, by go_num, HI3.out, hd4⟩
      case measure => simp [intOf]; omega
    · have hkn : k = n := by omega
      subst hkn
      go_wp2_with fail
      clear hto
      refine (Tryz.Buffer_String (w1.heap.size + 1) (w1.heap.size + 1) (repL s.data.toList k) _ (by rw [← hz2]; exact HI.out)).mono ?_
      rintro e w2 ⟨rfl, m, rfl⟩
      have hbm : Below wr.heap.size wr (wr.drewN m) := ⟨rfl, rfl, rfl, Nat.le_refl _, fun _ _ => rfl⟩
      have hB3 := hBr.below hbm (by omega)
      have hd3 := Below.lift (hd2.trans (hb.mono (by omega))) (by omega) hbm
      have hz3 : (wr.drewN m).heap.size = wr.heap.size := rfl
      generalize wr.drewN m = V at *
      clear t0 t1 t2 t3 t4 t5 t6 t7 t8 t9 tf x1 hbm
      go_wp2_with fail
      refine (newString_any _ _).mono ?_
      rintro e w4 ⟨rfl, hb4⟩
      have hB4 := hB3.below hb4 (by omega)
      have hd4 := Below.lift hd3 (by omega) hb4
      have hz4 : w.heap.size < w4.heap.size := by have := hb4.size; omega
      obtain ⟨q0, q1, q2, q3, q4, q5, q6, q7, q8, q9, qf⟩ := hB4.cells10
      clear hb4 hB3 hd3
      rw [show (⟨(repL s.data.toList k).toArray⟩ : ByteArray) = rep s k from rfl]
      unfold fa
      go_wp2_with fail
      exact end_cell Tryz.results129 rfl (Bk.set10 hB4 _ _ _ _ _ _ _ _ _ _) Tryz.underlying78 rfl info_fa rfl
        ⟨rfl, Below.set10 hd4 (Nat.le_refl _) _ _ _ _ _ _ _ _ _ _⟩

theorem Fn_REPT (s : ByteArray) (n : Nat) (hn : n ≤ 100) (hs : s.size ≤ 100) : Fn 129 ([((2, 0, 0, s) : SV), (1, (n : Int), 1, es)].map avOf) (.str (rep s n)) := by
  intro w g L el h
  simp only [List.map_cons, List.map_nil] at h
  rw [avI_str, avI_whole _ (by omega)] at h
  rcases Nat.eq_zero_or_pos n with h0 | h0
  · subst h0
    rw [show ((0 : Nat) : Int) = 0 from rfl, enc_zero] at h
    exact REPT_zero s w g L el h
  · exact REPT_some s n h0 hn hs w g L el h
end Go.Proofs.YtndabbepepbnmaaGreatDoor
