import Derived.Test.YtdanlcciefbboaaGreatMode
import Derived.Test.YtdanlcciefbboaaGreatMiss
import Derived.Test.YtdanlcciefbboaaGreatWith
namespace Go.Proofs.YtdanlcciefbboaaGreat
open Go.RowKit
attribute [local go_sem] run_store_float

set_option maxRecDepth 100000 in
theorem numeric_mat (n d : Int) (t : ByteArray) (A : Option Addr) (m c : Nat) (w : World) : Calls Tryz.prog 127 #[.agg #[.int .i64 5, .int .i64 n, .int .i64 d, .string t, .slice A m c]] w fun e w' => e = .returned (.bool false) ∧ Below w.heap.size w w' := by
  go_enter Tryz.func127, Tryz.ntmps127
  go_wp2_with fail
  go_ret
  exact ⟨rfl, (Below.refl _ _).alloc (Nat.le_refl _) _⟩

set_option maxRecDepth 100000 in
theorem every_mat (v : Value) (w : World) (h : First5 w v) :
    Calls Tryz.prog 126 #[v, .func (.func 127) #[] #[]] w fun e w' => e = .returned (.bool false) ∧ Below w.heap.size w w' := by
  obtain ⟨b, o, N, c, n, d, t, A, m, k, rfl, hN, hN2, hb, g0, g1, g2, g3, g4⟩ := h
  have hNI : (0 : Int) < (N : Int) := by omega
  go_enter Tryz.func126, Tryz.ntmps126
  go_wp2_with fail
  go_loopw [5] (fun i wr => i = .int .i64 0 ∧ wr = w) (fun _ _ => 0)
  case atStart => exact ⟨rfl, rfl⟩
  case round =>
    obtain ⟨rfl, rfl⟩ := hrel
    go_wp2_with fail
    refine (numeric_mat _ _ _ _ _ _ _).mono ?_
    rintro e w2 ⟨rfl, hb2⟩
    go_wp2_with fail
    go_ret
    exact ⟨rfl, hb2⟩

set_option maxRecDepth 100000 in
theorem fitsNumbers_MODE (v : Value) (w : World) (h : First5 w v) :
    Calls Tryz.prog 52 #[.string ⟨#[77, 79, 68, 69]⟩, v] w fun e w' => e = .returned (.tuple #[.bool false, .bool false]) ∧ Below w.heap.size w w' := by
  have HE := hid (every_mat v w h)
  obtain ⟨b, o, N, c, n, d, t, A, m, k, rfl, _⟩ := h
  go_enter Tryz.func52, Tryz.ntmps52
  go_wp2_with fail
  refine HE.out.mono ?_
  rintro e w1 ⟨rfl, hb⟩
  go_wp2_with fail
  go_ret2
  exact ⟨rfl, hb⟩

set_option maxRecDepth 100000 in
theorem fitsChoices_MODE (A : Option Addr) (n c : Nat) (w : World) :
    Calls Tryz.prog 54 #[.string ⟨#[77, 79, 68, 69]⟩, .slice A n c] w fun e w' => e = .returned (.tuple #[.bool false, .bool false]) ∧ Below w.heap.size w w' := by
  go_enter Tryz.func54, Tryz.ntmps54
  go_wp2_with fail
  go_ret2
  exact ⟨rfl, (Below.refl _ _).alloc (Nat.le_refl _) _⟩

set_option maxRecDepth 100000 in
theorem others_MODE (w : World) : Calls Tryz.prog 55 #[.string ⟨#[77, 79, 68, 69]⟩] w fun e w' => e = .returned (.bool true) ∧ w = w' := by
  go_enter Tryz.func55, Tryz.ntmps55
  go_wp2_with fail
  go_ret
  exact ⟨rfl, rfl⟩

set_option maxRecDepth 100000 in
theorem Fits_MODE (v : Value) (w : World) (h : First5 w v) :
    Calls Tryz.prog 32 #[.string ⟨#[77, 79, 68, 69]⟩, v] w fun e w' => e = .returned (.bool true) ∧ Below w.heap.size w w' := by
  have HE := hid (fitsNumbers_MODE v w h)
  obtain ⟨b, o, N, c, n, d, t, A, m, k, rfl, _⟩ := h
  go_enter Tryz.func32, Tryz.ntmps32
  go_wp2_with fail
  refine HE.out.mono ?_
  rintro e w1 ⟨rfl, hb1⟩
  go_wp2_with fail
  refine (fitsTexts_miss_MODE _ _ _ _).mono ?_
  rintro e w2 ⟨rfl, rfl⟩
  go_wp2_with fail
  refine (fitsChoices_MODE _ _ _ _).mono ?_
  rintro e w2 ⟨rfl, hb2⟩
  go_wp2_with fail
  refine (others_MODE _).mono ?_
  rintro e w3 ⟨rfl, rfl⟩
  go_wp2_with fail
  go_ret
  exact ⟨rfl, Below.lift hb1 hb1.size hb2⟩

/-- what the reference says of MODE of arguments: nothing, or what mode says of their numbers -/
def refAns (ms : List SM) (a : SV) : Prop := a.1 = 6 ∨ ((∀ m ∈ ms, mArg m) ∧ modeAns (numsOf (flatM ms)) a)

/-- arguments that lie in memory -/
structure ArgsM (w : World) (ms : List SM) (A : Option Addr) (c : Nat) : Prop where
  cap : ms.length ≤ c
  mem : SlM w (fun b => b < w.heap.size) 5 smCells 5 svCells (.slice A ms.length c) ms
theorem ArgsM.keep {w w' : World} {ms : List SM} {A : Option Addr} {c : Nat} (h : ArgsM w ms A c) (hb : Below w.heap.size w w') : ArgsM w' ms A c := ⟨h.cap, h.mem.below hb hb.size⟩
/-- arguments that may be asked for -/
structure Asked (ms : List SM) : Prop where
  ok : ∀ m ∈ ms, fmOk m
  len : ms.length ≤ 1000
  pos : 0 < ms.length
  rows : ∀ m ∈ ms, m.2.length ≤ 1000
  tot : (flatM ms).length ≤ 100000
  good : ∀ a ∈ flatM ms, valG a
theorem valG.text {a : SV} (h : valG a) : a.1 = 2 → a.2.2.2.size ≤ 2147483647 := by
  intro h2
  rcases h with h | h | h | h
  · have := h.1; omega
  · omega
  · omega
  · exact h.2

set_option maxRecDepth 100000 in
set_option maxHeartbeats 1000000 in
theorem calmly_MODE (ms : List SM) (hA : Asked ms) (htx : ∀ a ∈ flatM ms, a.2.2.2.size ≤ 2147483647) (A : Option Addr) (c : Nat) (w : World) (h : ArgsM w ms A c) :
    Calls Tryz.prog 62 #[.slice A ms.length c, .bool false, .func (.func 65) #[] #[]] w fun e w' => ∃ a : SV, e = .returned (svV a) ∧ refAns ms a ∧ Below w.heap.size w w' := by
  have HM := hid (fun wx (hx : ArgsM wx ms A c) => middle_any ms A c hx.cap wx hx.mem hA.ok hA.len hA.pos hA.rows hA.tot htx)
  have HL := hid (fun (A' : Option Addr) (n' c' : Nat) (wx : World) (hs : Sl wx wx.heap.size 5 (.slice A' n' c') (numsOf (flatM ms)).length ((numsOf (flatM ms)).flatMap svCells)) =>
    mode_any (numsOf (flatM ms)) (fun a ha => by
      obtain ⟨h1, h2⟩ := List.mem_filter.1 ha
      have h2' : a.1 = 1 := by simpa using h2
      rcases hA.good a h1 with h | h | h | h
      · exact h
      · omega
      · omega
      · omega) A' n' c' wx hs (Nat.le_trans (numsOf_le _) hA.tot))
  have HA := hid h
  clear hA htx h
  go_enter Tryz.func62, Tryz.ntmps62
  go_wp2_with fail
  have k0 : Below w.heap.size w (w.alloc (.cells #[.int .i64 0, .int .i64 0, .int .i64 0, .string ⟨#[]⟩, .slice none 0 0] 34)) := (Below.refl _ _).alloc (Nat.le_refl _) _
  have bR0 := Bk.new w 34 #[.int .i64 0, .int .i64 0, .int .i64 0, .string ⟨#[]⟩, .slice none 0 0]
  have hz0 : (w.alloc (.cells #[.int .i64 0, .int .i64 0, .int .i64 0, .string ⟨#[]⟩, .slice none 0 0] 34)).heap.size = w.heap.size + 1 := by simp
  refine (HM.out _ (HA.out.keep k0)).mono ?_
  rintro e w1 ⟨A', n', c', z, rfl, hz, hb1⟩
  have bR1 := bR0.below hb1 bR0.lt
  have hd1 : Below w.heap.size w w1 := Below.lift k0 (by omega) hb1
  have HZ := hid hz
  clear hz hb1 bR0 k0
  cases z
  · go_wp2_with fail
    refine (doubt_any _).mono ?_
    rintro e w3 ⟨rfl, hb3⟩
    have bR3 := bR1.below hb3 bR1.lt
    have hd3 := Below.lift hd1 hd1.size hb3
    obtain ⟨v0, v1, v2, v3, v4, vf⟩ := bR3.cells5
    have hlt3 := bR3.lt
    unfold sv
    go_wp2_with fail
    exact end_cell Tryz.results62 rfl (Bk.set5 bR3 _ _ _ _ _) Tryz.underlying34 rfl info_sv rfl ⟨(6, 0, 0, es), rfl, .inl rfl, Below.set5 hd3 (Nat.le_refl _) _ _ _ _ _⟩
  · have hzz := HZ.out rfl
    have HS := hid hzz.1
    have HMa := hid hzz.2
    clear hzz
    go_wp2_with fail
    refine (HL.out A' n' c' w1 HS.out).mono ?_
    rintro e w3 ⟨a, rfl, ha, hb3⟩
    have bR3 := bR1.below hb3 bR1.lt
    have hd3 := Below.lift hd1 hd1.size hb3
    obtain ⟨v0, v1, v2, v3, v4, vf⟩ := bR3.cells5
    have hlt3 := bR3.lt
    have hans : Hid (refAns ms a) := hid (.inr ⟨HMa.out, ha⟩)
    clear ha
    unfold svV sv
    go_wp2_with fail
    exact end_cell Tryz.results62 rfl (Bk.set5 bR3 _ _ _ _ _) Tryz.underlying34 rfl info_sv rfl ⟨a, rfl, hans.out, Below.set5 hd3 (Nat.le_refl _) _ _ _ _ _⟩

set_option maxRecDepth 100000 in
theorem Stat_MODE (ms : List SM) (hA : Asked ms) (htx : ∀ a ∈ flatM ms, a.2.2.2.size ≤ 2147483647) (A : Option Addr) (c : Nat) (w : World) (h : ArgsM w ms A c) :
    Calls Tryz.prog 34 #[.string ⟨#[77, 79, 68, 69]⟩, .slice A ms.length c] w fun e w' => ∃ a : SV, e = .returned (.tuple #[svV a, .bool true]) ∧ refAns ms a ∧ Below w.heap.size w w' := by
  have HM := hid (fun wx (hx : ArgsM wx ms A c) => calmly_MODE ms hA htx A c wx hx)
  have HA := hid h
  clear hA htx h
  go_enter Tryz.func34, Tryz.ntmps34
  go_wp2_with fail
  have k0 : Below w.heap.size w (w.alloc (.cells #[.int .i64 0, .int .i64 0, .int .i64 0, .string ⟨#[]⟩, .slice none 0 0] 34)) := (Below.refl _ _).alloc (Nat.le_refl _) _
  have bR0 := Bk.new w 34 #[.int .i64 0, .int .i64 0, .int .i64 0, .string ⟨#[]⟩, .slice none 0 0]
  refine (HM.out _ (HA.out.keep k0)).mono ?_
  rintro e w3 ⟨a, rfl, ha, hb3⟩
  have bR3 := bR0.below hb3 (by simp)
  have hd3 := Below.lift k0 (by simp) hb3
  obtain ⟨v0, v1, v2, v3, v4, vf⟩ := bR3.cells5
  have hlt3 := bR3.lt
  have hans := hid ha
  clear ha bR0 k0 hb3
  unfold svV sv
  go_wp2_with fail
  exact end_cell_tmp Tryz.results34 rfl (Bk.set5 bR3 _ _ _ _ _) Tryz.underlying34 rfl info_sv rfl ⟨a, rfl, hans.out, Below.set5 hd3 (Nat.le_refl _) _ _ _ _ _⟩

set_option maxRecDepth 100000 in
set_option maxHeartbeats 1000000 in
theorem CallOver_MODE (ms : List SM) (hA : Asked ms) (htx : ∀ a ∈ flatM ms, a.2.2.2.size ≤ 2147483647) (A : Option Addr) (c : Nat) (w : World) (h : ArgsM w ms A c) (h5 : First5 w (.slice A ms.length c)) :
    Calls Tryz.prog 19 #[.string ⟨#[77, 79, 68, 69]⟩, .slice A ms.length c, .slice A ms.length c] w fun e w' => ∃ a : SV, e = .returned (svV a) ∧ refAns ms a ∧ Below w.heap.size w w' := by
  have HM := hid (fun wx (hx : ArgsM wx ms A c) => Stat_MODE ms hA htx A c wx hx)
  have HA := hid h
  have H5 := hid h5
  clear hA htx h h5
  go_enter Tryz.func19, Tryz.ntmps19
  go_wp2_with fail
  have k0 : Below w.heap.size w (w.alloc (.cells #[.int .i64 0, .int .i64 0, .int .i64 0, .string ⟨#[]⟩, .slice none 0 0] 34)) := (Below.refl _ _).alloc (Nat.le_refl _) _
  have bR0 := Bk.new w 34 #[.int .i64 0, .int .i64 0, .int .i64 0, .string ⟨#[]⟩, .slice none 0 0]
  refine (Fits_MODE _ _ (H5.out.keep k0)).mono ?_
  rintro e w1 ⟨rfl, hb1⟩
  have bR1 := bR0.below hb1 (by simp)
  have hd1 := Below.lift k0 (by simp) hb1
  clear bR0 k0 hb1
  go_wp2_with fail
  refine (HM.out _ (HA.out.keep hd1)).mono ?_
  rintro e w2 ⟨a, rfl, ha, hb2⟩
  have bR2 := bR1.below hb2 bR1.lt
  have hd2 := Below.lift hd1 hd1.size hb2
  have hans := hid ha
  obtain ⟨v0, v1, v2, v3, v4, vf⟩ := bR2.cells5
  have hlt2 := bR2.lt
  clear ha bR1 hd1 hb2
  unfold svV sv
  go_wp2_with fail
  exact end_cell Tryz.results19 rfl ((Bk.set5 bR2 _ _ _ _ _).alloc _) Tryz.underlying34 rfl info_sv rfl
    ⟨a, rfl, hans.out, (Below.set5 hd2 (Nat.le_refl _) _ _ _ _ _).alloc (by simp [World.setCell]; omega) _⟩

set_option maxRecDepth 100000 in
theorem Call_MODE (ms : List SM) (hA : Asked ms) (htx : ∀ a ∈ flatM ms, a.2.2.2.size ≤ 2147483647) (A : Option Addr) (c : Nat) (w : World) (h : ArgsM w ms A c) (h5 : First5 w (.slice A ms.length c)) :
    Calls Tryz.prog 9 #[.string ⟨#[77, 79, 68, 69]⟩, .slice A ms.length c] w fun e w' => ∃ a : SV, e = .returned (svV a) ∧ refAns ms a ∧ Below w.heap.size w w' := by
  have HM := hid (fun wx (hx : ArgsM wx ms A c) (hy : First5 wx (.slice A ms.length c)) => CallOver_MODE ms hA htx A c wx hx hy)
  have HA := hid h
  have H5 := hid h5
  clear hA htx h h5
  go_enter Tryz.func9, Tryz.ntmps9
  go_wp2_with fail
  have k0 : Below w.heap.size w (w.alloc (.cells #[.int .i64 0, .int .i64 0, .int .i64 0, .string ⟨#[]⟩, .slice none 0 0] 34)) := (Below.refl _ _).alloc (Nat.le_refl _) _
  have bR0 := Bk.new w 34 #[.int .i64 0, .int .i64 0, .int .i64 0, .string ⟨#[]⟩, .slice none 0 0]
  refine (HM.out _ (HA.out.keep k0) (H5.out.keep k0)).mono ?_
  rintro e w1 ⟨a, rfl, ha, hb1⟩
  have bR1 := bR0.below hb1 (by simp)
  have hd1 := Below.lift k0 (by simp) hb1
  obtain ⟨v0, v1, v2, v3, v4, vf⟩ := bR1.cells5
  have hlt2 := bR1.lt
  have hans := hid ha
  clear ha bR0 k0 hb1
  unfold svV sv
  go_wp2_with fail
  exact end_cell Tryz.results9 rfl (Bk.set5 bR1 _ _ _ _ _) Tryz.underlying34 rfl info_sv rfl
    ⟨a, rfl, hans.out, Below.set5 hd1 (Nat.le_refl _) _ _ _ _ _⟩
end Go.Proofs.YtdanlcciefbboaaGreat
