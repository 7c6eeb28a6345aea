import Derived.Test.YtndabbepepbnmaaGreatDoorMk
import Derived.Test.YtndabbepepbnmaaGreatDoorInner
import Derived.Deep.AppendLies
import Derived.RegionTactic
import Derived.Deep.QuietTactic
import Derived.BigQuiet
namespace Go.Proofs.YtndabbepepbnmaaGreatDoor
open Go.RowKit
attribute [local go_sem] run_store_float

theorem infos_f64 : (Tryz.prog.info? 39).map (fun i => (i.zero, i.size, i.bytes)) = some (some (.float .f64 0), 1, 8) := by kernel_rfl
theorem infos_f64s : (Tryz.prog.info? 112).map (fun i => (i.zero, i.size, i.bytes)) = some (some (.slice none 0 0), 1, 24) := by kernel_rfl
/-- one float -/
def flF (x : Nat) : List Value := [.float .f64 x]
/-- the formulaArg of a number -/
def flA (x : Nat) : List Value := faL x es false es 1
theorem flF_len (x : Nat) : (flF x).length = 1 := rfl
theorem flA_len (x : Nat) : (flA x).length = 10 := rfl
/-- a formulaArg that says nothing -/
def fa0 : Value := .agg #[.string ⟨#[]⟩, .float .f64 0, .string ⟨#[]⟩, .slice none 0 0, .slice none 0 0, .bool false, .string ⟨#[]⟩, .int .u8 0, .pointer none, .pointer none]

theorem RwP.mapped {α β : Type} {w : World} {S : Nat → Prop} {sz : Nat} {f : α → List Value} {f' : β → List Value} {v : Value} {F : List (List β)} (g : β → α) (H : RwP w S sz f v (F.map fun r => r.map g)) (hf : ∀ r ∈ F, ∀ x ∈ r, f (g x) = f' x) : RwP w S sz f' v F := by
  obtain ⟨h0, hs, hl, h1, h2⟩ := H
  rw [List.length_map] at hl h1
  refine ⟨fun e => h0 (by rw [e]; rfl), hs, hl, h1, fun i h r hi hr => ?_⟩
  have := h2 i h (r.map g) hi (by rw [List.getElem?_map, hr]; rfl)
  rw [List.length_map] at this
  have he : (r.map g).flatMap f = r.flatMap f' := by
    rw [List.flatMap_map]
    have hr' : ∀ x ∈ r, f (g x) = f' x := hf r (List.mem_of_getElem? hr)
    clear this hr hi h2 h1
    induction r with
    | nil => rfl
    | cons x r ih =>
      rw [List.flatMap_cons, List.flatMap_cons, hr' x (by simp), ih (fun y hy => hr' y (by simp [hy]))]
  rw [he] at this
  exact this
theorem results_tmp_cell {fn : Func} {p u : Tmp} {ty : TypeId} (h : fn.results = #[.tmp u, .cell p ty]) (tmps : Array Value) (P : Program) (w : World) :
    (results fn tmps).run P w =
      ((asAddr (tmps.getD p undef)).run P w).andThen fun a w₁ => ((loadVar ty a).run P w₁).andThen fun v w₂ => .ok (.tuple #[tmps.getD u undef, v]) w₂ := by
  simp only [results, h]
  simp [Sem.run_bind, Result.andThen]
theorem end_tmp_cell {P : Program} {fn : Func} {R : Ending → World → Prop} {a : Act} {w : World} {p u : Tmp} {T : TypeId} {g : Nat} {cs : Array Value} {d : TypeDesc}
    (hres : fn.results = #[.tmp u, .cell p T]) (hp : a.tmps.getD p undef = .pointer (some ⟨g, 0, none⟩)) (hg : Bk w g T cs)
    (hu : P.underlying T = some d) (hd : (match d with | .struct _ | .array _ _ => true | _ => false) = true) (hi : (P.info? T).map (·.size) = some cs.size)
    (hdf : a.defers = []) (hR : R (.returned (.tuple #[a.tmps.getD u undef, .agg cs])) w) : bodyPost P fn R .ret a w := by
  refine bodyPost_ret (v := .tuple #[a.tmps.getD u undef, .agg cs]) ?_ hdf hR
  rw [results_tmp_cell hres, hp]
  simp [asAddr, run_loadVar_row w g T T cs (0, 0) d hg hu hd hi]

set_option maxRecDepth 100000 in
set_option maxHeartbeats 2000000 in
theorem newNumberMatrix_any (F : List (List Nat)) (m p q : Value) (w : World) (h : Rws w w.heap.size 10 flA m F) (hC : ∀ r ∈ F, r.length ≤ 1000) (hlen : F.length ≤ 1000) :
    Calls Tryz.prog 149 #[faM m p q, .bool false] w fun e w' => ∃ v, e = .returned (.tuple #[v, fa0]) ∧ Rwn w w' 1 flF v F ∧ Below w.heap.size w w' := by
  obtain ⟨h0, hs, hl, ⟨A, c, rfl, hlc, hc⟩, h2⟩ := h
  obtain ⟨i0, hi, hz0, hz1, hz2⟩ := info_parts infos_f64
  obtain ⟨i1, hj, hy0, hy1, hy2⟩ := info_parts infos_f64s
  have H2 := hid h2
  have HC := hid hc
  have HL := hid hl
  have HL2 := hid hC
  clear h2 hc hl hlc h0 hC
  unfold faM
  go_enter Tryz.func149, Tryz.ntmps149
  go_wp2_with fail
  have hz : ((w.alloc (.cells #[.string es, .float .f64 0, .string es, .slice none 0 0, .slice A F.length c, .bool false, .string es, .int .u8 4, p, q] 78)).alloc (.cells #[.string ⟨#[]⟩, .float .f64 0, .string ⟨#[]⟩, .slice none 0 0, .slice none 0 0, .bool false, .string ⟨#[]⟩, .int .u8 0, .pointer none, .pointer none] 78)).heap.size = w.heap.size + 1 + 1 := by simp
  have b1 : Bk ((w.alloc (.cells #[.string es, .float .f64 0, .string es, .slice none 0 0, .slice A F.length c, .bool false, .string es, .int .u8 4, p, q] 78)).alloc (.cells #[.string ⟨#[]⟩, .float .f64 0, .string ⟨#[]⟩, .slice none 0 0, .slice none 0 0, .bool false, .string ⟨#[]⟩, .int .u8 0, .pointer none, .pointer none] 78)) (w.heap.size + 1) 78 #[.string ⟨#[]⟩, .float .f64 0, .string ⟨#[]⟩, .slice none 0 0, .slice none 0 0, .bool false, .string ⟨#[]⟩, .int .u8 0, .pointer none, .pointer none] := Bk.new_at (by simp)
  have hw : Below w.heap.size w ((w.alloc (.cells #[.string es, .float .f64 0, .string es, .slice none 0 0, .slice A F.length c, .bool false, .string es, .int .u8 4, p, q] 78)).alloc (.cells #[.string ⟨#[]⟩, .float .f64 0, .string ⟨#[]⟩, .slice none 0 0, .slice none 0 0, .bool false, .string ⟨#[]⟩, .int .u8 0, .pointer none, .pointer none] 78)) := ((Below.refl _ _).alloc (Nat.le_refl _) _).alloc (by simp) _
  generalize ((w.alloc (.cells #[.string es, .float .f64 0, .string es, .slice none 0 0, .slice A F.length c, .bool false, .string es, .int .u8 4, p, q] 78)).alloc (.cells #[.string ⟨#[]⟩, .float .f64 0, .string ⟨#[]⟩, .slice none 0 0, .slice none 0 0, .bool false, .string ⟨#[]⟩, .int .u8 0, .pointer none, .pointer none] 78)) = W at *
  go_loopw [4, 17] (fun u i wr => ∃ (k : Nat) (us : List Value), k ≤ F.length ∧ i = .int .i64 k ∧ Hid (k = 0 → u = .slice none 0 0) ∧ wr.ownsRow (w.heap.size + 1 + 1) 112 1 u k us ∧ Hid (OR wr (w.heap.size + 1 + 1) 39 1 flF us (F.take k)) ∧ Below (w.heap.size + 1 + 1) W wr) (fun _ i _ => F.length - (intOf i).toNat)
  case atStart => exact ⟨0, [], Nat.zero_le _, rfl, hid (fun _ => rfl), World.ownsRow_nil _ _ _ _, hid (OR.nil _ _ _ _ _), Below.refl _ _⟩
  case round =>
    obtain ⟨k, us, hk, rfl, hu0, hown, hOR, hb⟩ := hrel
    have hbz := hb.size
    obtain ⟨V, hV⟩ : ∃ V, V = wr := ⟨_, rfl⟩
    subst hV
    by_cases hlt : k < F.length
    · obtain ⟨b, o, rfl, hbB, hcell⟩ := HC.out (by omega)
      obtain ⟨r, hr⟩ : ∃ r, F[k]? = some r := ⟨F[k], List.getElem?_eq_getElem hlt⟩
      obtain ⟨hh, hhk⟩ : ∃ hh, hs[k]? = some hh := ⟨_, List.getElem?_eq_getElem (by rw [HL.out]; exact hlt)⟩
      obtain ⟨A1, c1, rfl, hrl, hrc⟩ := H2.out k hh r hhk hr
      have HRl : r.length ≤ 1000 := HL2.out r (List.mem_of_getElem? hr)
      have HRc := hid hrc
      have c42 : V.cell? ⟨b, o + k, none⟩ = some (.slice A1 r.length c1) := (hb.cell (p := ⟨b, o + k, none⟩) (by simp; omega)).trans ((hw.cell (p := ⟨b, o + k, none⟩) hbB).trans (hcell k _ hhk))
      have HT := hid (show F.take (k + 1) = F.take k ++ [r] by rw [List.take_add_one, hr]; rfl)
      have h0r : Below w.heap.size w V := hw.trans (hb.mono (by omega))
      have hmk := fun W => mk_eq (P := Tryz.prog) 112 39 i0 1 8 Tryz.underlying112 hi hz0 hz1 hz2 (by omega) r.length (by omega) W
      clear hcell hr hhk hbB hrc hrl
      go_wp2_with (at_builtin; refine wpList_append_lies _ rfl _ _ 109 rfl (w.heap.size + 1 + 1) 112 i1 _ 1 24 Tryz.underlying109 hj hy0 hy1 hy2 rfl (by decide) _ _ _ rfl ((hown.alloc _).alloc _) ⟨V.heap.size + 1, 0, none⟩ 1 1 [.slice (some ⟨V.heap.size, 0, none⟩) r.length r.length] rfl rfl ?c1 ?c2 (by decide) ?c3 ?c4 ?c5 (V.heap.size + 1 + 1) ?c6 ?_)
      case c2 => rfl
      case c3 => unfold maxLen; omega
      case c4 => omega
      case c5 => omega
      · intro gg cap w4 hown4 hgrow hat hlt4
        have hF4 : Fil w4 V.heap.size 39 r.length [] := by
          refine Fil.keep ?_ (hgrow.block V.heap.size (by simp; omega) (fun e => ?_))
          · exact Fil.start ((Bk.new V _ _).alloc _) (by simp [size_madeCells])
          · have := (hown.lt _ e.symm).2; omega
        have hOR4 := ((hOR.out.alloc (.cells (madeCells #[Value.float .f64 0] r.length) 39)).alloc (.cells #[.slice (some ⟨V.heap.size, 0, none⟩) r.length r.length] 112)).grown ((hown.alloc _).alloc _) (by decide) hgrow
        have hb4 : Below (w.heap.size + 1 + 1) W w4 := ((hb.alloc (by omega) _).alloc (by simp; omega) _).grown hgrow (by simp; omega) (fun g hg => (hown.lt g hg).1)
        have hne : gg ≠ V.heap.size := own_neq hown4 hF4 (by decide)
        have hzV : V.heap.size < w4.heap.size := hF4.lt
        have cH : w4.cell? ⟨gg, k, none⟩ = some (.slice (some ⟨V.heap.size, 0, none⟩) r.length r.length) := (hown4.cellAt k (by omega)).trans (by
          rw [List.getElem?_append_right (by rw [hown.1]; omega), hown.1]; simp)
        have hUS : us.length = k := by rw [hown.1]; omega
        have hOld : Below w.heap.size w w4 := hw.trans (hb4.mono (by omega))
        clear hgrow hat hown c42 hmk h0r
        go_wp2_with fail
        go_loopw [38] (fun i wr => ∃ (j : Nat), j ≤ r.length ∧ i = .int .i64 j ∧ w4.grownBy wr (some V.heap.size) ∧ Fil wr V.heap.size 39 r.length ((r.take j).flatMap flF)) (fun i _ => r.length - (intOf i).toNat)
        case atStart => exact ⟨0, Nat.zero_le _, rfl, grownBy_refl _ _, hF4⟩
        case round =>
          obtain ⟨j, hj', rfl, hg, hFil⟩ := hrel
          by_cases hlt1 : j < r.length
          · obtain ⟨b', o', rfl, hbB', hcell'⟩ := HRc.out (by omega)
            obtain ⟨x, hx⟩ : ∃ x, r[j]? = some x := ⟨r[j], List.getElem?_eq_getElem hlt1⟩
            have hb'V : b' < V.heap.size := by omega
            have hcw : ∀ (t : Nat) (u : Value), (r.flatMap flA)[t]? = some u → wr.cell? ⟨b', o' + t, none⟩ = some u := fun t u hu =>
              hg.cell ((hOld.cell (p := ⟨b', o' + t, none⟩) hbB').trans (hcell' t u hu)) (by simp; omega)
            have f := fun i (hi : i < 10) => flat_at flA 10 flA_len r j x i hx hi
            have g0 : wr.cell? ⟨b', o' + j * 10, none⟩ = some (.string es) := by have := hcw (j * 10 + 0) _ ((f 0 (by omega)).trans rfl); simpa using this
            have g1 : wr.cell? ⟨b', o' + j * 10 + 1, none⟩ = some (.float .f64 x) := hcw (j * 10 + 1) _ ((f 1 (by omega)).trans rfl)
            have g2 : wr.cell? ⟨b', o' + j * 10 + 2, none⟩ = some (.string es) := hcw (j * 10 + 2) _ ((f 2 (by omega)).trans rfl)
            have g3 : wr.cell? ⟨b', o' + j * 10 + 3, none⟩ = some (.slice none 0 0) := hcw (j * 10 + 3) _ ((f 3 (by omega)).trans rfl)
            have g4 : wr.cell? ⟨b', o' + j * 10 + 4, none⟩ = some (.slice none 0 0) := hcw (j * 10 + 4) _ ((f 4 (by omega)).trans rfl)
            have g5 : wr.cell? ⟨b', o' + j * 10 + 5, none⟩ = some (.bool false) := hcw (j * 10 + 5) _ ((f 5 (by omega)).trans rfl)
            have g6 : wr.cell? ⟨b', o' + j * 10 + 6, none⟩ = some (.string es) := hcw (j * 10 + 6) _ ((f 6 (by omega)).trans rfl)
            have g7 : wr.cell? ⟨b', o' + j * 10 + 7, none⟩ = some (.int .u8 1) := hcw (j * 10 + 7) _ ((f 7 (by omega)).trans rfl)
            have g8 : wr.cell? ⟨b', o' + j * 10 + 8, none⟩ = some (.pointer none) := hcw (j * 10 + 8) _ ((f 8 (by omega)).trans rfl)
            have g9 : wr.cell? ⟨b', o' + j * 10 + 9, none⟩ = some (.pointer none) := hcw (j * 10 + 9) _ ((f 9 (by omega)).trans rfl)
            have cHw : wr.cell? ⟨gg, k, none⟩ = some (.slice (some ⟨V.heap.size, 0, none⟩) r.length r.length) := hg.cell cH (by simp; omega)
            have hgw : gg < wr.heap.size := by have := hg.size; omega
            have hVw : V.heap.size < wr.heap.size := hFil.lt
            obtain ⟨old, hold⟩ := hFil.at_ j hlt1
            have hfz := hFil.free j
            have hkI : (k : Int) < ((k + 1 : Nat) : Int) := by omega
            have hjI : (j : Int) < (r.length : Int) := by omega
            clear f hcw hcell'
            have hx := hid hx
            have hFn : Fil ((wr.setCell ⟨V.heap.size, j, none⟩ (.float .f64 x)).alloc (.cells #[.string es, .float .f64 x, .string es, .slice none 0 0, .slice none 0 0, .bool false, .string es, .int .u8 1, .pointer none, .pointer none] 78)) V.heap.size 39 r.length ((r.take (j + 1)).flatMap flF) := by
              have := hFil.put (i := j) (by rw [flat_len flF 1 flF_len, List.length_take]; omega) hlt1 (.float .f64 x)
              rw [flat_take flF r j x hx.out]
              exact this.keep (Below.heap_alloc _ _ _ (by simpa [World.setCell] using hVw))
            have hgn : w4.grownBy ((wr.setCell ⟨V.heap.size, j, none⟩ (.float .f64 x)).alloc (.cells #[.string es, .float .f64 x, .string es, .slice none 0 0, .slice none 0 0, .bool false, .string es, .int .u8 1, .pointer none, .pointer none] 78)) (some V.heap.size) :=
              (grownBy_setCell hg j _).trans (World.grownBy_alloc _ _ _)
            have HFn := hid hFn
            have HGn := hid hgn
            clear hFn hgn hFil hg
            go_wp2_with fail
            go_region
            go_wp2_with fail
            go_roundw
            case rel => exact ⟨j + 1, by omega, by go_num, grownBy_drewN HGn.out 1, HFn.out⟩
            case measure => simp [intOf]; omega
          · have hjl : j = r.length := by omega
            subst hjl
            have hFil' := hFil
            rw [List.take_length] at hFil'
            have hrow := hFil'.own (base := w.heap.size + 1 + 1) (sz := 1) (n := r.length) (by omega) (by rw [flat_len flF 1 flF_len]) (by omega) (by omega)
            have hORn := (OR.far hOR.out hOR4 hg (Nat.le_refl _)).push (r := r) hrow
            rw [← HT.out] at hORn
            have HORn := hid hORn
            have hOwnU := hown4.kept hg (.inr (by simp [Value.ownBlock]; exact hne))
            have hbn : Below (w.heap.size + 1 + 1) W wr := hb4.grown hg (by omega) (fun g h => by injection h with h; omega)
            clear hORn hrow hFil hFil' hg hOR4 hown4 hF4 hb4 hOR hb cH HRc hOld
            go_wp2_with fail
            go_roundw
            case rel => exact ⟨k + 1, _, by omega, by go_num, hid (fun h => absurd h (by omega)), hOwnU, HORn, hbn⟩
            case measure => simp [intOf]; omega
    · have hkl : k = F.length := by omega
      subst hkl
      have HRW : Hid (RwP V (fun b => w.heap.size + 1 + 1 ≤ b ∧ b < V.heap.size) 1 flF u4 F) := hid (RwP.of_own hown (by have := hOR.out; rwa [List.take_length] at this) (fun h => hu0.out (by rw [h]; rfl)))
      obtain ⟨A2, c2, hv', _, _⟩ := Sl.of_own hown
      subst hv'
      have hR := b1.below hb (by omega)
      have hbw : Below w.heap.size w V := hw.trans (hb.mono (by omega))
      clear hown hOR hu0
      go_wp2_with fail
      refine end_tmp_cell Tryz.results149 rfl hR Tryz.underlying78 rfl info_fa rfl ?_
      exact ⟨_, rfl, HRW.out.imp fun b hb => ⟨by omega, hb.2⟩, hbw⟩
end Go.Proofs.YtndabbepepbnmaaGreatDoor
