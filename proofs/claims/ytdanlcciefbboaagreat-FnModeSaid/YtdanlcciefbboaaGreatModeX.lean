import Derived.Test.YtdanlcciefbboaaGreatModeW
namespace Go.Proofs.YtdanlcciefbboaaGreat
open Go.RowKit
attribute [local go_sem] run_store_float

theorem own_form2 {w : World} {base sz n : Nat} {e : TypeId} {v : Value} {xs : List Value} (h : w.ownsRow base e sz v n xs) (hn : 0 < n) : ∃ g cap, v = .slice (some ⟨g, 0, none⟩) n cap ∧ base ≤ g ∧ g < w.heap.size := by
  rcases h.2 with ⟨_, rfl⟩ | ⟨g, cap, cur, rfl, hb, hh, _⟩
  · omega
  · exact ⟨g, cap, rfl, hb, (Array.getElem?_eq_some_iff.1 hh).1⟩
/-- what MODE says of numbers in their order -/
def modeR (L : List Int) : Res := if (impMode L).1 = 0 then .err ⟨#[35, 78, 47, 65]⟩ ⟨#[35, 78, 47, 65]⟩ else .num (enc (impMode L).2 4)
/-- the numbers of the arguments from number k on -/
def numK (ms : List AM) : List Value := ms.flatMap fun m => numC (cellsA m)

set_option maxRecDepth 100000 in
set_option maxHeartbeats 4000000 in
theorem MODE_walk (ms : List AM) (hms : ∀ m ∈ ms, argMo m) (hne : ms ≠ []) (hlen : ms.length ≤ 20) (Z : List Fz) (hZ0 : Z ≠ []) (hZ : numK ms = Z.map encF) (hZl : Z.length ≤ 2000) :
    FnM 24 ms (modeR ((sortF Z).map (·.1))) := by
  intro w g L el vs h hA
  obtain ⟨i0, hi, hz0, hz1, hz2⟩ := info_parts (show (Tryz.prog.info? 39).map (fun i => (i.zero, i.size, i.bytes)) = some (some (.float .f64 0), 1, 8) by kernel_rfl)
  have hta := fun (u : Value) wx => run_typeAssert_struct (P := Tryz.prog) 63 20 u wx Tryz.underlying63
  have hlv : vs.length = ms.length := hA.1
  have hle : el.length = ms.length := by rw [h.len, hlv]
  have hpos : 0 < ms.length := List.length_pos_iff.2 hne
  have H := hid h
  have HA := hid hA
  have HM := hid hms
  have HZ := hid hZ
  have hlm : ¬ (ms.length : Int) < 1 := by omega
  clear h hA hms hZ
  go_enter Tryz.func24, Tryz.ntmps24
  go_wp2_with fail
  have k1 : Below w.heap.size w (w.alloc (.cells #[.string ⟨#[]⟩, .float .f64 0, .string ⟨#[]⟩, .slice none 0 0, .slice none 0 0, .bool false, .string ⟨#[]⟩, .int .u8 0, .pointer none, .pointer none] 63)) := (Below.refl _ _).alloc (Nat.le_refl _) _
  have bR := Bk.new w 63 #[.string ⟨#[]⟩, .float .f64 0, .string ⟨#[]⟩, .slice none 0 0, .slice none 0 0, .bool false, .string ⟨#[]⟩, .int .u8 0, .pointer none, .pointer none]
  have hzW : (w.alloc (.cells #[.string ⟨#[]⟩, .float .f64 0, .string ⟨#[]⟩, .slice none 0 0, .slice none 0 0, .bool false, .string ⟨#[]⟩, .int .u8 0, .pointer none, .pointer none] 63)).heap.size = w.heap.size + 1 := by simp
  generalize w.alloc (.cells #[.string ⟨#[]⟩, .float .f64 0, .string ⟨#[]⟩, .slice none 0 0, .slice none 0 0, .bool false, .string ⟨#[]⟩, .int .u8 0, .pointer none, .pointer none] 63) = W at *
  refine (len_any (H.out.keep k1)).mono ?_
  rintro e w1 ⟨rfl, rfl⟩
  rw [hlv]
  go_wp2_with fail
  refine (front_elN (H.out.keep k1)).mono ?_
  rintro e w1 ⟨rfl, rfl⟩
  go_wp2_with fail
  go_loopg [5, 6] ms.length (fun gg u p wr => ∃ (k n : Nat), k ≤ ms.length ∧ gg = ms.length - k ∧ Hid (p = elN el k) ∧ n ≤ k * 1000 ∧ wr.ownsRow W.heap.size 39 1 u n (numK (ms.take k)) ∧ Below W.heap.size W wr)
  case atStart => exact ⟨0, 0, Nat.zero_le _, rfl, hid rfl, by omega, World.ownsRow_nil _ _ _ _, Below.refl _ _⟩
  case round =>
    obtain ⟨k, n, hk, hgk, hp, hn, hown, hb⟩ := hrel
    have hbz := hb.size
    have hbw : Below w.heap.size w wr := k1.trans (hb.mono k1.size)
    have hp' := hp.out
    by_cases hlt : k < ms.length
    · obtain ⟨m, hm⟩ : ∃ m, ms[k]? = some m := ⟨_, List.getElem?_eq_getElem hlt⟩
      obtain ⟨v, hv⟩ : ∃ v, vs[k]? = some v := ⟨_, List.getElem?_eq_getElem (by omega)⟩
      obtain ⟨f, hf, hflt, hcell⟩ := H.out.at_ hv
      unfold elN at hp'
      rw [hf] at hp'
      change _ = ptr f at hp'
      subst hp'
      have gv : wr.cell? ⟨f, 3, none⟩ = some v := (hbw.cell (p := ⟨f, 3, none⟩) hflt).trans hcell
      have gl : f < wr.heap.size := by have := hbw.size; omega
      have hmo := HM.out m (List.mem_of_getElem? hm)
      have hAo := HA.out.2 k v m hv hm
      have hn1 : Hid (∀ w', Below w.heap.size w w' → Calls Tryz.prog 45 #[ptr f] w' fun e w'' => e = .returned (elN el (k + 1)) ∧ w' = w'') := hid (fun w' hb' => next_elN (H.out.keep hb') hf)
      have HT := hid (show numK (ms.take (k + 1)) = numK (ms.take k) ++ numC (cellsA m) by rw [numK, List.take_add_one, hm]; simp [numK])
      have hform : (∃ x, v = .iface 63 (fa x es false es 1)) ∨ (∃ (A : Option Addr) (n c L1 L2 : Nat), v = .iface 63 (faM (.slice A n c) (ptr L1) (ptr L2))) := by
        rcases hmo with ⟨h0, h1, h2, _⟩ | ⟨h0, _⟩
        · rcases hAo with ⟨_, rfl⟩ | ⟨hne, _⟩
          · refine .inl ⟨m.1.2.1, ?_⟩
            unfold avI
            rw [h1, fav_num, h2]
          · exact absurd h0 hne
        · rcases hAo with ⟨he, _⟩ | ⟨_, u, rfl, mm, L1, L2, g', x, rfl, hr, _⟩
          · exact absurd he h0
          · obtain ⟨A, c, rfl⟩ := hr.form
            exact .inr ⟨A, _, c, L1, L2, rfl⟩
      have HTL : Hid (∀ u wx, v = .iface 63 u → Below w.heap.size w wx → Calls Tryz.prog 46 #[u] wx fun e w' => ∃ A' c', e = .returned (.slice A' (cellsA m).length c') ∧ w'.ownsRow wx.heap.size 63 10 (.slice A' (cellsA m).length c') (cellsA m).length ((cellsA m).flatMap favC) ∧ Below wx.heap.size wx w') := hid (fun u wx hu hb' =>
        toList_arg hmo (hAo.keep fun b hb2 => ⟨hb'.block b hb2, Nat.lt_of_lt_of_le hb2 hb'.size⟩) hu)
      have hcl := hmo.cells
      have HCk := hid hcl.2
      have hcl1 := hcl.1
      clear hcl hmo hAo hcell hf hv hm hp
      generalize cellsA m = cs at *
      rcases hform with ⟨x, rfl⟩ | ⟨A, nn, c, L1, L2, rfl⟩
      all_goals
        try unfold faM at gv
        try unfold fa at gv
        go_wp2_with fail
        refine (HTL.out _ _ rfl (hbw.alloc hbw.size _)).mono ?_
        rintro e w2 ⟨A', c', rfl, hl2, hb2⟩
        obtain ⟨U0, hU0⟩ : ∃ U0, U0 = u5 := ⟨_, rfl⟩
        subst hU0
        have hwr2 : Below wr.heap.size wr w2 := Below.lift ((Below.refl wr.heap.size wr).alloc (Nat.le_refl _) _) (by simp) hb2
        have hown2 := own_keep hown hwr2
        have hbW2 : Below W.heap.size W w2 := hb.trans (hwr2.mono hbz)
        have hSl := Sl.of_own hl2
        have hdis := own_ne hl2 hown2 (by decide)
        have hu5 := fun g (hg : U0.ownBlock = some g) => (hown2.lt g hg).1
        clear hown hb hwr2 hb2 hl2 gv gl HTL
        obtain ⟨_, _, hv', _, hcl⟩ := hSl
        injection hv' with hv1 _ hv3
        subst hv1; subst hv3
        have HCl : Hid (0 < cs.length → ∃ b o, A' = some ⟨b, o, none⟩ ∧ b < w2.heap.size ∧ some b ≠ U0.ownBlock ∧ ∀ (j : Nat) (u : Value), (cs.flatMap favC)[j]? = some u → w2.cell? ⟨b, o + j, none⟩ = some u) := hid (fun h0 => by
          obtain ⟨b, o, rfl, h2, h3⟩ := hcl h0
          refine ⟨b, o, rfl, h2, fun e => ?_, h3⟩
          rcases hdis with hd | hd
          · simp [Value.ownBlock] at hd
          · exact hd (by rw [← e]; rfl))
        clear hcl hdis
        go_wp2_with fail
        have hw2 : Below w.heap.size w w2 := k1.trans (hbW2.mono k1.size)
        have hbW2z := hbW2.size
        go_loopw [5, 43] (fun u i wx => ∃ (j n' : Nat), j ≤ cs.length ∧ i = .int .i64 j ∧ n' ≤ n + j ∧ wx.ownsRow W.heap.size 39 1 u n' (numK (ms.take k) ++ numC (cs.take j)) ∧ Below W.heap.size W wx ∧ w2.grownBy wx U0.ownBlock ∧ (u.ownBlock = U0.ownBlock ∨ ∀ g, u.ownBlock = some g → w2.heap.size ≤ g)) (fun _ i _ => cs.length - (intOf i).toNat)
        case atStart => exact ⟨0, n, Nat.zero_le _, rfl, by omega, by simpa [numC] using hown2, hbW2, World.grownBy.refl _ _, .inl rfl⟩
        case round =>
          obtain ⟨j, n', hj', rfl, hn', hown, hbx, hgx, hux⟩ := hrel
          have hbxz := hbx.size
          have hgxz := hgx.size
          by_cases hltj : j < cs.length
          · obtain ⟨b, o, rfl, hb2', hbne, hcell⟩ := HCl.out (by omega)
            obtain ⟨a, haj⟩ : ∃ a, cs[j]? = some a := ⟨cs[j], List.getElem?_eq_getElem hltj⟩
            have hok := HCk.out a (List.mem_of_getElem? haj)
            have hcw : ∀ (t : Nat) (u : Value), t < 10 → (favC a)[t]? = some u → wr.cell? ⟨b, o + (j * 10 + t), none⟩ = some u := fun t u ht hu =>
              hgx.cell (hcell (j * 10 + t) u ((flat_at favC 10 favC_len cs j a t haj ht).trans hu)) hbne
            have HTc := hid (show numC (cs.take (j + 1)) = numC (cs.take j) ++ numC [a] by rw [List.take_add_one, haj, numC_append]; rfl)
            obtain ⟨fx, fs, fb, fe, ft, _, hfc⟩ := favC_form a
            rw [hfc] at hcw
            have q0 : wr.cell? ⟨b, o + j * 10, none⟩ = some (.string es) := hcw 0 _ (by omega) rfl
            have q1 : wr.cell? ⟨b, o + j * 10 + 1, none⟩ = some (.float .f64 fx) := hcw 1 _ (by omega) rfl
            have q2 : wr.cell? ⟨b, o + j * 10 + 2, none⟩ = some (.string fs) := hcw 2 _ (by omega) rfl
            have q3 : wr.cell? ⟨b, o + j * 10 + 3, none⟩ = some (.slice none 0 0) := hcw 3 _ (by omega) rfl
            have q4 : wr.cell? ⟨b, o + j * 10 + 4, none⟩ = some (.slice none 0 0) := hcw 4 _ (by omega) rfl
            have q5 : wr.cell? ⟨b, o + j * 10 + 5, none⟩ = some (.bool fb) := hcw 5 _ (by omega) rfl
            have q6 : wr.cell? ⟨b, o + j * 10 + 6, none⟩ = some (.string fe) := hcw 6 _ (by omega) rfl
            have q7 : wr.cell? ⟨b, o + j * 10 + 7, none⟩ = some (.int .u8 ft) := hcw 7 _ (by omega) rfl
            have q8 : wr.cell? ⟨b, o + j * 10 + 8, none⟩ = some (.pointer none) := hcw 8 _ (by omega) rfl
            have q9 : wr.cell? ⟨b, o + j * 10 + 9, none⟩ = some (.pointer none) := hcw 9 _ (by omega) rfl
            have hbl : b < wr.heap.size := by omega
            have hkind : (ft = 1 ∧ numC [a] = [.float .f64 fx]) ∨ (((ft == 1) = false) ∧ numC [a] = []) := by
              rcases hok with h0 | ⟨h1, h2, _⟩ | h2
              · right
                have : favC a = faL 0 es false es 6 := by unfold favC; simp [h0]
                rw [this] at hfc
                simp [faL] at hfc
                exact ⟨by rw [← hfc.2.2.2.2]; rfl, by simp [numC, h0]⟩
              · left
                have : favC a = faL a.2.1 es false es 1 := fav_numAv ⟨h1, h2⟩
                rw [this] at hfc
                simp [faL] at hfc
                exact ⟨hfc.2.2.2.2.symm, by simp [numC, h1, hfc.1]⟩
              · right
                have : favC a = faL 0 a.2.2 false es 2 := by unfold favC; simp [h2]
                rw [this] at hfc
                simp [faL] at hfc
                exact ⟨by rw [← hfc.2.2.2.2]; rfl, by simp [numC, h2]⟩
            clear hcw hok haj hfc hcell
            rcases hkind with ⟨rfl, hk1⟩ | ⟨hk0, hk1⟩
            · rw [hk1] at HTc
              go_wp2_with (at_builtin; refine wpList_append_lies _ rfl _ _ 84 rfl W.heap.size 39 i0 _ 1 8 Tryz.underlying84 hi hz0 hz1 hz2 rfl (by decide) _ _ _ rfl ((hown.alloc _).alloc _) ⟨wr.heap.size + 1, 0, none⟩ 1 1 [.float .f64 fx] rfl rfl ?c1 ?c2 (by decide) ?c3 ?c4 ?c5 (wr.heap.size + 1 + 1) ?c6 ?_)
              case c1 =>
                intro i u hi
                rw [add_mid, Nat.zero_add, (Bk.new_at (by simp)).cell]
                simpa using hi
              case c2 => intro u hu; simp at hu; subst hu; rfl
              case c3 => unfold maxLen; omega
              case c4 => omega
              case c5 => simp; omega
              case c6 => simp
              intro gg cap w4 hown4 hgrow hat hlt4
              have hz4 := hgrow.size
              simp at hz4
              have hbn : Below W.heap.size W w4 := ((hbx.alloc hbxz _).alloc (by simp; omega) _).grown hgrow (by simp; omega) (fun g hg => (hown.lt g hg).1)
              have hgn : w2.grownBy w4 U0.ownBlock := by
                have h2 := (hgx.trans (World.grownBy_alloc wr (.cells #[.string es, .float .f64 fx, .string fs, .slice none 0 0, .slice none 0 0, .bool fb, .string fe, .int .u8 1, .pointer none, .pointer none] 63) _)).trans (World.grownBy_alloc _ (.cells #[.float .f64 fx] 39) _)
                refine ⟨hgrow.os.trans h2.os, hgrow.tape.trans h2.tape, hgrow.output.trans h2.output, Nat.le_trans h2.size hgrow.size, fun q hq hne => (hgrow.block q (Nat.lt_of_lt_of_le hq h2.size) (fun e => ?_)).trans (h2.block q hq hne)⟩
                rcases hux with hu | hu
                · exact hne (e.trans hu)
                · have := hu q e.symm; omega
              have hun : (Value.slice (some ⟨gg, 0, none⟩) (n' + 1) cap).ownBlock = U0.ownBlock ∨ ∀ g, (Value.slice (some ⟨gg, 0, none⟩) (n' + 1) cap).ownBlock = some g → w2.heap.size ≤ g := by
                rcases hat with h4 | h4
                · rcases hux with hu | hu
                  · exact .inl (by rw [← hu, h4]; rfl)
                  · exact .inr (fun g hg => hu g (h4.trans hg))
                · exact .inr (fun g hg => by simp [Value.ownBlock] at hg; omega)
              have hown5 : w4.ownsRow W.heap.size 39 1 (.slice (some ⟨gg, 0, none⟩) (n' + 1) cap) (n' + 1) (numK (ms.take k) ++ numC (cs.take (j + 1))) := by
                rw [HTc.out, hzW]; exact hown4
              clear hown hown4 hgrow hat hbx hgx hux q0 q1 q2 q3 q4 q5 q6 q7 q8 q9
              go_wp2_with fail
              go_roundw
              case rel => exact ⟨j + 1, _, by omega, by go_num, by omega, hown5, hbn, hgn, hun⟩
              case measure => simp [intOf]; omega
            · rw [hk1, List.append_nil] at HTc
              have hown5 := hown.alloc (.cells #[.string es, .float .f64 fx, .string fs, .slice none 0 0, .slice none 0 0, .bool fb, .string fe, .int .u8 ft, .pointer none, .pointer none] 63)
              rw [← HTc.out] at hown5
              have hbn := hbx.alloc hbxz (.cells #[.string es, .float .f64 fx, .string fs, .slice none 0 0, .slice none 0 0, .bool fb, .string fe, .int .u8 ft, .pointer none, .pointer none] 63)
              have hgn := hgx.trans (World.grownBy_alloc wr (.cells #[.string es, .float .f64 fx, .string fs, .slice none 0 0, .slice none 0 0, .bool fb, .string fe, .int .u8 ft, .pointer none, .pointer none] 63) _)
              clear hown hbx hgx
              go_wp2_with fail
              go_roundw
              case rel => exact ⟨j + 1, n', by omega, by go_num, by omega, hown5, hbn, hgn, hux⟩
              case measure => simp [intOf]; omega
          · have hjl : j = cs.length := by omega
            subst hjl
            rw [List.take_length, ← HT.out] at hown
            have hbwx : Below w.heap.size w wr := k1.trans (hbx.mono k1.size)
            have hlc : n' ≤ (k + 1) * 1000 := by omega
            go_wp2_with fail
            refine (hn1.out _ hbwx).mono ?_
            rintro e w3 ⟨rfl, rfl⟩
            go_wp2_with fail
            go_roundg (ms.length - (k + 1))
            case measure => omega
            case rel => exact ⟨k + 1, n', by omega, rfl, hid rfl, hlc, hown, hbx⟩
    · have hkl : k = ms.length := by omega
      subst hkl
      rw [List.take_length, HZ.out] at hown
      have hnl : n = Z.length := by have := hown.1; simp at this; omega
      subst hnl
      have hZp : 0 < Z.length := List.length_pos_iff.2 hZ0
      obtain ⟨gg, cap, rfl, hgB, hgl⟩ := own_form2 hown hZp
      unfold elN at hp'
      rw [List.getElem?_eq_none (by omega)] at hp'
      change _ = Value.pointer none at hp'
      subst hp'
      have bRr := bR.below hb (by omega)
      have hF := float64s_own Z _ _ wr hown hZ0 (by omega)
      go_wp2_with fail
      refine hF.mono ?_
      rintro e w2 ⟨rfl, hown2, hg2⟩
      have hb2 : Below w.heap.size w w2 := hbw.grown hg2 hbw.size (fun g hg => by have := (hown.lt g hg).1; omega)
      have bR2 : Bk w2 w.heap.size 63 #[.string ⟨#[]⟩, .float .f64 0, .string ⟨#[]⟩, .slice none 0 0, .slice none 0 0, .bool false, .string ⟨#[]⟩, .int .u8 0, .pointer none, .pointer none] := (hg2.block w.heap.size bRr.lt (fun e => by have := (hown.lt _ e.symm).1; omega)).trans bRr
      obtain ⟨S, hS⟩ : ∃ S, sortF Z = S := ⟨_, rfl⟩
      have hSl : S.length = Z.length := by rw [← hS, sortF_len]
      rw [hS] at hown2
      have HSx := hid hS
      obtain ⟨N, hN⟩ : ∃ N, Z.length = N := ⟨_, rfl⟩
      rw [hN] at hown2 hSl hZp hZl
      have HCell := hid (fun (i : Nat) (x : Fz) (hx : S[i]? = some x) => show w2.cell? ⟨gg, i, none⟩ = some (.float .f64 (bitsF x)) from (hown2.cellAt i (by have := (List.getElem?_eq_some_iff.1 hx).1; omega)).trans (by rw [List.getElem?_map, hx]; rfl))
      have hgl2 : gg < w2.heap.size := by have := hg2.size; omega
      clear hF hown hg2 bR bRr hb hbw hS hown2
      rw [hN]
      go_wp2_with fail
      obtain ⟨L, hL⟩ : ∃ L, S.map (·.1) = L := ⟨_, rfl⟩
      have HLx := hid hL
      have HAt : Hid (∀ (i : Nat) (x : Fz), S[i]? = some x → L[i]? = some x.1) := hid (fun i x hx => by rw [← hL, List.getElem?_map, hx]; rfl)
      have HLl : Hid (L.length = N) := hid (by rw [← hL, List.length_map]; exact hSl)
      clear hL
      go_loopw [12, 13, 14] (fun cv mv iv wx => ∃ (i : Nat), i ≤ N ∧ iv = .int .i64 i ∧ cv = .int .i64 (((L.take i).foldl (impStep L) (0, 0)).1 : Nat) ∧ mv = .float .f64 (enc ((L.take i).foldl (impStep L) (0, 0)).2 4) ∧ Below w2.heap.size w2 wx) (fun _ _ iv _ => N - (intOf iv).toNat)
      case atStart => exact ⟨0, Nat.zero_le _, rfl, rfl, by rw [List.take_zero]; show _ = Value.float .f64 (enc 0 4); rw [enc_zero], Below.refl _ _⟩
      case round =>
        obtain ⟨i, hiN, rfl, rfl, rfl, hbx⟩ := hrel
        have hbxz := hbx.size
        by_cases hlt : i < N
        · obtain ⟨x, hx⟩ : ∃ x, S[i]? = some x := ⟨S[i], List.getElem?_eq_getElem (by omega)⟩
          have hcx := HCell.out i x hx
          have HX := hid hx
          obtain ⟨st, hst⟩ : ∃ st, (L.take i).foldl (impStep L) (0, 0) = st := ⟨_, rfl⟩
          have hst1 : Hid ((L.take (i + 1)).foldl (impStep L) (0, 0) = impStep L st x.1) := hid (by
            rw [List.take_add_one, HAt.out i x hx, List.foldl_append, hst]; rfl)
          rw [hst]
          clear hst hx
          go_wp2_with fail
          obtain ⟨V, hV⟩ : ∃ V, V = wr := ⟨_, rfl⟩
          subst hV
          go_loopw [11, 15] (fun cv jv wx => ∃ (j c : Nat), j ≤ N ∧ jv = .int .i64 j ∧ cv = .int .i64 (c : Nat) ∧ Hid (c + (if i < j then 1 else 0) = (L.take j).count x.1) ∧ c ≤ j ∧ Below w2.heap.size w2 wx) (fun _ jv _ => N - (intOf jv).toNat)
          case atStart => exact ⟨0, 0, Nat.zero_le _, rfl, rfl, hid (by simp), Nat.le_refl _, hbx⟩
          case round =>
            clear hbx hbxz
            obtain ⟨j, c, hjN, rfl, rfl, hcnt, hcj, hbj⟩ := hrel
            have hbjz := hbj.size
            have hbj1 := fun n => Below.drewN hbj n
            by_cases hltj : j < N
            · obtain ⟨y, hy⟩ : ∃ y, S[j]? = some y := ⟨S[j], List.getElem?_eq_getElem (by omega)⟩
              have cy := (hbj.cell (p := ⟨gg, j, none⟩) hgl2).trans (HCell.out j y hy)
              have cx := (hbj.cell (p := ⟨gg, i, none⟩) hgl2).trans hcx
              have hT : Hid ((L.take (j + 1)).count x.1 = (L.take j).count x.1 + (if y.1 = x.1 then 1 else 0)) := hid (by
                rw [List.take_add_one, HAt.out j y hy]
                simp [List.count_append, List.count_cons])
              have hiI : (i : Int) < (N : Int) := by omega
              have hjI : (j : Int) < (N : Int) := by omega
              have hi0 : (0 : Int) ≤ (i : Int) := by omega
              have hj0 : (0 : Int) ≤ (j : Int) := by omega
              by_cases hji : j = i
              · have hd : ((j : Int) == (i : Int)) = true := by simp [hji]
                have hd2 : ((j : Int) != (i : Int)) = false := by simp [hji]
                have hyx : y = x := by
                  rw [hji, HX.out] at hy
                  exact (Option.some.inj hy).symm
                have hcn : Hid (c + (if i < j + 1 then 1 else 0) = (L.take (j + 1)).count x.1) := hid (by
                  have := hcnt.out
                  rw [if_neg (by omega)] at this
                  rw [hT.out, ← this, hyx, if_pos rfl, if_pos (by omega)])
                clear hT hy hyx hcnt
                have hji' := hid hji
                clear hji
                go_wp2_with fail
                go_quiet (fail)
                go_wp2_with fail
                go_roundw
                case rel => exact ⟨j + 1, c, by omega, by go_num, rfl, hcn, by omega, hbj1 nq⟩
                case measure => simp [intOf]; omega
              · have hd : ((j : Int) == (i : Int)) = false := by rw [beq_eq_false_iff_ne]; omega
                have hd2 : ((j : Int) != (i : Int)) = true := by simp; omega
                have hif : (if i < j + 1 then 1 else 0) = (if i < j then 1 else 0) := by
                  by_cases h : i < j
                  · rw [if_pos h, if_pos (by omega)]
                  · rw [if_neg h, if_neg (by omega)]
                have hji' := hid hji
                clear hji
                by_cases heq : y.1 = x.1
                · have hord : FloatKind.f64.format.order (bitsF y) (bitsF x) = some .eq := by rw [order_F, heq]; simp
                  have hcn : Hid (c + 1 + (if i < j + 1 then 1 else 0) = (L.take (j + 1)).count x.1) := hid (by
                    have := hcnt.out
                    rw [hT.out, ← this, if_pos heq, hif]; omega)
                  clear hT hy hcnt heq hif
                  go_wp2_with fail
                  go_quiet (fail)
                  go_wp2_with fail
                  go_roundw
                  case rel => exact ⟨j + 1, c + 1, by omega, by go_num, by go_num, hcn, by omega, hbj1 nq⟩
                  case measure => simp [intOf]; omega
                · have hcn : Hid (c + (if i < j + 1 then 1 else 0) = (L.take (j + 1)).count x.1) := hid (by
                    have := hcnt.out
                    rw [hT.out, ← this, if_neg heq, hif]; omega)
                  have hord : FloatKind.f64.format.order (bitsF y) (bitsF x) = some .lt ∨ FloatKind.f64.format.order (bitsF y) (bitsF x) = some .gt := by
                    rw [order_F]
                    rcases Int.lt_or_gt_of_ne heq with h | h
                    · left; rw [Int.compare_eq_lt.2 h]
                    · right; rw [Int.compare_eq_gt.2 h]
                  clear hT hy hcnt heq hif
                  rcases hord with hord | hord
                  all_goals
                    go_wp2_with fail
                    go_quiet (fail)
                    go_wp2_with fail
                    go_roundw
                    case rel => exact ⟨j + 1, c, by omega, by go_num, rfl, hcn, by omega, hbj1 nq⟩
                    case measure => simp [intOf]; omega
            · have hc1 : Hid (L.count x.1 - 1 = c) := hid (by
                have := hcnt.out
                rw [if_pos (by omega), List.take_of_length_le (by rw [HLl.out]; omega)] at this
                omega)
              have cx := (hbj.cell (p := ⟨gg, i, none⟩) hgl2).trans hcx
              have hiI : (i : Int) < (N : Int) := by omega
              have hi0 : (0 : Int) ≤ (i : Int) := by omega
              clear hcnt
              by_cases hgt : st.1 < c
              · have hst2 : Hid (impStep L st x.1 = (c, x.1)) := hid (by unfold impStep; rw [hc1.out, if_pos hgt])
                have hgI : (st.1 : Int) < (c : Int) := by omega
                go_wp2_with fail
                go_roundw
                case rel => exact ⟨i + 1, by omega, by go_num, by rw [hst1.out, hst2.out], by rw [hst1.out, hst2.out, bitsF_eq], hbj⟩
                case measure => simp [intOf]; omega
              · have hst2 : Hid (impStep L st x.1 = st) := hid (by unfold impStep; rw [hc1.out, if_neg hgt])
                have hgI : ¬ (st.1 : Int) < (c : Int) := by omega
                go_wp2_with fail
                go_roundw
                case rel => exact ⟨i + 1, by omega, by go_num, by rw [hst1.out, hst2.out], by rw [hst1.out, hst2.out], hbj⟩
                case measure => simp [intOf]; omega
        · have hiN2 : i = N := by omega
          have hIM : impMode L = (L.take i).foldl (impStep L) (0, 0) := by
            unfold impMode; rw [List.take_of_length_le (by rw [HLl.out]; omega)]
          obtain ⟨st, hst⟩ : ∃ st, (L.take i).foldl (impStep L) (0, 0) = st := ⟨_, rfl⟩
          rw [hst] at hIM ⊢
          clear hst
          have hR : Hid (modeR ((sortF Z).map (·.1)) = if st.1 = 0 then .err ⟨#[35, 78, 47, 65]⟩ ⟨#[35, 78, 47, 65]⟩ else .num (enc st.2 4)) := hid (by rw [HSx.out, HLx.out]; unfold modeR; rw [hIM])
          have hbnd : Hid (st.1 ≠ 0 → st.2.natAbs < 9007199254740992) := hid (fun h => by
            have h1 := ((impMode_inv L).2 (by rw [hIM]; exact h)).1
            rw [hIM, ← HLx.out] at h1
            obtain ⟨y, _, hy⟩ := List.mem_map.1 h1
            rw [← hy]; exact y.2)
          have bR4 := bR2.below hbx bR2.lt
          have hbF : Below w.heap.size w wr := hb2.trans (hbx.mono hb2.size)
          have hltR := bR4.lt
          clear bR2 hb2 hbx hIM
          by_cases h0 : st.1 = 0
          · have h0I : ((st.1 : Int) == 0) = true := by simp [h0]
            go_wp2_with fail
            refine (newError_any _ _ _).mono ?_
            rintro e w3 ⟨rfl, hb4⟩
            have bR3 := bR4.below hb4 hltR
            have hbG : Below w.heap.size w w3 := hbF.trans (hb4.mono hbF.size)
            obtain ⟨q0, q1, q2, q3, q4, q5, q6, q7, q8, q9, qf⟩ := bR3.cells10
            have hlt3 := bR3.lt
            unfold fa
            go_wp2_with fail
            refine end_cell Tryz.results24 rfl (Bk.set10 bR3 _ _ _ _ _ _ _ _ _ _) Tryz.underlying63 rfl info_fa rfl ⟨?_, Below.set10 hbG (Nat.le_refl _) _ _ _ _ _ _ _ _ _ _⟩
            rw [hR.out, if_pos h0]; rfl
          · have h0I : ((st.1 : Int) == 0) = false := by rw [beq_eq_false_iff_ne]; omega
            have hbn := hbnd.out h0
            go_wp2_with fail
            refine (newNumber_any _ _ (fin_enc _ 4 hbn (by omega))).mono ?_
            rintro e w3 ⟨rfl, hb4⟩
            rw [nz_enc _ 4 hbn (by omega)]
            have bR3 := bR4.below hb4 hltR
            have hbG : Below w.heap.size w w3 := hbF.trans (hb4.mono hbF.size)
            obtain ⟨q0, q1, q2, q3, q4, q5, q6, q7, q8, q9, qf⟩ := bR3.cells10
            have hlt3 := bR3.lt
            unfold fa
            go_wp2_with fail
            refine end_cell Tryz.results24 rfl (Bk.set10 bR3 _ _ _ _ _ _ _ _ _ _) Tryz.underlying63 rfl info_fa rfl ⟨?_, Below.set10 hbG (Nat.le_refl _) _ _ _ _ _ _ _ _ _ _⟩
            rw [hR.out, if_neg h0]; rfl
end Go.Proofs.YtdanlcciefbboaaGreat
