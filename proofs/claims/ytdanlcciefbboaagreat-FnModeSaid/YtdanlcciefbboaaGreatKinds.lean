import Derived.Test.YtdanlcciefbboaaGreatDoubtM
import Derived.Deep.LoopGhost
import Derived.Deep.QuietTactic
import Derived.BigQuiet
namespace Go.Proofs.YtdanlcciefbboaaGreat
open Go.RowKit
attribute [local go_sem] run_store_float

/-- among the first k of the kinds 1, 2, 0, 3 -/
def kk (k : Nat) (x : Int) : Bool := (([1, 2, 0, 3] : List Int).take k).any (· == x)
theorem kk_succ (k : Nat) (x q : Int) (h : ([1, 2, 0, 3] : List Int)[k]? = some q) : kk (k + 1) x = (kk k x || (q == x)) := by
  unfold kk; rw [List.take_add_one, h]; simp
theorem kk4 (x : Int) (h : kk 4 x = true) : x = 1 ∨ x = 2 ∨ x = 0 ∨ x = 3 := by
  simp [kk] at h; omega
def kOk (a : SV) : Bool := kk 4 a.1

set_option maxRecDepth 100000 in
set_option maxHeartbeats 2000000 in
/-- kinds of a matrix -/
theorem kinds_mat (rows : List (List SV)) (n d : Int) (t : ByteArray) (s : Value) (kb : Nat) (w : World) (hs : Rws w w.heap.size 5 svCells s rows) (hK : Bk w kb 3 #[.int .i64 1, .int .i64 2, .int .i64 0, .int .i64 3])
    (hok : ∀ r ∈ rows, r ≠ [] ∧ r.length ≤ 1000 ∧ ∀ a ∈ r, a.1 ≠ 5) (hrl : rows.length ≤ 1000) (htot : rows.flatten.length ≤ 100000) :
    Calls Tryz.prog 78 #[smV (5, n, d, t) s, .slice (some ⟨kb, 0, none⟩) 4 4] w fun e w' => e = .returned (.bool (rows.flatten.all kOk)) ∧ Below w.heap.size w w' := by
  obtain ⟨A, c, rfl⟩ := hs.form
  obtain ⟨l, hl⟩ : ∃ l, rows.flatten = l := ⟨_, rfl⟩
  have HF := hid (fun wx g (hB : Bk wx g 34 #[.int .i64 5, .int .i64 n, .int .i64 d, .string t, .slice A rows.length c]) (hb : Below w.heap.size w wx) => Flat_mat [((5, n, d, t), rows)] (.slice (some ⟨g, 0, none⟩) 1 1) wx
    ⟨[(((5, n, d, t), rows), .slice A rows.length c)], rfl, (SlP.keep (S := fun b => b < wx.heap.size) (by exact (Sl.lit (n := 1) (sz := 5) hB 1 rfl)) fun b hb => ⟨rfl, hb⟩), fun p hp => by
      obtain rfl := List.mem_singleton.1 hp
      exact Rws.below hs hb hb.size⟩
    (fun m hm => by obtain rfl := List.mem_singleton.1 hm; exact .inr ⟨rfl, hok⟩) (by simp) (fun m hm => by obtain rfl := List.mem_singleton.1 hm; exact hrl) (by simp [flatM]; rw [← List.length_flatten]; exact htot))
  have hfl : flatM [((((5 : Int), n, d, t) : SV), rows)] = l := by simp [flatM, hl]
  rw [hfl] at HF
  have hlen : l.length ≤ 100000 := by rw [← hl]; exact htot
  have HK := hid hK
  rw [hl]
  clear hl hs hok hrl htot hfl hK
  unfold smV
  dsimp only
  go_enter Tryz.func78, Tryz.ntmps78
  go_wp2_with fail
  have hbl : Below w.heap.size w ((w.alloc (.cells #[.int .i64 5, .int .i64 n, .int .i64 d, .string t, .slice A rows.length c] 34)).alloc (.cells #[.int .i64 5, .int .i64 n, .int .i64 d, .string t, .slice A rows.length c] 34)) := ((Below.refl _ _).alloc (Nat.le_refl _) _).alloc (by simp) _
  have hB := Bk.new (w.alloc (.cells #[.int .i64 5, .int .i64 n, .int .i64 d, .string t, .slice A rows.length c] 34)) 34 #[.int .i64 5, .int .i64 n, .int .i64 d, .string t, .slice A rows.length c]
  rw [show (w.alloc (.cells #[.int .i64 5, .int .i64 n, .int .i64 d, .string t, .slice A rows.length c] 34)).heap.size = w.heap.size + 1 by simp] at hB
  refine (HF.out _ _ hB hbl).mono ?_
  rintro e wz ⟨v2, rfl, hS2, hb2⟩
  have hbz : Below w.heap.size w wz := Below.lift hbl (by simp; omega) hb2
  have hKz := HK.out.below hbz HK.out.lt
  clear hb2 hbl hB HF HK
  obtain ⟨A2, c2, rfl, hl2, hc2⟩ := hS2
  have hc := hid hc2
  have hk0 : wz.cell? ⟨kb, 0, none⟩ = some (.int .i64 1) := hKz.cell 0
  have hk1 : wz.cell? ⟨kb, 1, none⟩ = some (.int .i64 2) := hKz.cell 1
  have hk2 : wz.cell? ⟨kb, 2, none⟩ = some (.int .i64 0) := hKz.cell 2
  have hk3 : wz.cell? ⟨kb, 3, none⟩ = some (.int .i64 3) := hKz.cell 3
  have hkl := hKz.lt
  clear hc2 hl2 hKz
  have HK4 := hid (And.intro hk0 (And.intro hk1 (And.intro hk2 hk3)))
  clear hk0 hk1 hk2 hk3
  go_wp2_with fail
  go_loopw [6] (fun i wx => ∃ (k : Nat), k ≤ l.length ∧ i = .int .i64 k ∧ Hid ((l.take k).all kOk = true) ∧ Below wz.heap.size wz wx) (fun i _ => l.length - (intOf i).toNat)
  case atStart => exact ⟨0, Nat.zero_le _, rfl, hid rfl, Below.refl _ _⟩
  case round =>
    obtain ⟨k, hk, rfl, hall, hbx⟩ := hrel
    have hbxz := hbx.size
    by_cases hlt : k < l.length
    · obtain ⟨b', o', rfl, hbB, hcell⟩ := hc.out (by omega)
      obtain ⟨a', ha⟩ : ∃ a', l[k]? = some a' := ⟨l[k], List.getElem?_eq_getElem hlt⟩
      have f := fun j (hj : j < 5) => flat_at svCells 5 svCells_len l k a' j ha hj
      have q0 : wz.cell? ⟨b', o' + k * 5, none⟩ = some (.int .i64 a'.1) := by have := hcell (k * 5 + 0) _ ((f 0 (by omega)).trans rfl); simpa using this
      have hnext := hid (show (l.take (k + 1)).all kOk = ((l.take k).all kOk && kOk a') by rw [List.take_add_one, ha]; simp)
      have hstop := hid (fun (h : kOk a' = false) => show l.all kOk = false by rw [List.all_eq_false]; exact ⟨a', List.mem_of_getElem? ha, by simp [h]⟩)
      have hkk : Hid (kOk a' = kk 4 a'.1) := hid rfl
      generalize a'.1 = x at *
      clear f hcell hc ha
      go_wp2_with fail
      go_loopw [7, 8] (fun b i wx => ∃ (j : Nat), j ≤ 4 ∧ i = .int .i64 j ∧ b = .bool (kk j x) ∧ Below wz.heap.size wz wx) (fun _ i _ => 4 - (intOf i).toNat)
      case atStart => exact ⟨0, Nat.zero_le _, rfl, rfl, hbx⟩
      case round =>
        clear hbx hbxz
        obtain ⟨j, hj, rfl, rfl, hbx⟩ := hrel
        have hbxz := hbx.size
        obtain ⟨z, hz⟩ : ∃ z, kk j x = z := ⟨_, rfl⟩
        rw [hz]
        by_cases hlt1 : j < 4
        · obtain ⟨q, hq, hcq⟩ : ∃ q, ([1, 2, 0, 3] : List Int)[j]? = some q ∧ wz.cell? ⟨kb, j, none⟩ = some (.int .i64 q) := by
            obtain ⟨a0, a1, a2, a3⟩ := HK4.out
            have : j = 0 ∨ j = 1 ∨ j = 2 ∨ j = 3 := by omega
            rcases this with rfl | rfl | rfl | rfl
            · exact ⟨1, rfl, a0⟩
            · exact ⟨2, rfl, a1⟩
            · exact ⟨0, rfl, a2⟩
            · exact ⟨3, rfl, a3⟩
          have hs := hid (kk_succ j x q hq)
          rw [hz] at hs
          clear hz hq
          have hjI : (j : Int) < 4 := by omega
          have y0 := (hbx.cell (p := ⟨b', o' + k * 5, none⟩) hbB).trans q0
          have y1 := (hbx.cell (p := ⟨kb, j, none⟩) hkl).trans hcq
          cases z
          · have hs2 : Hid (kk (j + 1) x = (x == q)) := hid (by rw [hs.out, Bool.false_or]; exact Bool.beq_comm)
            obtain ⟨y, hy⟩ : ∃ y, (x == q) = y := ⟨_, rfl⟩
            rw [hy] at hs2
            go_wp2_with fail
            go_quiet (fail)
            go_wp2_with fail
            go_roundw
            case rel => exact ⟨j + 1, by omega, by go_num, by rw [hs2.out], Below.drewN hbx nq⟩
            case measure => simp [intOf]; omega
          · have hs2 : Hid (kk (j + 1) x = true) := hid (by rw [hs.out, Bool.true_or])
            go_wp2_with fail
            go_quiet (fail)
            go_wp2_with fail
            go_roundw
            case rel => exact ⟨j + 1, by omega, by go_num, by rw [hs2.out], Below.drewN hbx nq⟩
            case measure => simp [intOf]; omega
        · have hj4 : j = 4 := by omega
          subst hj4
          rw [hz] at hkk
          clear hz
          cases z
          · have hs := hid (hstop.out hkk.out)
            go_wp2_with fail
            go_ret
            exact ⟨congrArg (fun b => Ending.returned (Value.bool b)) hs.out.symm, Below.lift hbz hbz.size hbx⟩
          · have hs : Hid ((l.take (k + 1)).all kOk = true) := hid (by rw [hnext.out, hall.out, hkk.out]; rfl)
            go_wp2_with fail
            go_roundw
            case rel => exact ⟨k + 1, by omega, by go_num, hs, hbx⟩
            case measure => simp [intOf]; omega
    · have hkl2 : k = l.length := by omega
      have hall2 : Hid (l.all kOk = true) := hid (by have := hall.out; rwa [hkl2, List.take_length] at this)
      clear hkl2 hc
      go_wp2_with fail
      go_ret
      exact ⟨congrArg (fun b => Ending.returned (Value.bool b)) hall2.out.symm, Below.lift hbz hbz.size hbx⟩

/-- kinds of what is no matrix -/
theorem kinds_flat (a : SV) (v : Value) (w : World) (h : a.1 ≠ 5) (A : Option Addr) (n c : Nat) (hv : v = .slice A n c) :
    Calls Tryz.prog 78 #[svV a, v] w fun e w' => e = .returned (.bool false) ∧ Below w.heap.size w w' := by
  subst hv
  obtain ⟨k, m, d, t⟩ := a
  have h5 : (k != 5) = true := by simpa using h
  unfold svV sv
  dsimp only
  clear h
  go_enter Tryz.func78, Tryz.ntmps78
  go_wp2_with fail
  go_ret
  exact ⟨rfl, (Below.refl _ _).alloc (Nat.le_refl _) _⟩
end Go.Proofs.YtdanlcciefbboaaGreat
