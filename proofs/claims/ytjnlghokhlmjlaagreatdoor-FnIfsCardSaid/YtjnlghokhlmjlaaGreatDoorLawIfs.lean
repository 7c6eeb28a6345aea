import Derived.Test.YtjnlghokhlmjlaaGreatDoorIfsA
import Derived.Deep.RegionHeld3
import Derived.Deep.AppendLies
import Derived.Laws.AppendOwn
namespace Go.Proofs.YtjnlghokhlmjlaaGreatDoor
open Go.RowKit
attribute [local go_sem] run_store_float

theorem cell_lt {w : World} {p : Addr} {v : Value} (h : w.cell? p = some v) : p.block < w.heap.size := by
  rcases Nat.lt_or_ge p.block w.heap.size with hh | hh
  · exact hh
  · have e : w.heap[p.block]? = none := Array.getElem?_eq_none hh
    simp [World.cell?, e] at h
theorem add_block' (p : Addr) (k : Nat) : (p.add k).block = p.block := by unfold Addr.add; split <;> rfl
theorem row_take (l : List (Bool × Int)) (k : Nat) (b : Bool) (n : Int) (h : l[k]? = some (b, n)) : (row (l.take (k + 1))).flatMap svCells = (row (l.take k)).flatMap svCells ++ (svCells (3, b2i b, 0, es) ++ svCells (wv n)) := by
  unfold row
  rw [List.take_add_one, h, List.flatMap_append, List.flatMap_append]
  simp

set_option maxRecDepth 100000 in
set_option maxHeartbeats 1000000 in
theorem ifs_in (n m cn cm : Nat) (A1 A2 : Option Addr) (B : Nat → Bool) (Z : Nat → Int) (w : World) (hn : n ≤ 15) (hm : m ≤ 2147483647) (hnm : n ≤ m)
    (hB : ∀ i, i < n → ∃ a, A1 = some a ∧ w.cell? (a.add i) = some (.bool (B i))) (hZ : ∀ i, i < m → ∃ a, A2 = some a ∧ w.cell? (a.add i) = some (.int .i64 (Z i))) :
    Calls Tryz.prog 3 #[.slice A1 n cn, .slice A2 m cm] w fun e w' => e = .returned (.bool true) ∧ Below w.heap.size w w' := by
  obtain ⟨i0, hi, hz0, hz1, hz2⟩ := info_parts infos_sv
  obtain ⟨l, hl⟩ : ∃ l : List (Bool × Int), l = (List.range n).map fun i => (B i, Z i) := ⟨_, rfl⟩
  have hlen : l.length = n := by rw [hl]; simp
  have HG : Hid (∀ k, k < n → l[k]? = some (B k, Z k)) := fun k hk => by rw [hl, List.getElem?_map, List.getElem?_range hk]; rfl
  have HL := hid hlen
  have HB := hid hB
  have HZ := hid hZ
  have hdec : decide (m < n) = false := decide_eq_false (by omega)
  clear hl hlen hB hZ
  go_enter Tryz.func3, Tryz.ntmps3
  go_wp2_with fail
  go_loopw [5, 6] (fun u i wr => ∃ (k j : Nat), k ≤ n ∧ i = .int .i64 (k : Int) ∧ Hid (j = 2 * k) ∧ wr.ownsRow w.heap.size 27 5 u j ((row (l.take k)).flatMap svCells) ∧ Below w.heap.size w wr) (fun _ i _ => n - (intOf i).toNat)
  case atStart => exact ⟨0, 0, Nat.zero_le _, rfl, by show _ = _; rfl, World.ownsRow_nil _ _ _ _, Below.refl _ _⟩
  case round =>
    obtain ⟨k, j, hk, rfl, hj, hown, hb⟩ := hrel
    by_cases hlt : k < n
    · obtain ⟨p, rfl, g0⟩ := HB.out k hlt
      obtain ⟨q, rfl, g1⟩ := HZ.out k (by omega)
      have lp := cell_lt g0
      have lq := cell_lt g1
      have hkm : (k : Int) < (m : Int) := by omega
      have hk0 : (0 : Int) ≤ (k : Int) := by omega
      have hkn : (k : Int) < (n : Int) := by omega
      have hj30 : j ≤ 28 := by have := hj.out; omega
      have HR := hid (row_take l k (B k) (Z k) (HG.out k hlt))
      have HS : Hid (∀ w', Below w.heap.size w w' → (w'.cell? (p.add k) = some (.bool (B k)) ∧ w'.cell? (q.add k) = some (.int .i64 (Z k)))) := hid (fun w' hw => ⟨(hw.cell (p := p.add k) lp).trans g0, (hw.cell (p := q.add k) lq).trans g1⟩)
      have HW := hid (argWhole_wv (Z k))
      clear g0 g1
      obtain ⟨g0, g1⟩ := HS.out wr hb
      generalize B k = b at *
      generalize wv (Z k) = a at *
      generalize Z k = z at *
      have hbz := hb.size
      have k0d : Below w.heap.size w wr.drew := Below.drew hb
      go_wp2_with fail
      go_region_held3 (fun w' => w'.cell? (p.add k) = some (.bool b) ∧ w'.cell? (q.add k) = some (.int .i64 z))
        (first | with_reducible exact HS.out _ hk4 | with_reducible exact HS.out _ hk3 | with_reducible exact HS.out _ (hk3.alloc hk3.size _) | with_reducible exact HS.out _ hk2 | with_reducible exact HS.out _ hb | with_reducible exact HS.out _ k0d | go_keep)
        (first
          | (go_at_call 6; refine (bool_any b _).mono ?_; rintro e w2 ⟨rfl, hb2⟩; have hk2 : Below w.heap.size w w2 := Below.lift k0d k0d.size hb2; have hr2 : Below wr.heap.size wr w2 := Below.lift (Below.drew (Below.refl _ _)) (Nat.le_refl _) hb2; unfold sv)
          | (go_at_call 7; refine (HW.out _).mono ?_; rintro e w3 ⟨rfl, hb3⟩; have hk3 : Below w.heap.size w w3 := Below.lift hk2 hk2.size hb3; have hr3 : Below wr.heap.size wr w3 := Below.lift hr2 hr2.size hb3; have hz3 := hk3.size; unfold svV sv)
          | (refine step_append_lies _ (by rfl) _ _ _ (by rfl) w.heap.size 27 i0 _ 5 64 Tryz.underlying24 hi hz0 hz1 hz2 (by rfl) (by decide) u5 j ((row (l.take k)).flatMap svCells) (by rfl) ((own_keep hown hr3).alloc _) ⟨w3.heap.size, 0, none⟩ 2 2 (svCells (3, b2i b, 0, es) ++ svCells a) (by rfl) (by rfl) (World.news_of_block (cs := #[.int .i64 3, .int .i64 (b2i b), .int .i64 0, .string es, .slice none 0 0, .int .i64 a.1, .int .i64 a.2.1, .int .i64 a.2.2.1, .string a.2.2.2, .slice none 0 0]) (t := 27) (fr := (0, 0)) (heap_alloc_new w3 _)) (by simp [svCells, Value.oneCell']) (by omega) (by unfold maxLen; omega) (by omega) (by simp; omega) (w3.heap.size + 1) (by simp) ?_; intro gg cap w4 hown4 hgrow hat hlt4; have hk4 : Below w.heap.size w w4 := (hk3.alloc hk3.size _).grown hgrow (by simp; omega) (fun g hg => (((own_keep hown hr3).lt) g hg).1)))
      clear HW g0 g1 hb2 hb3 hr2 hr3 hat hgrow k0d hk2 hk3 hb hown
      rw [← HR.out] at hown4
      go_wp2_with fail
      go_roundw
      case rel => first | exact ⟨k + 1, j + 2, by omega, by go_num, by have := hj.out; show _ = _; omega, hown4, hk4⟩ | ((repeat apply Exists.intro); exact ⟨⟨k + 1, j + 2, by omega, by go_num, by have := hj.out; show _ = _; omega, hown4, hk4⟩, rfl⟩)
      case measure => simp [intOf]; omega
    · have hkl : k = n := by omega
      subst hkl
      have htk : l.take k = l := by rw [← HL.out, List.take_length]
      rw [htk] at hown
      have hjl : j = (row l).length := by rw [row_len, HL.out]; exact hj.out
      have hl15 : l.length ≤ 15 := by rw [HL.out]; exact hn
      have HS := hid (Sl.of_own hown)
      obtain ⟨A, c, hv, _, _⟩ := Sl.of_own hown
      subst hv
      subst hjl
      clear hown htk hj
      go_wp2_with fail
      refine (agree_IFS l hl15 A c _ HS.out).mono ?_
      rintro e w2 ⟨rfl, hb2⟩
      go_wp2_with fail
      go_ret
      exact ⟨rfl, Below.lift hb hb.size hb2⟩

set_option maxRecDepth 100000 in
theorem law_FnIfs (n m cn cm : Nat) (A1 A2 : Option Addr) (B : Nat → Bool) (Z : Nat → Int) (w : World) (hn : n ≤ maxLen) (hm : m ≤ maxLen)
    (hB : ∀ i, i < n → ∃ a, A1 = some a ∧ w.cell? (a.add i) = some (.bool (B i))) (hZ : ∀ i, i < m → ∃ a, A2 = some a ∧ w.cell? (a.add i) = some (.int .i64 (Z i))) :
    Calls Tryz.prog 3 #[.slice A1 n cn, .slice A2 m cm] w fun e w' => e = .returned (.bool true) ∧ Below w.heap.size w w' := by
  unfold maxLen at hn hm
  by_cases h1 : 2147483647 < n
  · clear hB hZ
    go_enter Tryz.func3, Tryz.ntmps3
    go_wp2_with fail
    go_ret
    exact ⟨rfl, Below.refl _ _⟩
  by_cases h2 : 2147483647 < m
  · clear hB hZ
    go_enter Tryz.func3, Tryz.ntmps3
    go_wp2_with fail
    go_ret
    exact ⟨rfl, Below.refl _ _⟩
  by_cases h3 : 15 < n
  · clear hB hZ
    go_enter Tryz.func3, Tryz.ntmps3
    go_wp2_with fail
    go_ret
    exact ⟨rfl, Below.refl _ _⟩
  by_cases h4 : m < n
  · clear hB hZ
    go_enter Tryz.func3, Tryz.ntmps3
    go_wp2_with fail
    go_ret
    exact ⟨rfl, Below.refl _ _⟩
  exact ifs_in n m cn cm A1 A2 B Z w (by omega) (by omega) (by omega) hB hZ
end Go.Proofs.YtjnlghokhlmjlaaGreatDoor
