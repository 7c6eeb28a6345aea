import Derived.Test.YtjnlghokhlmjlaaGreatDoorRead4
import Derived.Lib.QuietBelow
import Derived.BigQuiet
namespace Go.Proofs.YtjnlghokhlmjlaaGreatDoor
open Go.RowKit Go.Sort
attribute [local go_sem] run_store_float

def IsB (e : Ending) : Prop := ∃ b : Bool, e = .returned (.bool b)
theorem IsB.mk (b : Bool) : IsB (.returned (.bool b)) := ⟨b, rfl⟩

set_option maxRecDepth 100000 in
set_option maxHeartbeats 4000000 in
/-- a text may be a number: it is asked, and an answer comes -/
theorem numeric_text0 (s : ByteArray) (hs : s.size ≤ 1000) (w : World) : Calls Tryz.prog 152 #[sv 2 0 0 s] w fun e w' => IsB e ∧ Below w.heap.size w w' := by
  obtain ⟨b, hL⟩ := letters_fix s hs
  have HL := hid hL
  clear hL
  unfold sv
  go_enter Tryz.func152, Tryz.ntmps152
  go_wp2_with fail
  refine (Read_some s hs _).mono ?_
  rintro e w1 ⟨v, hv, rfl, hb1⟩
  have hP1 := Bk.below (Bk.new w 27 #[.int .i64 2, .int .i64 0, .int .i64 0, .string s, .slice none 0 0]) hb1 (by simp)
  have hd1 := Below.lift ((Below.refl w.heap.size w).alloc (Nat.le_refl _) _) (by simp) hb1
  clear hb1
  have HW : Hid ((∀ W, Calls Tryz.prog 176 #[svV v] W fun e w' => e = .returned (.bool false) ∧ Below W.heap.size W w') ∨ ∃ a : Int, v = (1, a, 1, es) ∧ -99999999999 ≤ a ∧ a ≤ 99999999999) := by
    rcases seen_of hv with (h | h | ⟨a, d, h, hd⟩) | h
    · subst h; exact .inl fun W => isWhole_no _ _ _ _ W (.inl rfl)
    · subst h; exact .inl fun W => isWhole_no _ _ _ _ W (.inl rfl)
    · subst h; exact .inl fun W => isWhole_no _ _ _ _ W (.inr hd)
    · exact .inr h
  clear hv
  unfold svV sv
  obtain ⟨q0, q1, q2, q3, q4, qf⟩ := hP1.cells5
  have lp := hP1.lt
  go_wp2_with fail
  have hP2 := hP1.alloc (.cells #[.int .i64 v.1, .int .i64 v.2.1, .int .i64 v.2.2.1, .string v.2.2.2, .slice none 0 0] 27)
  have hN2 := Bk.new w1 27 #[.int .i64 v.1, .int .i64 v.2.1, .int .i64 v.2.2.1, .string v.2.2.2, .slice none 0 0]
  have hd2 := hd1.alloc hd1.size (.cells #[.int .i64 v.1, .int .i64 v.2.1, .int .i64 v.2.2.1, .string v.2.2.2, .slice none 0 0] 27)
  clear hP1 hd1 q0 q1 q2 q3 q4 qf lp
  generalize w1.alloc (.cells #[.int .i64 v.1, .int .i64 v.2.1, .int .i64 v.2.2.1, .string v.2.2.2, .slice none 0 0] 27) = W at *
  obtain ⟨_, _, _, q3, _, _⟩ := hP2.cells5
  obtain ⟨n0, n1, n2, n3, n4, nf⟩ := hN2.cells5
  have lp := hP2.lt
  have ln := hN2.lt
  clear hP2 hN2
  generalize hg : w1.heap.size = g at *
  clear hg
  have r3 := cell_regrown q3
  have s0 := cell_regrown n0
  have s1 := cell_regrown n1
  have s2 := cell_regrown n2
  have s3 := cell_regrown n3
  have s4 := cell_regrown n4
  have cL : ∀ d os, Calls Tryz.prog 170 #[.string s] (grow (redrawn W d) os) fun e w'' => e = .returned (.bool b) ∧ ∃ p : Regrown, w'' = grow (redrawn W p.d) p.os := fun d os => Calls.regrown_of (HL.out _)
  clear q3 n0 n1 n2 n3 n4 nf
  cases b
  · rcases HW.out with hW | ⟨a, rfl, ha1, ha2⟩
    · have cW : ∀ d os, Calls Tryz.prog 176 #[.agg #[.int .i64 v.1, .int .i64 v.2.1, .int .i64 v.2.2.1, .string v.2.2.2, .slice none 0 0]] (grow (redrawn W d) os) fun e w'' => e = .returned (.bool false) ∧ ∃ p : Regrown, w'' = grow (redrawn W p.d) p.os := fun d os => Calls.regrown_of (hW _)
      clear hW HW
      refine wp_region_quiet_below (by kernel_rfl) (by kernel_rfl) ?_
      repeat (go_big_quiet_step (first | exact cL _ _ | exact cW _ _))
      refine wpQuiet_nil ?_
      intro _ hw'
      obtain ⟨⟨dq, osq⟩, hw''⟩ := hw'
      subst hw''
      go_wp2_with fail
      go_ret
      exact ⟨IsB.mk _, Below.lift hd2 hd2.size (below_regrown W dq osq)⟩
    · clear HW
      obtain ⟨p, hp⟩ : ∃ p, plainS a = p := ⟨_, rfl⟩
      have cW : ∀ d os, Calls Tryz.prog 176 #[.agg #[.int .i64 1, .int .i64 a, .int .i64 1, .string es, .slice none 0 0]] (grow (redrawn W d) os) fun e w'' => e = .returned (.bool true) ∧ ∃ p : Regrown, w'' = grow (redrawn W p.d) p.os := fun d os => Calls.regrown_of (isWhole_yes a es _)
      have cP : ∀ d os, Calls Tryz.prog 241 #[.agg #[.int .i64 1, .int .i64 a, .int .i64 1, .string es, .slice none 0 0]] (grow (redrawn W d) os) fun e w'' => e = .returned (.string p) ∧ ∃ p : Regrown, w'' = grow (redrawn W p.d) p.os := fun d os => Calls.regrown_of (hp ▸ Plain_fix a _ ha1 ha2)
      have cA : ∀ d os, Calls Tryz.prog 242 #[.int .i64 a] (grow (redrawn W d) os) fun e w'' => e = .returned (.int .i64 (a.natAbs : Int)) ∧ ∃ p : Regrown, w'' = grow (redrawn W p.d) p.os := fun d os => Calls.regrown_of ((abs_fix a _ ha1 ha2).mono fun e w' ⟨h1, h2⟩ => ⟨h1, h2 ▸ Below.refl _ _⟩)
      clear hp
      obtain ⟨c, hc⟩ : ∃ c, (p.toList == s.toList) = c := ⟨_, rfl⟩
      cases c
      all_goals
        refine wp_region_quiet_below (by kernel_rfl) (by kernel_rfl) ?_
        repeat (go_big_quiet_step (first | exact cL _ _ | exact cW _ _ | exact cP _ _ | exact cA _ _))
        refine wpQuiet_nil ?_
        intro _ hw'
        obtain ⟨⟨dq, osq⟩, hw''⟩ := hw'
        subst hw''
        go_wp2_with fail
        go_ret
        exact ⟨IsB.mk _, Below.lift hd2 hd2.size (below_regrown W dq osq)⟩
  · clear HW
    refine wp_region_quiet_below (by kernel_rfl) (by kernel_rfl) ?_
    repeat (go_big_quiet_step (exact cL _ _))
    refine wpQuiet_nil ?_
    intro _ hw'
    obtain ⟨⟨dq, osq⟩, hw''⟩ := hw'
    subst hw''
    go_wp2_with fail
    go_ret
    exact ⟨IsB.mk _, Below.lift hd2 hd2.size (below_regrown W dq osq)⟩

theorem numeric_text (s : ByteArray) (hs : s.size ≤ 1000) (w : World) : Calls Tryz.prog 152 #[sv 2 0 0 s] w fun e w' => (∃ b : Bool, e = .returned (.bool b)) ∧ Below w.heap.size w w' :=
  (numeric_text0 s hs w).mono fun _ _ ⟨h, hb⟩ => ⟨h, hb⟩
end Go.Proofs.YtjnlghokhlmjlaaGreatDoor
