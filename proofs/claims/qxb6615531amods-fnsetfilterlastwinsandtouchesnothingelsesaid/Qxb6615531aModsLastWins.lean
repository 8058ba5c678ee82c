/-
  The walk of FnSetFilterLastWinsAndTouchesNothingElse (6), written by a small program of this seat's (wip/gen).
-/
import Derived.Test.Qxb6615531aModsLaws
import Derived.Test.Qxb6615531aModsBytes4
namespace Go.Proofs.Qxb6615531aMods
open Go.ChangeShapes Go.WideShapes Go.ChangeAt Go.RowKit
set_option linter.unusedVariables false

set_option maxHeartbeats 4000000 in
set_option maxRecDepth 100000 in
theorem lastWins_one (y z : Int) (p q p2 q2 : Option Addr) (n m n2 m2 i j i2 j2 : Nat) (S T S2 T2 : Nat → ByteArray) (w : World) (hz : z = if y < 0 then 0 else y) (s_a0 : SS w p n S) (s_b0 : SS w q m T) (s_c0 : SS w p2 n2 S2) (s_d0 : SS w q2 m2 T2) (hn : n ≤ 65536) (hm : m ≤ 65536) (hn2 : n2 ≤ 65536) (hm2 : m2 ≤ 65536) :
    Calls Trym.prog 6 #[.int .i64 1, .int .i64 y, .slice p n i, .slice q m j, .slice p2 n2 i2, .slice q2 m2 j2] w fun e w' => e = .returned (.bool true) ∧ Below w.heap.size w w' := by
  have bel : Below w.heap.size w w := Below.refl _ _
  by_cases hy : y < 0
  · rw [if_pos hy] at hz
    subst hz
    have HZ : Hid (0 = if y < 0 then 0 else y) := by show 0 = if y < 0 then 0 else y; rw [if_pos hy]
    go_enter Trym.func6, Trym.ntmps6
    go_wp2_with fail
    refine (bytes4_any _ _ _ _ _ _ _ _ _ _ _ _ _ _ S T S2 T2 _ s_a0 s_b0 s_c0 s_d0 (by omega) (by omega) (by omega) (by omega)).mono ?_
    rintro e w' ⟨⟨b, rfl⟩, hw⟩
    subst w'
    cases b
    · go_wp2
      go_ret
      exact ⟨rfl, bel⟩
    go_wp2_with fail
    refine (budget_any _ _ _ S _ _ s_a0 (by omega) (by omega) (by omega)).mono ?_
    rintro e w' ⟨⟨r0, rfl, hr0⟩, hw⟩
    subst w'
    by_cases hs0 : r0 < 0
    · go_wp2
      go_ret
      exact ⟨rfl, bel⟩
    go_wp2_with fail
    refine (budget_any _ _ _ T _ _ s_b0 (by omega) (by omega) (by omega)).mono ?_
    rintro e w' ⟨⟨r1, rfl, hr1⟩, hw⟩
    subst w'
    by_cases hs1 : r1 < 0
    · go_wp2
      go_ret
      exact ⟨rfl, bel⟩
    go_wp2_with fail
    refine (budget_any _ _ _ S2 _ _ s_c0 (by omega) (by omega) (by omega)).mono ?_
    rintro e w' ⟨⟨r2, rfl, hr2⟩, hw⟩
    subst w'
    by_cases hs2 : r2 < 0
    · go_wp2
      go_ret
      exact ⟨rfl, bel⟩
    go_wp2_with fail
    refine (budget_any _ _ _ T2 _ _ s_d0 (by omega) (by omega) (by omega)).mono ?_
    rintro e w' ⟨⟨r3, rfl, hr3⟩, hw⟩
    subst w'
    by_cases hs3 : r3 < 0
    · go_wp2
      go_ret
      exact ⟨rfl, bel⟩
    go_wp2_with fail
    refine (clone_law _ _ _ S _ s_a0 hn).mono ?_
    rintro e W1 ⟨p_a, i_a, rfl, s_a, nil_a, k_a, hb⟩
    replace s_a0 := s_a0.later hb
    replace s_b0 := s_b0.later hb
    replace s_c0 := s_c0.later hb
    replace s_d0 := s_d0.later hb
    replace bel := bel.trans (hb.mono bel.size)
    clear hb
    go_wp2_with fail
    refine (clone_law _ _ _ T _ s_b0 hm).mono ?_
    rintro e W2 ⟨p_b, i_b, rfl, s_b, nil_b, k_b, hb⟩
    replace s_a0 := s_a0.later hb
    replace s_b0 := s_b0.later hb
    replace s_c0 := s_c0.later hb
    replace s_d0 := s_d0.later hb
    replace s_a := s_a.later hb
    replace k_a := k_a.up hb.size
    replace bel := bel.trans (hb.mono bel.size)
    clear hb
    go_wp2_with fail
    refine (clone_law _ _ _ S2 _ s_c0 hn2).mono ?_
    rintro e W3 ⟨p_c, i_c, rfl, s_c, nil_c, k_c, hb⟩
    replace s_a0 := s_a0.later hb
    replace s_b0 := s_b0.later hb
    replace s_c0 := s_c0.later hb
    replace s_d0 := s_d0.later hb
    replace s_a := s_a.later hb
    replace k_a := k_a.up hb.size
    replace s_b := s_b.later hb
    replace k_b := k_b.up hb.size
    replace bel := bel.trans (hb.mono bel.size)
    clear hb
    go_wp2_with fail
    refine (clone_law _ _ _ T2 _ s_d0 hm2).mono ?_
    rintro e W4 ⟨p_d, i_d, rfl, s_d, nil_d, k_d, hb⟩
    replace s_a0 := s_a0.later hb
    replace s_b0 := s_b0.later hb
    replace s_c0 := s_c0.later hb
    replace s_d0 := s_d0.later hb
    replace s_a := s_a.later hb
    replace k_a := k_a.up hb.size
    replace s_b := s_b.later hb
    replace k_b := k_b.up hb.size
    replace s_c := s_c.later hb
    replace k_c := k_c.up hb.size
    replace bel := bel.trans (hb.mono bel.size)
    clear hb
    clear s_a0 s_b0 s_c0 s_d0 nil_a nil_b nil_c nil_d
    go_wp2_with fail
    refine (newDB_law _ _).mono ?_
    rintro e W5 ⟨g, rfl, d_g, hge, hb⟩
    have aw_a_g := k_a.away_lt hge
    have aw_b_g := k_b.away_lt hge
    have aw_c_g := k_c.away_lt hge
    have aw_d_g := k_d.away_lt hge
    have low_g : w.heap.size ≤ g := by have := bel.size; omega
    clear hge
    replace s_a := s_a.later hb
    replace k_a := k_a.up hb.size
    replace s_b := s_b.later hb
    replace k_b := k_b.up hb.size
    replace s_c := s_c.later hb
    replace k_c := k_c.up hb.size
    replace s_d := s_d.later hb
    replace k_d := k_d.up hb.size
    replace bel := bel.trans (hb.mono bel.size)
    clear hb
    go_wp2_with fail
    refine (clone_law _ _ _ S _ s_a hn).mono ?_
    rintro e W6 ⟨p_a1, i_a1, rfl, s_a1, nil_a1, k_a1, hb⟩
    have aw_a1_g := k_a1.away_ge d_g.lt
    replace s_a := s_a.later hb
    replace k_a := k_a.up hb.size
    replace s_b := s_b.later hb
    replace k_b := k_b.up hb.size
    replace s_c := s_c.later hb
    replace k_c := k_c.up hb.size
    replace s_d := s_d.later hb
    replace k_d := k_d.up hb.size
    replace d_g := d_g.later hb
    replace bel := bel.trans (hb.mono bel.size)
    clear hb
    go_wp2_with fail
    refine (clone_law _ _ _ T _ s_b hm).mono ?_
    rintro e W7 ⟨p_b1, i_b1, rfl, s_b1, nil_b1, k_b1, hb⟩
    have aw_b1_g := k_b1.away_ge d_g.lt
    replace s_a := s_a.later hb
    replace k_a := k_a.up hb.size
    replace s_b := s_b.later hb
    replace k_b := k_b.up hb.size
    replace s_c := s_c.later hb
    replace k_c := k_c.up hb.size
    replace s_d := s_d.later hb
    replace k_d := k_d.up hb.size
    replace s_a1 := s_a1.later hb
    replace k_a1 := k_a1.up hb.size
    replace d_g := d_g.later hb
    replace bel := bel.trans (hb.mono bel.size)
    clear hb
    go_wp2_with fail
    refine (setFilter_law _ _ _ _ _ _ _ _ _ _ _ _ d_g).mono ?_
    rintro e W8 ⟨rfl, dd, hx⟩
    clear d_g
    have d_g := dd
    clear dd
    replace s_a := s_a.ex hx aw_a_g
    replace k_a := k_a.up hx.size
    replace s_b := s_b.ex hx aw_b_g
    replace k_b := k_b.up hx.size
    replace s_c := s_c.ex hx aw_c_g
    replace k_c := k_c.up hx.size
    replace s_d := s_d.ex hx aw_d_g
    replace k_d := k_d.up hx.size
    replace s_a1 := s_a1.ex hx aw_a1_g
    replace k_a1 := k_a1.up hx.size
    replace s_b1 := s_b1.ex hx aw_b1_g
    replace k_b1 := k_b1.up hx.size
    replace bel := bel.trans (hx.below low_g bel.size)
    clear hx
    go_wp2_with fail
    refine (filterOf_law _ _ _ _ _ _ _ _ _ _ d_g).mono ?_
    rintro e W9 ⟨rfl, hb⟩
    replace s_a := s_a.later hb
    replace k_a := k_a.up hb.size
    replace s_b := s_b.later hb
    replace k_b := k_b.up hb.size
    replace s_c := s_c.later hb
    replace k_c := k_c.up hb.size
    replace s_d := s_d.later hb
    replace k_d := k_d.up hb.size
    replace s_a1 := s_a1.later hb
    replace k_a1 := k_a1.up hb.size
    replace s_b1 := s_b1.later hb
    replace k_b1 := k_b1.up hb.size
    replace d_g := d_g.later hb
    replace bel := bel.trans (hb.mono bel.size)
    clear hb
    go_wp2_with fail
    refine (same_law _ _ _ _ _ S _ s_a1 s_a hn nil_a1).mono ?_
    rintro e W10 ⟨rfl, hb⟩
    replace s_a := s_a.later hb
    replace k_a := k_a.up hb.size
    replace s_b := s_b.later hb
    replace k_b := k_b.up hb.size
    replace s_c := s_c.later hb
    replace k_c := k_c.up hb.size
    replace s_d := s_d.later hb
    replace k_d := k_d.up hb.size
    replace s_a1 := s_a1.later hb
    replace k_a1 := k_a1.up hb.size
    replace s_b1 := s_b1.later hb
    replace k_b1 := k_b1.up hb.size
    replace d_g := d_g.later hb
    replace bel := bel.trans (hb.mono bel.size)
    clear hb
    go_wp2_with fail
    refine (same_law _ _ _ _ _ T _ s_b1 s_b hm nil_b1).mono ?_
    rintro e W11 ⟨rfl, hb⟩
    replace s_a := s_a.later hb
    replace k_a := k_a.up hb.size
    replace s_b := s_b.later hb
    replace k_b := k_b.up hb.size
    replace s_c := s_c.later hb
    replace k_c := k_c.up hb.size
    replace s_d := s_d.later hb
    replace k_d := k_d.up hb.size
    replace s_a1 := s_a1.later hb
    replace k_a1 := k_a1.up hb.size
    replace s_b1 := s_b1.later hb
    replace k_b1 := k_b1.up hb.size
    replace d_g := d_g.later hb
    replace bel := bel.trans (hb.mono bel.size)
    clear hb
    go_wp2_with fail
    refine (engine_law _ _ _ _ _ _ d_g).mono ?_
    rintro e W12 ⟨rfl, rfl⟩
    go_wp2_with fail
    refine (lockWait_law _ _ _ _ _ _ d_g).mono ?_
    rintro e W13 ⟨rfl, rfl⟩
    clear s_a k_a
    clear s_b k_b
    clear s_a1 k_a1
    clear s_b1 k_b1
    go_wp2_with fail
    refine (clone_law _ _ _ S2 _ s_c hn2).mono ?_
    rintro e W14 ⟨p_c1, i_c1, rfl, s_c1, nil_c1, k_c1, hb⟩
    have aw_c1_g := k_c1.away_ge d_g.lt
    replace s_c := s_c.later hb
    replace k_c := k_c.up hb.size
    replace s_d := s_d.later hb
    replace k_d := k_d.up hb.size
    replace d_g := d_g.later hb
    replace bel := bel.trans (hb.mono bel.size)
    clear hb
    go_wp2_with fail
    refine (clone_law _ _ _ T2 _ s_d hm2).mono ?_
    rintro e W15 ⟨p_d1, i_d1, rfl, s_d1, nil_d1, k_d1, hb⟩
    have aw_d1_g := k_d1.away_ge d_g.lt
    replace s_c := s_c.later hb
    replace k_c := k_c.up hb.size
    replace s_d := s_d.later hb
    replace k_d := k_d.up hb.size
    replace s_c1 := s_c1.later hb
    replace k_c1 := k_c1.up hb.size
    replace d_g := d_g.later hb
    replace bel := bel.trans (hb.mono bel.size)
    clear hb
    go_wp2_with fail
    refine (setFilter_law _ _ _ _ _ _ _ _ _ _ _ _ d_g).mono ?_
    rintro e W16 ⟨rfl, dd, hx⟩
    clear d_g
    have d_g := dd
    clear dd
    replace s_c := s_c.ex hx aw_c_g
    replace k_c := k_c.up hx.size
    replace s_d := s_d.ex hx aw_d_g
    replace k_d := k_d.up hx.size
    replace s_c1 := s_c1.ex hx aw_c1_g
    replace k_c1 := k_c1.up hx.size
    replace s_d1 := s_d1.ex hx aw_d1_g
    replace k_d1 := k_d1.up hx.size
    replace bel := bel.trans (hx.below low_g bel.size)
    clear hx
    go_wp2_with fail
    refine (filterOf_law _ _ _ _ _ _ _ _ _ _ d_g).mono ?_
    rintro e W17 ⟨rfl, hb⟩
    replace s_c := s_c.later hb
    replace k_c := k_c.up hb.size
    replace s_d := s_d.later hb
    replace k_d := k_d.up hb.size
    replace s_c1 := s_c1.later hb
    replace k_c1 := k_c1.up hb.size
    replace s_d1 := s_d1.later hb
    replace k_d1 := k_d1.up hb.size
    replace d_g := d_g.later hb
    replace bel := bel.trans (hb.mono bel.size)
    clear hb
    go_wp2_with fail
    refine (same_law _ _ _ _ _ S2 _ s_c1 s_c hn2 nil_c1).mono ?_
    rintro e W18 ⟨rfl, hb⟩
    replace s_c := s_c.later hb
    replace k_c := k_c.up hb.size
    replace s_d := s_d.later hb
    replace k_d := k_d.up hb.size
    replace s_c1 := s_c1.later hb
    replace k_c1 := k_c1.up hb.size
    replace s_d1 := s_d1.later hb
    replace k_d1 := k_d1.up hb.size
    replace d_g := d_g.later hb
    replace bel := bel.trans (hb.mono bel.size)
    clear hb
    go_wp2_with fail
    refine (same_law _ _ _ _ _ T2 _ s_d1 s_d hm2 nil_d1).mono ?_
    rintro e W19 ⟨rfl, hb⟩
    replace s_c := s_c.later hb
    replace k_c := k_c.up hb.size
    replace s_d := s_d.later hb
    replace k_d := k_d.up hb.size
    replace s_c1 := s_c1.later hb
    replace k_c1 := k_c1.up hb.size
    replace s_d1 := s_d1.later hb
    replace k_d1 := k_d1.up hb.size
    replace d_g := d_g.later hb
    replace bel := bel.trans (hb.mono bel.size)
    clear hb
    go_wp2_with fail
    refine (engine_law _ _ _ _ _ _ d_g).mono ?_
    rintro e W20 ⟨rfl, rfl⟩
    go_wp2_with fail
    refine (lockWait_law _ _ _ _ _ _ d_g).mono ?_
    rintro e W21 ⟨rfl, rfl⟩
    go_wp2_with fail
    refine (setWait_law _ _ _ _ _ _ _ _ d_g HZ.out).mono ?_
    rintro e W22 ⟨rfl, dd, hx⟩
    clear d_g
    have d_g := dd
    clear dd
    replace s_c := s_c.ex hx aw_c_g
    replace k_c := k_c.up hx.size
    replace s_d := s_d.ex hx aw_d_g
    replace k_d := k_d.up hx.size
    replace s_c1 := s_c1.ex hx aw_c1_g
    replace k_c1 := k_c1.up hx.size
    replace s_d1 := s_d1.ex hx aw_d1_g
    replace k_d1 := k_d1.up hx.size
    replace bel := bel.trans (hx.below low_g bel.size)
    clear hx
    go_wp2_with fail
    refine (filterOf_law _ _ _ _ _ _ _ _ _ _ d_g).mono ?_
    rintro e W23 ⟨rfl, hb⟩
    replace s_c := s_c.later hb
    replace k_c := k_c.up hb.size
    replace s_d := s_d.later hb
    replace k_d := k_d.up hb.size
    replace s_c1 := s_c1.later hb
    replace k_c1 := k_c1.up hb.size
    replace s_d1 := s_d1.later hb
    replace k_d1 := k_d1.up hb.size
    replace d_g := d_g.later hb
    replace bel := bel.trans (hb.mono bel.size)
    clear hb
    go_wp2_with fail
    refine (same_law _ _ _ _ _ S2 _ s_c1 s_c hn2 nil_c1).mono ?_
    rintro e W24 ⟨rfl, hb⟩
    replace s_c := s_c.later hb
    replace k_c := k_c.up hb.size
    replace s_d := s_d.later hb
    replace k_d := k_d.up hb.size
    replace s_c1 := s_c1.later hb
    replace k_c1 := k_c1.up hb.size
    replace s_d1 := s_d1.later hb
    replace k_d1 := k_d1.up hb.size
    replace d_g := d_g.later hb
    replace bel := bel.trans (hb.mono bel.size)
    clear hb
    go_wp2_with fail
    refine (same_law _ _ _ _ _ T2 _ s_d1 s_d hm2 nil_d1).mono ?_
    rintro e W25 ⟨rfl, hb⟩
    replace s_c := s_c.later hb
    replace k_c := k_c.up hb.size
    replace s_d := s_d.later hb
    replace k_d := k_d.up hb.size
    replace s_c1 := s_c1.later hb
    replace k_c1 := k_c1.up hb.size
    replace s_d1 := s_d1.later hb
    replace k_d1 := k_d1.up hb.size
    replace d_g := d_g.later hb
    replace bel := bel.trans (hb.mono bel.size)
    clear hb
    go_wp2_with fail
    refine (engine_law _ _ _ _ _ _ d_g).mono ?_
    rintro e W26 ⟨rfl, rfl⟩
    go_wp2_with fail
    refine (lockWait_law _ _ _ _ _ _ d_g).mono ?_
    rintro e W27 ⟨rfl, rfl⟩
    go_wp2
    go_ret
    exact ⟨rfl, bel⟩
  · rw [if_neg hy] at hz
    subst hz
    have HZ : Hid (z = if z < 0 then 0 else z) := by show z = if z < 0 then 0 else z; rw [if_neg hy]
    go_enter Trym.func6, Trym.ntmps6
    go_wp2_with fail
    refine (bytes4_any _ _ _ _ _ _ _ _ _ _ _ _ _ _ S T S2 T2 _ s_a0 s_b0 s_c0 s_d0 (by omega) (by omega) (by omega) (by omega)).mono ?_
    rintro e w' ⟨⟨b, rfl⟩, hw⟩
    subst w'
    cases b
    · go_wp2
      go_ret
      exact ⟨rfl, bel⟩
    go_wp2_with fail
    refine (budget_any _ _ _ S _ _ s_a0 (by omega) (by omega) (by omega)).mono ?_
    rintro e w' ⟨⟨r0, rfl, hr0⟩, hw⟩
    subst w'
    by_cases hs0 : r0 < 0
    · go_wp2
      go_ret
      exact ⟨rfl, bel⟩
    go_wp2_with fail
    refine (budget_any _ _ _ T _ _ s_b0 (by omega) (by omega) (by omega)).mono ?_
    rintro e w' ⟨⟨r1, rfl, hr1⟩, hw⟩
    subst w'
    by_cases hs1 : r1 < 0
    · go_wp2
      go_ret
      exact ⟨rfl, bel⟩
    go_wp2_with fail
    refine (budget_any _ _ _ S2 _ _ s_c0 (by omega) (by omega) (by omega)).mono ?_
    rintro e w' ⟨⟨r2, rfl, hr2⟩, hw⟩
    subst w'
    by_cases hs2 : r2 < 0
    · go_wp2
      go_ret
      exact ⟨rfl, bel⟩
    go_wp2_with fail
    refine (budget_any _ _ _ T2 _ _ s_d0 (by omega) (by omega) (by omega)).mono ?_
    rintro e w' ⟨⟨r3, rfl, hr3⟩, hw⟩
    subst w'
    by_cases hs3 : r3 < 0
    · go_wp2
      go_ret
      exact ⟨rfl, bel⟩
    go_wp2_with fail
    refine (clone_law _ _ _ S _ s_a0 hn).mono ?_
    rintro e W1 ⟨p_a, i_a, rfl, s_a, nil_a, k_a, hb⟩
    replace s_a0 := s_a0.later hb
    replace s_b0 := s_b0.later hb
    replace s_c0 := s_c0.later hb
    replace s_d0 := s_d0.later hb
    replace bel := bel.trans (hb.mono bel.size)
    clear hb
    go_wp2_with fail
    refine (clone_law _ _ _ T _ s_b0 hm).mono ?_
    rintro e W2 ⟨p_b, i_b, rfl, s_b, nil_b, k_b, hb⟩
    replace s_a0 := s_a0.later hb
    replace s_b0 := s_b0.later hb
    replace s_c0 := s_c0.later hb
    replace s_d0 := s_d0.later hb
    replace s_a := s_a.later hb
    replace k_a := k_a.up hb.size
    replace bel := bel.trans (hb.mono bel.size)
    clear hb
    go_wp2_with fail
    refine (clone_law _ _ _ S2 _ s_c0 hn2).mono ?_
    rintro e W3 ⟨p_c, i_c, rfl, s_c, nil_c, k_c, hb⟩
    replace s_a0 := s_a0.later hb
    replace s_b0 := s_b0.later hb
    replace s_c0 := s_c0.later hb
    replace s_d0 := s_d0.later hb
    replace s_a := s_a.later hb
    replace k_a := k_a.up hb.size
    replace s_b := s_b.later hb
    replace k_b := k_b.up hb.size
    replace bel := bel.trans (hb.mono bel.size)
    clear hb
    go_wp2_with fail
    refine (clone_law _ _ _ T2 _ s_d0 hm2).mono ?_
    rintro e W4 ⟨p_d, i_d, rfl, s_d, nil_d, k_d, hb⟩
    replace s_a0 := s_a0.later hb
    replace s_b0 := s_b0.later hb
    replace s_c0 := s_c0.later hb
    replace s_d0 := s_d0.later hb
    replace s_a := s_a.later hb
    replace k_a := k_a.up hb.size
    replace s_b := s_b.later hb
    replace k_b := k_b.up hb.size
    replace s_c := s_c.later hb
    replace k_c := k_c.up hb.size
    replace bel := bel.trans (hb.mono bel.size)
    clear hb
    clear s_a0 s_b0 s_c0 s_d0 nil_a nil_b nil_c nil_d
    go_wp2_with fail
    refine (newDB_law _ _).mono ?_
    rintro e W5 ⟨g, rfl, d_g, hge, hb⟩
    have aw_a_g := k_a.away_lt hge
    have aw_b_g := k_b.away_lt hge
    have aw_c_g := k_c.away_lt hge
    have aw_d_g := k_d.away_lt hge
    have low_g : w.heap.size ≤ g := by have := bel.size; omega
    clear hge
    replace s_a := s_a.later hb
    replace k_a := k_a.up hb.size
    replace s_b := s_b.later hb
    replace k_b := k_b.up hb.size
    replace s_c := s_c.later hb
    replace k_c := k_c.up hb.size
    replace s_d := s_d.later hb
    replace k_d := k_d.up hb.size
    replace bel := bel.trans (hb.mono bel.size)
    clear hb
    go_wp2_with fail
    refine (clone_law _ _ _ S _ s_a hn).mono ?_
    rintro e W6 ⟨p_a1, i_a1, rfl, s_a1, nil_a1, k_a1, hb⟩
    have aw_a1_g := k_a1.away_ge d_g.lt
    replace s_a := s_a.later hb
    replace k_a := k_a.up hb.size
    replace s_b := s_b.later hb
    replace k_b := k_b.up hb.size
    replace s_c := s_c.later hb
    replace k_c := k_c.up hb.size
    replace s_d := s_d.later hb
    replace k_d := k_d.up hb.size
    replace d_g := d_g.later hb
    replace bel := bel.trans (hb.mono bel.size)
    clear hb
    go_wp2_with fail
    refine (clone_law _ _ _ T _ s_b hm).mono ?_
    rintro e W7 ⟨p_b1, i_b1, rfl, s_b1, nil_b1, k_b1, hb⟩
    have aw_b1_g := k_b1.away_ge d_g.lt
    replace s_a := s_a.later hb
    replace k_a := k_a.up hb.size
    replace s_b := s_b.later hb
    replace k_b := k_b.up hb.size
    replace s_c := s_c.later hb
    replace k_c := k_c.up hb.size
    replace s_d := s_d.later hb
    replace k_d := k_d.up hb.size
    replace s_a1 := s_a1.later hb
    replace k_a1 := k_a1.up hb.size
    replace d_g := d_g.later hb
    replace bel := bel.trans (hb.mono bel.size)
    clear hb
    go_wp2_with fail
    refine (setFilter_law _ _ _ _ _ _ _ _ _ _ _ _ d_g).mono ?_
    rintro e W8 ⟨rfl, dd, hx⟩
    clear d_g
    have d_g := dd
    clear dd
    replace s_a := s_a.ex hx aw_a_g
    replace k_a := k_a.up hx.size
    replace s_b := s_b.ex hx aw_b_g
    replace k_b := k_b.up hx.size
    replace s_c := s_c.ex hx aw_c_g
    replace k_c := k_c.up hx.size
    replace s_d := s_d.ex hx aw_d_g
    replace k_d := k_d.up hx.size
    replace s_a1 := s_a1.ex hx aw_a1_g
    replace k_a1 := k_a1.up hx.size
    replace s_b1 := s_b1.ex hx aw_b1_g
    replace k_b1 := k_b1.up hx.size
    replace bel := bel.trans (hx.below low_g bel.size)
    clear hx
    go_wp2_with fail
    refine (filterOf_law _ _ _ _ _ _ _ _ _ _ d_g).mono ?_
    rintro e W9 ⟨rfl, hb⟩
    replace s_a := s_a.later hb
    replace k_a := k_a.up hb.size
    replace s_b := s_b.later hb
    replace k_b := k_b.up hb.size
    replace s_c := s_c.later hb
    replace k_c := k_c.up hb.size
    replace s_d := s_d.later hb
    replace k_d := k_d.up hb.size
    replace s_a1 := s_a1.later hb
    replace k_a1 := k_a1.up hb.size
    replace s_b1 := s_b1.later hb
    replace k_b1 := k_b1.up hb.size
    replace d_g := d_g.later hb
    replace bel := bel.trans (hb.mono bel.size)
    clear hb
    go_wp2_with fail
    refine (same_law _ _ _ _ _ S _ s_a1 s_a hn nil_a1).mono ?_
    rintro e W10 ⟨rfl, hb⟩
    replace s_a := s_a.later hb
    replace k_a := k_a.up hb.size
    replace s_b := s_b.later hb
    replace k_b := k_b.up hb.size
    replace s_c := s_c.later hb
    replace k_c := k_c.up hb.size
    replace s_d := s_d.later hb
    replace k_d := k_d.up hb.size
    replace s_a1 := s_a1.later hb
    replace k_a1 := k_a1.up hb.size
    replace s_b1 := s_b1.later hb
    replace k_b1 := k_b1.up hb.size
    replace d_g := d_g.later hb
    replace bel := bel.trans (hb.mono bel.size)
    clear hb
    go_wp2_with fail
    refine (same_law _ _ _ _ _ T _ s_b1 s_b hm nil_b1).mono ?_
    rintro e W11 ⟨rfl, hb⟩
    replace s_a := s_a.later hb
    replace k_a := k_a.up hb.size
    replace s_b := s_b.later hb
    replace k_b := k_b.up hb.size
    replace s_c := s_c.later hb
    replace k_c := k_c.up hb.size
    replace s_d := s_d.later hb
    replace k_d := k_d.up hb.size
    replace s_a1 := s_a1.later hb
    replace k_a1 := k_a1.up hb.size
    replace s_b1 := s_b1.later hb
    replace k_b1 := k_b1.up hb.size
    replace d_g := d_g.later hb
    replace bel := bel.trans (hb.mono bel.size)
    clear hb
    go_wp2_with fail
    refine (engine_law _ _ _ _ _ _ d_g).mono ?_
    rintro e W12 ⟨rfl, rfl⟩
    go_wp2_with fail
    refine (lockWait_law _ _ _ _ _ _ d_g).mono ?_
    rintro e W13 ⟨rfl, rfl⟩
    clear s_a k_a
    clear s_b k_b
    clear s_a1 k_a1
    clear s_b1 k_b1
    go_wp2_with fail
    refine (clone_law _ _ _ S2 _ s_c hn2).mono ?_
    rintro e W14 ⟨p_c1, i_c1, rfl, s_c1, nil_c1, k_c1, hb⟩
    have aw_c1_g := k_c1.away_ge d_g.lt
    replace s_c := s_c.later hb
    replace k_c := k_c.up hb.size
    replace s_d := s_d.later hb
    replace k_d := k_d.up hb.size
    replace d_g := d_g.later hb
    replace bel := bel.trans (hb.mono bel.size)
    clear hb
    go_wp2_with fail
    refine (clone_law _ _ _ T2 _ s_d hm2).mono ?_
    rintro e W15 ⟨p_d1, i_d1, rfl, s_d1, nil_d1, k_d1, hb⟩
    have aw_d1_g := k_d1.away_ge d_g.lt
    replace s_c := s_c.later hb
    replace k_c := k_c.up hb.size
    replace s_d := s_d.later hb
    replace k_d := k_d.up hb.size
    replace s_c1 := s_c1.later hb
    replace k_c1 := k_c1.up hb.size
    replace d_g := d_g.later hb
    replace bel := bel.trans (hb.mono bel.size)
    clear hb
    go_wp2_with fail
    refine (setFilter_law _ _ _ _ _ _ _ _ _ _ _ _ d_g).mono ?_
    rintro e W16 ⟨rfl, dd, hx⟩
    clear d_g
    have d_g := dd
    clear dd
    replace s_c := s_c.ex hx aw_c_g
    replace k_c := k_c.up hx.size
    replace s_d := s_d.ex hx aw_d_g
    replace k_d := k_d.up hx.size
    replace s_c1 := s_c1.ex hx aw_c1_g
    replace k_c1 := k_c1.up hx.size
    replace s_d1 := s_d1.ex hx aw_d1_g
    replace k_d1 := k_d1.up hx.size
    replace bel := bel.trans (hx.below low_g bel.size)
    clear hx
    go_wp2_with fail
    refine (filterOf_law _ _ _ _ _ _ _ _ _ _ d_g).mono ?_
    rintro e W17 ⟨rfl, hb⟩
    replace s_c := s_c.later hb
    replace k_c := k_c.up hb.size
    replace s_d := s_d.later hb
    replace k_d := k_d.up hb.size
    replace s_c1 := s_c1.later hb
    replace k_c1 := k_c1.up hb.size
    replace s_d1 := s_d1.later hb
    replace k_d1 := k_d1.up hb.size
    replace d_g := d_g.later hb
    replace bel := bel.trans (hb.mono bel.size)
    clear hb
    go_wp2_with fail
    refine (same_law _ _ _ _ _ S2 _ s_c1 s_c hn2 nil_c1).mono ?_
    rintro e W18 ⟨rfl, hb⟩
    replace s_c := s_c.later hb
    replace k_c := k_c.up hb.size
    replace s_d := s_d.later hb
    replace k_d := k_d.up hb.size
    replace s_c1 := s_c1.later hb
    replace k_c1 := k_c1.up hb.size
    replace s_d1 := s_d1.later hb
    replace k_d1 := k_d1.up hb.size
    replace d_g := d_g.later hb
    replace bel := bel.trans (hb.mono bel.size)
    clear hb
    go_wp2_with fail
    refine (same_law _ _ _ _ _ T2 _ s_d1 s_d hm2 nil_d1).mono ?_
    rintro e W19 ⟨rfl, hb⟩
    replace s_c := s_c.later hb
    replace k_c := k_c.up hb.size
    replace s_d := s_d.later hb
    replace k_d := k_d.up hb.size
    replace s_c1 := s_c1.later hb
    replace k_c1 := k_c1.up hb.size
    replace s_d1 := s_d1.later hb
    replace k_d1 := k_d1.up hb.size
    replace d_g := d_g.later hb
    replace bel := bel.trans (hb.mono bel.size)
    clear hb
    go_wp2_with fail
    refine (engine_law _ _ _ _ _ _ d_g).mono ?_
    rintro e W20 ⟨rfl, rfl⟩
    go_wp2_with fail
    refine (lockWait_law _ _ _ _ _ _ d_g).mono ?_
    rintro e W21 ⟨rfl, rfl⟩
    go_wp2_with fail
    refine (setWait_law _ _ _ _ _ _ _ _ d_g HZ.out).mono ?_
    rintro e W22 ⟨rfl, dd, hx⟩
    clear d_g
    have d_g := dd
    clear dd
    replace s_c := s_c.ex hx aw_c_g
    replace k_c := k_c.up hx.size
    replace s_d := s_d.ex hx aw_d_g
    replace k_d := k_d.up hx.size
    replace s_c1 := s_c1.ex hx aw_c1_g
    replace k_c1 := k_c1.up hx.size
    replace s_d1 := s_d1.ex hx aw_d1_g
    replace k_d1 := k_d1.up hx.size
    replace bel := bel.trans (hx.below low_g bel.size)
    clear hx
    go_wp2_with fail
    refine (filterOf_law _ _ _ _ _ _ _ _ _ _ d_g).mono ?_
    rintro e W23 ⟨rfl, hb⟩
    replace s_c := s_c.later hb
    replace k_c := k_c.up hb.size
    replace s_d := s_d.later hb
    replace k_d := k_d.up hb.size
    replace s_c1 := s_c1.later hb
    replace k_c1 := k_c1.up hb.size
    replace s_d1 := s_d1.later hb
    replace k_d1 := k_d1.up hb.size
    replace d_g := d_g.later hb
    replace bel := bel.trans (hb.mono bel.size)
    clear hb
    go_wp2_with fail
    refine (same_law _ _ _ _ _ S2 _ s_c1 s_c hn2 nil_c1).mono ?_
    rintro e W24 ⟨rfl, hb⟩
    replace s_c := s_c.later hb
    replace k_c := k_c.up hb.size
    replace s_d := s_d.later hb
    replace k_d := k_d.up hb.size
    replace s_c1 := s_c1.later hb
    replace k_c1 := k_c1.up hb.size
    replace s_d1 := s_d1.later hb
    replace k_d1 := k_d1.up hb.size
    replace d_g := d_g.later hb
    replace bel := bel.trans (hb.mono bel.size)
    clear hb
    go_wp2_with fail
    refine (same_law _ _ _ _ _ T2 _ s_d1 s_d hm2 nil_d1).mono ?_
    rintro e W25 ⟨rfl, hb⟩
    replace s_c := s_c.later hb
    replace k_c := k_c.up hb.size
    replace s_d := s_d.later hb
    replace k_d := k_d.up hb.size
    replace s_c1 := s_c1.later hb
    replace k_c1 := k_c1.up hb.size
    replace s_d1 := s_d1.later hb
    replace k_d1 := k_d1.up hb.size
    replace d_g := d_g.later hb
    replace bel := bel.trans (hb.mono bel.size)
    clear hb
    go_wp2_with fail
    refine (engine_law _ _ _ _ _ _ d_g).mono ?_
    rintro e W26 ⟨rfl, rfl⟩
    go_wp2_with fail
    refine (lockWait_law _ _ _ _ _ _ d_g).mono ?_
    rintro e W27 ⟨rfl, rfl⟩
    go_wp2
    go_ret
    exact ⟨rfl, bel⟩

set_option maxHeartbeats 4000000 in
set_option maxRecDepth 100000 in
theorem lastWins_two (y z : Int) (p q p2 q2 : Option Addr) (n m n2 m2 i j i2 j2 : Nat) (S T S2 T2 : Nat → ByteArray) (w : World) (hz : z = if y < 0 then 0 else y) (s_a0 : SS w p n S) (s_b0 : SS w q m T) (s_c0 : SS w p2 n2 S2) (s_d0 : SS w q2 m2 T2) (hn : n ≤ 65536) (hm : m ≤ 65536) (hn2 : n2 ≤ 65536) (hm2 : m2 ≤ 65536) :
    Calls Trym.prog 6 #[.int .i64 2, .int .i64 y, .slice p n i, .slice q m j, .slice p2 n2 i2, .slice q2 m2 j2] w fun e w' => e = .returned (.bool true) ∧ Below w.heap.size w w' := by
  have bel : Below w.heap.size w w := Below.refl _ _
  by_cases hy : y < 0
  · rw [if_pos hy] at hz
    subst hz
    have HZ : Hid (0 = if y < 0 then 0 else y) := by show 0 = if y < 0 then 0 else y; rw [if_pos hy]
    go_enter Trym.func6, Trym.ntmps6
    go_wp2_with fail
    refine (bytes4_any _ _ _ _ _ _ _ _ _ _ _ _ _ _ S T S2 T2 _ s_a0 s_b0 s_c0 s_d0 (by omega) (by omega) (by omega) (by omega)).mono ?_
    rintro e w' ⟨⟨b, rfl⟩, hw⟩
    subst w'
    cases b
    · go_wp2
      go_ret
      exact ⟨rfl, bel⟩
    go_wp2_with fail
    refine (budget_any _ _ _ S _ _ s_a0 (by omega) (by omega) (by omega)).mono ?_
    rintro e w' ⟨⟨r0, rfl, hr0⟩, hw⟩
    subst w'
    by_cases hs0 : r0 < 0
    · go_wp2
      go_ret
      exact ⟨rfl, bel⟩
    go_wp2_with fail
    refine (budget_any _ _ _ T _ _ s_b0 (by omega) (by omega) (by omega)).mono ?_
    rintro e w' ⟨⟨r1, rfl, hr1⟩, hw⟩
    subst w'
    by_cases hs1 : r1 < 0
    · go_wp2
      go_ret
      exact ⟨rfl, bel⟩
    go_wp2_with fail
    refine (budget_any _ _ _ S2 _ _ s_c0 (by omega) (by omega) (by omega)).mono ?_
    rintro e w' ⟨⟨r2, rfl, hr2⟩, hw⟩
    subst w'
    by_cases hs2 : r2 < 0
    · go_wp2
      go_ret
      exact ⟨rfl, bel⟩
    go_wp2_with fail
    refine (budget_any _ _ _ T2 _ _ s_d0 (by omega) (by omega) (by omega)).mono ?_
    rintro e w' ⟨⟨r3, rfl, hr3⟩, hw⟩
    subst w'
    by_cases hs3 : r3 < 0
    · go_wp2
      go_ret
      exact ⟨rfl, bel⟩
    go_wp2_with fail
    refine (clone_law _ _ _ S _ s_a0 hn).mono ?_
    rintro e W1 ⟨p_a, i_a, rfl, s_a, nil_a, k_a, hb⟩
    replace s_a0 := s_a0.later hb
    replace s_b0 := s_b0.later hb
    replace s_c0 := s_c0.later hb
    replace s_d0 := s_d0.later hb
    replace bel := bel.trans (hb.mono bel.size)
    clear hb
    go_wp2_with fail
    refine (clone_law _ _ _ T _ s_b0 hm).mono ?_
    rintro e W2 ⟨p_b, i_b, rfl, s_b, nil_b, k_b, hb⟩
    replace s_a0 := s_a0.later hb
    replace s_b0 := s_b0.later hb
    replace s_c0 := s_c0.later hb
    replace s_d0 := s_d0.later hb
    replace s_a := s_a.later hb
    replace k_a := k_a.up hb.size
    replace bel := bel.trans (hb.mono bel.size)
    clear hb
    go_wp2_with fail
    refine (clone_law _ _ _ S2 _ s_c0 hn2).mono ?_
    rintro e W3 ⟨p_c, i_c, rfl, s_c, nil_c, k_c, hb⟩
    replace s_a0 := s_a0.later hb
    replace s_b0 := s_b0.later hb
    replace s_c0 := s_c0.later hb
    replace s_d0 := s_d0.later hb
    replace s_a := s_a.later hb
    replace k_a := k_a.up hb.size
    replace s_b := s_b.later hb
    replace k_b := k_b.up hb.size
    replace bel := bel.trans (hb.mono bel.size)
    clear hb
    go_wp2_with fail
    refine (clone_law _ _ _ T2 _ s_d0 hm2).mono ?_
    rintro e W4 ⟨p_d, i_d, rfl, s_d, nil_d, k_d, hb⟩
    replace s_a0 := s_a0.later hb
    replace s_b0 := s_b0.later hb
    replace s_c0 := s_c0.later hb
    replace s_d0 := s_d0.later hb
    replace s_a := s_a.later hb
    replace k_a := k_a.up hb.size
    replace s_b := s_b.later hb
    replace k_b := k_b.up hb.size
    replace s_c := s_c.later hb
    replace k_c := k_c.up hb.size
    replace bel := bel.trans (hb.mono bel.size)
    clear hb
    clear s_a0 s_b0 s_c0 s_d0 nil_a nil_b nil_c nil_d
    go_wp2_with fail
    refine (newDB_law _ _).mono ?_
    rintro e W5 ⟨g, rfl, d_g, hge, hb⟩
    have aw_a_g := k_a.away_lt hge
    have aw_b_g := k_b.away_lt hge
    have aw_c_g := k_c.away_lt hge
    have aw_d_g := k_d.away_lt hge
    have low_g : w.heap.size ≤ g := by have := bel.size; omega
    clear hge
    replace s_a := s_a.later hb
    replace k_a := k_a.up hb.size
    replace s_b := s_b.later hb
    replace k_b := k_b.up hb.size
    replace s_c := s_c.later hb
    replace k_c := k_c.up hb.size
    replace s_d := s_d.later hb
    replace k_d := k_d.up hb.size
    replace bel := bel.trans (hb.mono bel.size)
    clear hb
    go_wp2_with fail
    refine (clone_law _ _ _ S _ s_a hn).mono ?_
    rintro e W6 ⟨p_a1, i_a1, rfl, s_a1, nil_a1, k_a1, hb⟩
    have aw_a1_g := k_a1.away_ge d_g.lt
    replace s_a := s_a.later hb
    replace k_a := k_a.up hb.size
    replace s_b := s_b.later hb
    replace k_b := k_b.up hb.size
    replace s_c := s_c.later hb
    replace k_c := k_c.up hb.size
    replace s_d := s_d.later hb
    replace k_d := k_d.up hb.size
    replace d_g := d_g.later hb
    replace bel := bel.trans (hb.mono bel.size)
    clear hb
    go_wp2_with fail
    refine (clone_law _ _ _ T _ s_b hm).mono ?_
    rintro e W7 ⟨p_b1, i_b1, rfl, s_b1, nil_b1, k_b1, hb⟩
    have aw_b1_g := k_b1.away_ge d_g.lt
    replace s_a := s_a.later hb
    replace k_a := k_a.up hb.size
    replace s_b := s_b.later hb
    replace k_b := k_b.up hb.size
    replace s_c := s_c.later hb
    replace k_c := k_c.up hb.size
    replace s_d := s_d.later hb
    replace k_d := k_d.up hb.size
    replace s_a1 := s_a1.later hb
    replace k_a1 := k_a1.up hb.size
    replace d_g := d_g.later hb
    replace bel := bel.trans (hb.mono bel.size)
    clear hb
    go_wp2_with fail
    refine (setFilter_law _ _ _ _ _ _ _ _ _ _ _ _ d_g).mono ?_
    rintro e W8 ⟨rfl, dd, hx⟩
    clear d_g
    have d_g := dd
    clear dd
    replace s_a := s_a.ex hx aw_a_g
    replace k_a := k_a.up hx.size
    replace s_b := s_b.ex hx aw_b_g
    replace k_b := k_b.up hx.size
    replace s_c := s_c.ex hx aw_c_g
    replace k_c := k_c.up hx.size
    replace s_d := s_d.ex hx aw_d_g
    replace k_d := k_d.up hx.size
    replace s_a1 := s_a1.ex hx aw_a1_g
    replace k_a1 := k_a1.up hx.size
    replace s_b1 := s_b1.ex hx aw_b1_g
    replace k_b1 := k_b1.up hx.size
    replace bel := bel.trans (hx.below low_g bel.size)
    clear hx
    go_wp2_with fail
    refine (filterOf_law _ _ _ _ _ _ _ _ _ _ d_g).mono ?_
    rintro e W9 ⟨rfl, hb⟩
    replace s_a := s_a.later hb
    replace k_a := k_a.up hb.size
    replace s_b := s_b.later hb
    replace k_b := k_b.up hb.size
    replace s_c := s_c.later hb
    replace k_c := k_c.up hb.size
    replace s_d := s_d.later hb
    replace k_d := k_d.up hb.size
    replace s_a1 := s_a1.later hb
    replace k_a1 := k_a1.up hb.size
    replace s_b1 := s_b1.later hb
    replace k_b1 := k_b1.up hb.size
    replace d_g := d_g.later hb
    replace bel := bel.trans (hb.mono bel.size)
    clear hb
    go_wp2_with fail
    refine (same_law _ _ _ _ _ S _ s_a1 s_a hn nil_a1).mono ?_
    rintro e W10 ⟨rfl, hb⟩
    replace s_a := s_a.later hb
    replace k_a := k_a.up hb.size
    replace s_b := s_b.later hb
    replace k_b := k_b.up hb.size
    replace s_c := s_c.later hb
    replace k_c := k_c.up hb.size
    replace s_d := s_d.later hb
    replace k_d := k_d.up hb.size
    replace s_a1 := s_a1.later hb
    replace k_a1 := k_a1.up hb.size
    replace s_b1 := s_b1.later hb
    replace k_b1 := k_b1.up hb.size
    replace d_g := d_g.later hb
    replace bel := bel.trans (hb.mono bel.size)
    clear hb
    go_wp2_with fail
    refine (same_law _ _ _ _ _ T _ s_b1 s_b hm nil_b1).mono ?_
    rintro e W11 ⟨rfl, hb⟩
    replace s_a := s_a.later hb
    replace k_a := k_a.up hb.size
    replace s_b := s_b.later hb
    replace k_b := k_b.up hb.size
    replace s_c := s_c.later hb
    replace k_c := k_c.up hb.size
    replace s_d := s_d.later hb
    replace k_d := k_d.up hb.size
    replace s_a1 := s_a1.later hb
    replace k_a1 := k_a1.up hb.size
    replace s_b1 := s_b1.later hb
    replace k_b1 := k_b1.up hb.size
    replace d_g := d_g.later hb
    replace bel := bel.trans (hb.mono bel.size)
    clear hb
    go_wp2_with fail
    refine (engine_law _ _ _ _ _ _ d_g).mono ?_
    rintro e W12 ⟨rfl, rfl⟩
    go_wp2_with fail
    refine (lockWait_law _ _ _ _ _ _ d_g).mono ?_
    rintro e W13 ⟨rfl, rfl⟩
    clear s_a k_a
    clear s_b k_b
    clear s_a1 k_a1
    clear s_b1 k_b1
    go_wp2_with fail
    refine (clone_law _ _ _ S2 _ s_c hn2).mono ?_
    rintro e W14 ⟨p_c1, i_c1, rfl, s_c1, nil_c1, k_c1, hb⟩
    have aw_c1_g := k_c1.away_ge d_g.lt
    replace s_c := s_c.later hb
    replace k_c := k_c.up hb.size
    replace s_d := s_d.later hb
    replace k_d := k_d.up hb.size
    replace d_g := d_g.later hb
    replace bel := bel.trans (hb.mono bel.size)
    clear hb
    go_wp2_with fail
    refine (clone_law _ _ _ T2 _ s_d hm2).mono ?_
    rintro e W15 ⟨p_d1, i_d1, rfl, s_d1, nil_d1, k_d1, hb⟩
    have aw_d1_g := k_d1.away_ge d_g.lt
    replace s_c := s_c.later hb
    replace k_c := k_c.up hb.size
    replace s_d := s_d.later hb
    replace k_d := k_d.up hb.size
    replace s_c1 := s_c1.later hb
    replace k_c1 := k_c1.up hb.size
    replace d_g := d_g.later hb
    replace bel := bel.trans (hb.mono bel.size)
    clear hb
    go_wp2_with fail
    refine (setFilter_law _ _ _ _ _ _ _ _ _ _ _ _ d_g).mono ?_
    rintro e W16 ⟨rfl, dd, hx⟩
    clear d_g
    have d_g := dd
    clear dd
    replace s_c := s_c.ex hx aw_c_g
    replace k_c := k_c.up hx.size
    replace s_d := s_d.ex hx aw_d_g
    replace k_d := k_d.up hx.size
    replace s_c1 := s_c1.ex hx aw_c1_g
    replace k_c1 := k_c1.up hx.size
    replace s_d1 := s_d1.ex hx aw_d1_g
    replace k_d1 := k_d1.up hx.size
    replace bel := bel.trans (hx.below low_g bel.size)
    clear hx
    go_wp2_with fail
    refine (filterOf_law _ _ _ _ _ _ _ _ _ _ d_g).mono ?_
    rintro e W17 ⟨rfl, hb⟩
    replace s_c := s_c.later hb
    replace k_c := k_c.up hb.size
    replace s_d := s_d.later hb
    replace k_d := k_d.up hb.size
    replace s_c1 := s_c1.later hb
    replace k_c1 := k_c1.up hb.size
    replace s_d1 := s_d1.later hb
    replace k_d1 := k_d1.up hb.size
    replace d_g := d_g.later hb
    replace bel := bel.trans (hb.mono bel.size)
    clear hb
    go_wp2_with fail
    refine (same_law _ _ _ _ _ S2 _ s_c1 s_c hn2 nil_c1).mono ?_
    rintro e W18 ⟨rfl, hb⟩
    replace s_c := s_c.later hb
    replace k_c := k_c.up hb.size
    replace s_d := s_d.later hb
    replace k_d := k_d.up hb.size
    replace s_c1 := s_c1.later hb
    replace k_c1 := k_c1.up hb.size
    replace s_d1 := s_d1.later hb
    replace k_d1 := k_d1.up hb.size
    replace d_g := d_g.later hb
    replace bel := bel.trans (hb.mono bel.size)
    clear hb
    go_wp2_with fail
    refine (same_law _ _ _ _ _ T2 _ s_d1 s_d hm2 nil_d1).mono ?_
    rintro e W19 ⟨rfl, hb⟩
    replace s_c := s_c.later hb
    replace k_c := k_c.up hb.size
    replace s_d := s_d.later hb
    replace k_d := k_d.up hb.size
    replace s_c1 := s_c1.later hb
    replace k_c1 := k_c1.up hb.size
    replace s_d1 := s_d1.later hb
    replace k_d1 := k_d1.up hb.size
    replace d_g := d_g.later hb
    replace bel := bel.trans (hb.mono bel.size)
    clear hb
    go_wp2_with fail
    refine (engine_law _ _ _ _ _ _ d_g).mono ?_
    rintro e W20 ⟨rfl, rfl⟩
    go_wp2_with fail
    refine (lockWait_law _ _ _ _ _ _ d_g).mono ?_
    rintro e W21 ⟨rfl, rfl⟩
    go_wp2_with fail
    refine (setWait_law _ _ _ _ _ _ _ _ d_g HZ.out).mono ?_
    rintro e W22 ⟨rfl, dd, hx⟩
    clear d_g
    have d_g := dd
    clear dd
    replace s_c := s_c.ex hx aw_c_g
    replace k_c := k_c.up hx.size
    replace s_d := s_d.ex hx aw_d_g
    replace k_d := k_d.up hx.size
    replace s_c1 := s_c1.ex hx aw_c1_g
    replace k_c1 := k_c1.up hx.size
    replace s_d1 := s_d1.ex hx aw_d1_g
    replace k_d1 := k_d1.up hx.size
    replace bel := bel.trans (hx.below low_g bel.size)
    clear hx
    go_wp2_with fail
    refine (filterOf_law _ _ _ _ _ _ _ _ _ _ d_g).mono ?_
    rintro e W23 ⟨rfl, hb⟩
    replace s_c := s_c.later hb
    replace k_c := k_c.up hb.size
    replace s_d := s_d.later hb
    replace k_d := k_d.up hb.size
    replace s_c1 := s_c1.later hb
    replace k_c1 := k_c1.up hb.size
    replace s_d1 := s_d1.later hb
    replace k_d1 := k_d1.up hb.size
    replace d_g := d_g.later hb
    replace bel := bel.trans (hb.mono bel.size)
    clear hb
    go_wp2_with fail
    refine (same_law _ _ _ _ _ S2 _ s_c1 s_c hn2 nil_c1).mono ?_
    rintro e W24 ⟨rfl, hb⟩
    replace s_c := s_c.later hb
    replace k_c := k_c.up hb.size
    replace s_d := s_d.later hb
    replace k_d := k_d.up hb.size
    replace s_c1 := s_c1.later hb
    replace k_c1 := k_c1.up hb.size
    replace s_d1 := s_d1.later hb
    replace k_d1 := k_d1.up hb.size
    replace d_g := d_g.later hb
    replace bel := bel.trans (hb.mono bel.size)
    clear hb
    go_wp2_with fail
    refine (same_law _ _ _ _ _ T2 _ s_d1 s_d hm2 nil_d1).mono ?_
    rintro e W25 ⟨rfl, hb⟩
    replace s_c := s_c.later hb
    replace k_c := k_c.up hb.size
    replace s_d := s_d.later hb
    replace k_d := k_d.up hb.size
    replace s_c1 := s_c1.later hb
    replace k_c1 := k_c1.up hb.size
    replace s_d1 := s_d1.later hb
    replace k_d1 := k_d1.up hb.size
    replace d_g := d_g.later hb
    replace bel := bel.trans (hb.mono bel.size)
    clear hb
    go_wp2_with fail
    refine (engine_law _ _ _ _ _ _ d_g).mono ?_
    rintro e W26 ⟨rfl, rfl⟩
    go_wp2_with fail
    refine (lockWait_law _ _ _ _ _ _ d_g).mono ?_
    rintro e W27 ⟨rfl, rfl⟩
    go_wp2
    go_ret
    exact ⟨rfl, bel⟩
  · rw [if_neg hy] at hz
    subst hz
    have HZ : Hid (z = if z < 0 then 0 else z) := by show z = if z < 0 then 0 else z; rw [if_neg hy]
    go_enter Trym.func6, Trym.ntmps6
    go_wp2_with fail
    refine (bytes4_any _ _ _ _ _ _ _ _ _ _ _ _ _ _ S T S2 T2 _ s_a0 s_b0 s_c0 s_d0 (by omega) (by omega) (by omega) (by omega)).mono ?_
    rintro e w' ⟨⟨b, rfl⟩, hw⟩
    subst w'
    cases b
    · go_wp2
      go_ret
      exact ⟨rfl, bel⟩
    go_wp2_with fail
    refine (budget_any _ _ _ S _ _ s_a0 (by omega) (by omega) (by omega)).mono ?_
    rintro e w' ⟨⟨r0, rfl, hr0⟩, hw⟩
    subst w'
    by_cases hs0 : r0 < 0
    · go_wp2
      go_ret
      exact ⟨rfl, bel⟩
    go_wp2_with fail
    refine (budget_any _ _ _ T _ _ s_b0 (by omega) (by omega) (by omega)).mono ?_
    rintro e w' ⟨⟨r1, rfl, hr1⟩, hw⟩
    subst w'
    by_cases hs1 : r1 < 0
    · go_wp2
      go_ret
      exact ⟨rfl, bel⟩
    go_wp2_with fail
    refine (budget_any _ _ _ S2 _ _ s_c0 (by omega) (by omega) (by omega)).mono ?_
    rintro e w' ⟨⟨r2, rfl, hr2⟩, hw⟩
    subst w'
    by_cases hs2 : r2 < 0
    · go_wp2
      go_ret
      exact ⟨rfl, bel⟩
    go_wp2_with fail
    refine (budget_any _ _ _ T2 _ _ s_d0 (by omega) (by omega) (by omega)).mono ?_
    rintro e w' ⟨⟨r3, rfl, hr3⟩, hw⟩
    subst w'
    by_cases hs3 : r3 < 0
    · go_wp2
      go_ret
      exact ⟨rfl, bel⟩
    go_wp2_with fail
    refine (clone_law _ _ _ S _ s_a0 hn).mono ?_
    rintro e W1 ⟨p_a, i_a, rfl, s_a, nil_a, k_a, hb⟩
    replace s_a0 := s_a0.later hb
    replace s_b0 := s_b0.later hb
    replace s_c0 := s_c0.later hb
    replace s_d0 := s_d0.later hb
    replace bel := bel.trans (hb.mono bel.size)
    clear hb
    go_wp2_with fail
    refine (clone_law _ _ _ T _ s_b0 hm).mono ?_
    rintro e W2 ⟨p_b, i_b, rfl, s_b, nil_b, k_b, hb⟩
    replace s_a0 := s_a0.later hb
    replace s_b0 := s_b0.later hb
    replace s_c0 := s_c0.later hb
    replace s_d0 := s_d0.later hb
    replace s_a := s_a.later hb
    replace k_a := k_a.up hb.size
    replace bel := bel.trans (hb.mono bel.size)
    clear hb
    go_wp2_with fail
    refine (clone_law _ _ _ S2 _ s_c0 hn2).mono ?_
    rintro e W3 ⟨p_c, i_c, rfl, s_c, nil_c, k_c, hb⟩
    replace s_a0 := s_a0.later hb
    replace s_b0 := s_b0.later hb
    replace s_c0 := s_c0.later hb
    replace s_d0 := s_d0.later hb
    replace s_a := s_a.later hb
    replace k_a := k_a.up hb.size
    replace s_b := s_b.later hb
    replace k_b := k_b.up hb.size
    replace bel := bel.trans (hb.mono bel.size)
    clear hb
    go_wp2_with fail
    refine (clone_law _ _ _ T2 _ s_d0 hm2).mono ?_
    rintro e W4 ⟨p_d, i_d, rfl, s_d, nil_d, k_d, hb⟩
    replace s_a0 := s_a0.later hb
    replace s_b0 := s_b0.later hb
    replace s_c0 := s_c0.later hb
    replace s_d0 := s_d0.later hb
    replace s_a := s_a.later hb
    replace k_a := k_a.up hb.size
    replace s_b := s_b.later hb
    replace k_b := k_b.up hb.size
    replace s_c := s_c.later hb
    replace k_c := k_c.up hb.size
    replace bel := bel.trans (hb.mono bel.size)
    clear hb
    clear s_a0 s_b0 s_c0 s_d0 nil_a nil_b nil_c nil_d
    go_wp2_with fail
    refine (newDB_law _ _).mono ?_
    rintro e W5 ⟨g, rfl, d_g, hge, hb⟩
    have aw_a_g := k_a.away_lt hge
    have aw_b_g := k_b.away_lt hge
    have aw_c_g := k_c.away_lt hge
    have aw_d_g := k_d.away_lt hge
    have low_g : w.heap.size ≤ g := by have := bel.size; omega
    clear hge
    replace s_a := s_a.later hb
    replace k_a := k_a.up hb.size
    replace s_b := s_b.later hb
    replace k_b := k_b.up hb.size
    replace s_c := s_c.later hb
    replace k_c := k_c.up hb.size
    replace s_d := s_d.later hb
    replace k_d := k_d.up hb.size
    replace bel := bel.trans (hb.mono bel.size)
    clear hb
    go_wp2_with fail
    refine (clone_law _ _ _ S _ s_a hn).mono ?_
    rintro e W6 ⟨p_a1, i_a1, rfl, s_a1, nil_a1, k_a1, hb⟩
    have aw_a1_g := k_a1.away_ge d_g.lt
    replace s_a := s_a.later hb
    replace k_a := k_a.up hb.size
    replace s_b := s_b.later hb
    replace k_b := k_b.up hb.size
    replace s_c := s_c.later hb
    replace k_c := k_c.up hb.size
    replace s_d := s_d.later hb
    replace k_d := k_d.up hb.size
    replace d_g := d_g.later hb
    replace bel := bel.trans (hb.mono bel.size)
    clear hb
    go_wp2_with fail
    refine (clone_law _ _ _ T _ s_b hm).mono ?_
    rintro e W7 ⟨p_b1, i_b1, rfl, s_b1, nil_b1, k_b1, hb⟩
    have aw_b1_g := k_b1.away_ge d_g.lt
    replace s_a := s_a.later hb
    replace k_a := k_a.up hb.size
    replace s_b := s_b.later hb
    replace k_b := k_b.up hb.size
    replace s_c := s_c.later hb
    replace k_c := k_c.up hb.size
    replace s_d := s_d.later hb
    replace k_d := k_d.up hb.size
    replace s_a1 := s_a1.later hb
    replace k_a1 := k_a1.up hb.size
    replace d_g := d_g.later hb
    replace bel := bel.trans (hb.mono bel.size)
    clear hb
    go_wp2_with fail
    refine (setFilter_law _ _ _ _ _ _ _ _ _ _ _ _ d_g).mono ?_
    rintro e W8 ⟨rfl, dd, hx⟩
    clear d_g
    have d_g := dd
    clear dd
    replace s_a := s_a.ex hx aw_a_g
    replace k_a := k_a.up hx.size
    replace s_b := s_b.ex hx aw_b_g
    replace k_b := k_b.up hx.size
    replace s_c := s_c.ex hx aw_c_g
    replace k_c := k_c.up hx.size
    replace s_d := s_d.ex hx aw_d_g
    replace k_d := k_d.up hx.size
    replace s_a1 := s_a1.ex hx aw_a1_g
    replace k_a1 := k_a1.up hx.size
    replace s_b1 := s_b1.ex hx aw_b1_g
    replace k_b1 := k_b1.up hx.size
    replace bel := bel.trans (hx.below low_g bel.size)
    clear hx
    go_wp2_with fail
    refine (filterOf_law _ _ _ _ _ _ _ _ _ _ d_g).mono ?_
    rintro e W9 ⟨rfl, hb⟩
    replace s_a := s_a.later hb
    replace k_a := k_a.up hb.size
    replace s_b := s_b.later hb
    replace k_b := k_b.up hb.size
    replace s_c := s_c.later hb
    replace k_c := k_c.up hb.size
    replace s_d := s_d.later hb
    replace k_d := k_d.up hb.size
    replace s_a1 := s_a1.later hb
    replace k_a1 := k_a1.up hb.size
    replace s_b1 := s_b1.later hb
    replace k_b1 := k_b1.up hb.size
    replace d_g := d_g.later hb
    replace bel := bel.trans (hb.mono bel.size)
    clear hb
    go_wp2_with fail
    refine (same_law _ _ _ _ _ S _ s_a1 s_a hn nil_a1).mono ?_
    rintro e W10 ⟨rfl, hb⟩
    replace s_a := s_a.later hb
    replace k_a := k_a.up hb.size
    replace s_b := s_b.later hb
    replace k_b := k_b.up hb.size
    replace s_c := s_c.later hb
    replace k_c := k_c.up hb.size
    replace s_d := s_d.later hb
    replace k_d := k_d.up hb.size
    replace s_a1 := s_a1.later hb
    replace k_a1 := k_a1.up hb.size
    replace s_b1 := s_b1.later hb
    replace k_b1 := k_b1.up hb.size
    replace d_g := d_g.later hb
    replace bel := bel.trans (hb.mono bel.size)
    clear hb
    go_wp2_with fail
    refine (same_law _ _ _ _ _ T _ s_b1 s_b hm nil_b1).mono ?_
    rintro e W11 ⟨rfl, hb⟩
    replace s_a := s_a.later hb
    replace k_a := k_a.up hb.size
    replace s_b := s_b.later hb
    replace k_b := k_b.up hb.size
    replace s_c := s_c.later hb
    replace k_c := k_c.up hb.size
    replace s_d := s_d.later hb
    replace k_d := k_d.up hb.size
    replace s_a1 := s_a1.later hb
    replace k_a1 := k_a1.up hb.size
    replace s_b1 := s_b1.later hb
    replace k_b1 := k_b1.up hb.size
    replace d_g := d_g.later hb
    replace bel := bel.trans (hb.mono bel.size)
    clear hb
    go_wp2_with fail
    refine (engine_law _ _ _ _ _ _ d_g).mono ?_
    rintro e W12 ⟨rfl, rfl⟩
    go_wp2_with fail
    refine (lockWait_law _ _ _ _ _ _ d_g).mono ?_
    rintro e W13 ⟨rfl, rfl⟩
    clear s_a k_a
    clear s_b k_b
    clear s_a1 k_a1
    clear s_b1 k_b1
    go_wp2_with fail
    refine (clone_law _ _ _ S2 _ s_c hn2).mono ?_
    rintro e W14 ⟨p_c1, i_c1, rfl, s_c1, nil_c1, k_c1, hb⟩
    have aw_c1_g := k_c1.away_ge d_g.lt
    replace s_c := s_c.later hb
    replace k_c := k_c.up hb.size
    replace s_d := s_d.later hb
    replace k_d := k_d.up hb.size
    replace d_g := d_g.later hb
    replace bel := bel.trans (hb.mono bel.size)
    clear hb
    go_wp2_with fail
    refine (clone_law _ _ _ T2 _ s_d hm2).mono ?_
    rintro e W15 ⟨p_d1, i_d1, rfl, s_d1, nil_d1, k_d1, hb⟩
    have aw_d1_g := k_d1.away_ge d_g.lt
    replace s_c := s_c.later hb
    replace k_c := k_c.up hb.size
    replace s_d := s_d.later hb
    replace k_d := k_d.up hb.size
    replace s_c1 := s_c1.later hb
    replace k_c1 := k_c1.up hb.size
    replace d_g := d_g.later hb
    replace bel := bel.trans (hb.mono bel.size)
    clear hb
    go_wp2_with fail
    refine (setFilter_law _ _ _ _ _ _ _ _ _ _ _ _ d_g).mono ?_
    rintro e W16 ⟨rfl, dd, hx⟩
    clear d_g
    have d_g := dd
    clear dd
    replace s_c := s_c.ex hx aw_c_g
    replace k_c := k_c.up hx.size
    replace s_d := s_d.ex hx aw_d_g
    replace k_d := k_d.up hx.size
    replace s_c1 := s_c1.ex hx aw_c1_g
    replace k_c1 := k_c1.up hx.size
    replace s_d1 := s_d1.ex hx aw_d1_g
    replace k_d1 := k_d1.up hx.size
    replace bel := bel.trans (hx.below low_g bel.size)
    clear hx
    go_wp2_with fail
    refine (filterOf_law _ _ _ _ _ _ _ _ _ _ d_g).mono ?_
    rintro e W17 ⟨rfl, hb⟩
    replace s_c := s_c.later hb
    replace k_c := k_c.up hb.size
    replace s_d := s_d.later hb
    replace k_d := k_d.up hb.size
    replace s_c1 := s_c1.later hb
    replace k_c1 := k_c1.up hb.size
    replace s_d1 := s_d1.later hb
    replace k_d1 := k_d1.up hb.size
    replace d_g := d_g.later hb
    replace bel := bel.trans (hb.mono bel.size)
    clear hb
    go_wp2_with fail
    refine (same_law _ _ _ _ _ S2 _ s_c1 s_c hn2 nil_c1).mono ?_
    rintro e W18 ⟨rfl, hb⟩
    replace s_c := s_c.later hb
    replace k_c := k_c.up hb.size
    replace s_d := s_d.later hb
    replace k_d := k_d.up hb.size
    replace s_c1 := s_c1.later hb
    replace k_c1 := k_c1.up hb.size
    replace s_d1 := s_d1.later hb
    replace k_d1 := k_d1.up hb.size
    replace d_g := d_g.later hb
    replace bel := bel.trans (hb.mono bel.size)
    clear hb
    go_wp2_with fail
    refine (same_law _ _ _ _ _ T2 _ s_d1 s_d hm2 nil_d1).mono ?_
    rintro e W19 ⟨rfl, hb⟩
    replace s_c := s_c.later hb
    replace k_c := k_c.up hb.size
    replace s_d := s_d.later hb
    replace k_d := k_d.up hb.size
    replace s_c1 := s_c1.later hb
    replace k_c1 := k_c1.up hb.size
    replace s_d1 := s_d1.later hb
    replace k_d1 := k_d1.up hb.size
    replace d_g := d_g.later hb
    replace bel := bel.trans (hb.mono bel.size)
    clear hb
    go_wp2_with fail
    refine (engine_law _ _ _ _ _ _ d_g).mono ?_
    rintro e W20 ⟨rfl, rfl⟩
    go_wp2_with fail
    refine (lockWait_law _ _ _ _ _ _ d_g).mono ?_
    rintro e W21 ⟨rfl, rfl⟩
    go_wp2_with fail
    refine (setWait_law _ _ _ _ _ _ _ _ d_g HZ.out).mono ?_
    rintro e W22 ⟨rfl, dd, hx⟩
    clear d_g
    have d_g := dd
    clear dd
    replace s_c := s_c.ex hx aw_c_g
    replace k_c := k_c.up hx.size
    replace s_d := s_d.ex hx aw_d_g
    replace k_d := k_d.up hx.size
    replace s_c1 := s_c1.ex hx aw_c1_g
    replace k_c1 := k_c1.up hx.size
    replace s_d1 := s_d1.ex hx aw_d1_g
    replace k_d1 := k_d1.up hx.size
    replace bel := bel.trans (hx.below low_g bel.size)
    clear hx
    go_wp2_with fail
    refine (filterOf_law _ _ _ _ _ _ _ _ _ _ d_g).mono ?_
    rintro e W23 ⟨rfl, hb⟩
    replace s_c := s_c.later hb
    replace k_c := k_c.up hb.size
    replace s_d := s_d.later hb
    replace k_d := k_d.up hb.size
    replace s_c1 := s_c1.later hb
    replace k_c1 := k_c1.up hb.size
    replace s_d1 := s_d1.later hb
    replace k_d1 := k_d1.up hb.size
    replace d_g := d_g.later hb
    replace bel := bel.trans (hb.mono bel.size)
    clear hb
    go_wp2_with fail
    refine (same_law _ _ _ _ _ S2 _ s_c1 s_c hn2 nil_c1).mono ?_
    rintro e W24 ⟨rfl, hb⟩
    replace s_c := s_c.later hb
    replace k_c := k_c.up hb.size
    replace s_d := s_d.later hb
    replace k_d := k_d.up hb.size
    replace s_c1 := s_c1.later hb
    replace k_c1 := k_c1.up hb.size
    replace s_d1 := s_d1.later hb
    replace k_d1 := k_d1.up hb.size
    replace d_g := d_g.later hb
    replace bel := bel.trans (hb.mono bel.size)
    clear hb
    go_wp2_with fail
    refine (same_law _ _ _ _ _ T2 _ s_d1 s_d hm2 nil_d1).mono ?_
    rintro e W25 ⟨rfl, hb⟩
    replace s_c := s_c.later hb
    replace k_c := k_c.up hb.size
    replace s_d := s_d.later hb
    replace k_d := k_d.up hb.size
    replace s_c1 := s_c1.later hb
    replace k_c1 := k_c1.up hb.size
    replace s_d1 := s_d1.later hb
    replace k_d1 := k_d1.up hb.size
    replace d_g := d_g.later hb
    replace bel := bel.trans (hb.mono bel.size)
    clear hb
    go_wp2_with fail
    refine (engine_law _ _ _ _ _ _ d_g).mono ?_
    rintro e W26 ⟨rfl, rfl⟩
    go_wp2_with fail
    refine (lockWait_law _ _ _ _ _ _ d_g).mono ?_
    rintro e W27 ⟨rfl, rfl⟩
    go_wp2
    go_ret
    exact ⟨rfl, bel⟩
end Go.Proofs.Qxb6615531aMods
