/-
  The walk of FnSetFilterCommutesWithSetLockWait (7), written by a small program of this seat's (wip/gen).
-/
import Derived.Test.Qxb6615531aModsLaws
namespace Go.Proofs.Qxb6615531aMods
open Go.ChangeShapes Go.WideShapes Go.ChangeAt Go.RowKit
set_option linter.unusedVariables false

set_option maxHeartbeats 4000000 in
set_option maxRecDepth 100000 in
theorem commutes_one (y z : Int) (p q : Option Addr) (n m i j : Nat) (S T : Nat → ByteArray) (w : World) (hz : z = if y < 0 then 0 else y) (s_c0 : SS w p n S) (s_l0 : SS w q m T) (hn : n ≤ 65536) (hm : m ≤ 65536) :
    Calls Trym.prog 7 #[.int .i64 1, .int .i64 y, .slice p n i, .slice q m j] w fun e w' => e = .returned (.bool true) ∧ Below w.heap.size w w' := by
  have bel : Below w.heap.size w w := Below.refl _ _
  by_cases hy : y < 0
  · rw [if_pos hy] at hz
    subst hz
    have HZ : Hid (0 = if y < 0 then 0 else y) := by show 0 = if y < 0 then 0 else y; rw [if_pos hy]
    go_enter Trym.func7, Trym.ntmps7
    go_wp2_with fail
    refine (bytes2_any _ _ _ _ _ _ _ _ S T _ s_c0 s_l0 (by omega) (by omega)).mono ?_
    rintro e w' ⟨⟨b, rfl⟩, hw⟩
    subst w'
    cases b
    · go_wp2
      go_ret
      exact ⟨rfl, bel⟩
    go_wp2_with fail
    refine (budget_any _ _ _ S _ _ s_c0 (by omega) (by omega) (by omega)).mono ?_
    rintro e w' ⟨⟨r, rfl, hr⟩, hw⟩
    subst w'
    by_cases hr0 : r < 0
    · go_wp2
      go_ret
      exact ⟨rfl, bel⟩
    go_wp2_with fail
    refine (budget_any _ _ _ T _ _ s_l0 (by omega) (by omega) (by omega)).mono ?_
    rintro e w' ⟨⟨r2, rfl, hr2⟩, hw⟩
    subst w'
    by_cases hr3 : r2 < 0
    · go_wp2
      go_ret
      exact ⟨rfl, bel⟩
    go_wp2_with fail
    refine (clone_law _ _ _ S _ s_c0 hn).mono ?_
    rintro e W1 ⟨p_c, i_c, rfl, s_c, nil_c, k_c, hb⟩
    replace s_c0 := s_c0.later hb
    replace s_l0 := s_l0.later hb
    replace bel := bel.trans (hb.mono bel.size)
    clear hb
    go_wp2_with fail
    refine (clone_law _ _ _ T _ s_l0 hm).mono ?_
    rintro e W2 ⟨p_l, i_l, rfl, s_l, nil_l, k_l, hb⟩
    replace s_c0 := s_c0.later hb
    replace s_l0 := s_l0.later hb
    replace s_c := s_c.later hb
    replace k_c := k_c.up hb.size
    replace bel := bel.trans (hb.mono bel.size)
    clear hb
    clear s_c0 s_l0 nil_c nil_l
    go_wp2_with fail
    refine (newDB_law _ _).mono ?_
    rintro e W3 ⟨g1, rfl, d_g1, hge, hb⟩
    have aw_c_g1 := k_c.away_lt hge
    have aw_l_g1 := k_l.away_lt hge
    have low_g1 : w.heap.size ≤ g1 := by have := bel.size; omega
    clear hge
    replace s_c := s_c.later hb
    replace k_c := k_c.up hb.size
    replace s_l := s_l.later hb
    replace k_l := k_l.up hb.size
    replace bel := bel.trans (hb.mono bel.size)
    clear hb
    go_wp2_with fail
    refine (clone_law _ _ _ S _ s_c hn).mono ?_
    rintro e W4 ⟨p_c1, i_c1, rfl, s_c1, nil_c1, k_c1, hb⟩
    have aw_c1_g1 := k_c1.away_ge d_g1.lt
    replace s_c := s_c.later hb
    replace k_c := k_c.up hb.size
    replace s_l := s_l.later hb
    replace k_l := k_l.up hb.size
    replace d_g1 := d_g1.later hb
    replace bel := bel.trans (hb.mono bel.size)
    clear hb
    go_wp2_with fail
    refine (clone_law _ _ _ T _ s_l hm).mono ?_
    rintro e W5 ⟨p_l1, i_l1, rfl, s_l1, nil_l1, k_l1, hb⟩
    have aw_l1_g1 := k_l1.away_ge d_g1.lt
    replace s_c := s_c.later hb
    replace k_c := k_c.up hb.size
    replace s_l := s_l.later hb
    replace k_l := k_l.up hb.size
    replace s_c1 := s_c1.later hb
    replace k_c1 := k_c1.up hb.size
    replace d_g1 := d_g1.later hb
    replace bel := bel.trans (hb.mono bel.size)
    clear hb
    go_wp2_with fail
    refine (setFilter_law _ _ _ _ _ _ _ _ _ _ _ _ d_g1).mono ?_
    rintro e W6 ⟨rfl, dd, hx⟩
    clear d_g1
    have d_g1 := dd
    clear dd
    replace s_c := s_c.ex hx aw_c_g1
    replace k_c := k_c.up hx.size
    replace s_l := s_l.ex hx aw_l_g1
    replace k_l := k_l.up hx.size
    replace s_c1 := s_c1.ex hx aw_c1_g1
    replace k_c1 := k_c1.up hx.size
    replace s_l1 := s_l1.ex hx aw_l1_g1
    replace k_l1 := k_l1.up hx.size
    replace bel := bel.trans (hx.below low_g1 bel.size)
    clear hx
    go_wp2_with fail
    refine (setWait_law _ _ _ _ _ _ _ _ d_g1 HZ.out).mono ?_
    rintro e W7 ⟨rfl, dd, hx⟩
    clear d_g1
    have d_g1 := dd
    clear dd
    replace s_c := s_c.ex hx aw_c_g1
    replace k_c := k_c.up hx.size
    replace s_l := s_l.ex hx aw_l_g1
    replace k_l := k_l.up hx.size
    replace s_c1 := s_c1.ex hx aw_c1_g1
    replace k_c1 := k_c1.up hx.size
    replace s_l1 := s_l1.ex hx aw_l1_g1
    replace k_l1 := k_l1.up hx.size
    replace bel := bel.trans (hx.below low_g1 bel.size)
    clear hx
    go_wp2_with fail
    refine (newDB_law _ _).mono ?_
    rintro e W8 ⟨g2, rfl, d_g2, hge, hb⟩
    have aw_c_g2 := k_c.away_lt hge
    have aw_l_g2 := k_l.away_lt hge
    have aw_c1_g2 := k_c1.away_lt hge
    have aw_l1_g2 := k_l1.away_lt hge
    have ne_g1_g2 : g1 ≠ g2 := by have := d_g1.lt; omega
    have low_g2 : w.heap.size ≤ g2 := by have := bel.size; omega
    clear hge
    replace s_c := s_c.later hb
    replace k_c := k_c.up hb.size
    replace s_l := s_l.later hb
    replace k_l := k_l.up hb.size
    replace s_c1 := s_c1.later hb
    replace k_c1 := k_c1.up hb.size
    replace s_l1 := s_l1.later hb
    replace k_l1 := k_l1.up hb.size
    replace d_g1 := d_g1.later hb
    replace bel := bel.trans (hb.mono bel.size)
    clear hb
    go_wp2_with fail
    refine (setWait_law _ _ _ _ _ _ _ _ d_g2 HZ.out).mono ?_
    rintro e W9 ⟨rfl, dd, hx⟩
    clear d_g2
    have d_g2 := dd
    clear dd
    replace s_c := s_c.ex hx aw_c_g2
    replace k_c := k_c.up hx.size
    replace s_l := s_l.ex hx aw_l_g2
    replace k_l := k_l.up hx.size
    replace s_c1 := s_c1.ex hx aw_c1_g2
    replace k_c1 := k_c1.up hx.size
    replace s_l1 := s_l1.ex hx aw_l1_g2
    replace k_l1 := k_l1.up hx.size
    replace d_g1 := d_g1.ex hx ne_g1_g2
    replace bel := bel.trans (hx.below low_g2 bel.size)
    clear hx
    go_wp2_with fail
    refine (clone_law _ _ _ S _ s_c hn).mono ?_
    rintro e W10 ⟨p_c2, i_c2, rfl, s_c2, nil_c2, k_c2, hb⟩
    have aw_c2_g1 := k_c2.away_ge d_g1.lt
    have aw_c2_g2 := k_c2.away_ge d_g2.lt
    replace s_c := s_c.later hb
    replace k_c := k_c.up hb.size
    replace s_l := s_l.later hb
    replace k_l := k_l.up hb.size
    replace s_c1 := s_c1.later hb
    replace k_c1 := k_c1.up hb.size
    replace s_l1 := s_l1.later hb
    replace k_l1 := k_l1.up hb.size
    replace d_g1 := d_g1.later hb
    replace d_g2 := d_g2.later hb
    replace bel := bel.trans (hb.mono bel.size)
    clear hb
    go_wp2_with fail
    refine (clone_law _ _ _ T _ s_l hm).mono ?_
    rintro e W11 ⟨p_l2, i_l2, rfl, s_l2, nil_l2, k_l2, hb⟩
    have aw_l2_g1 := k_l2.away_ge d_g1.lt
    have aw_l2_g2 := k_l2.away_ge d_g2.lt
    replace s_c := s_c.later hb
    replace k_c := k_c.up hb.size
    replace s_l := s_l.later hb
    replace k_l := k_l.up hb.size
    replace s_c1 := s_c1.later hb
    replace k_c1 := k_c1.up hb.size
    replace s_l1 := s_l1.later hb
    replace k_l1 := k_l1.up hb.size
    replace s_c2 := s_c2.later hb
    replace k_c2 := k_c2.up hb.size
    replace d_g1 := d_g1.later hb
    replace d_g2 := d_g2.later hb
    replace bel := bel.trans (hb.mono bel.size)
    clear hb
    go_wp2_with fail
    refine (setFilter_law _ _ _ _ _ _ _ _ _ _ _ _ d_g2).mono ?_
    rintro e W12 ⟨rfl, dd, hx⟩
    clear d_g2
    have d_g2 := dd
    clear dd
    replace s_c := s_c.ex hx aw_c_g2
    replace k_c := k_c.up hx.size
    replace s_l := s_l.ex hx aw_l_g2
    replace k_l := k_l.up hx.size
    replace s_c1 := s_c1.ex hx aw_c1_g2
    replace k_c1 := k_c1.up hx.size
    replace s_l1 := s_l1.ex hx aw_l1_g2
    replace k_l1 := k_l1.up hx.size
    replace s_c2 := s_c2.ex hx aw_c2_g2
    replace k_c2 := k_c2.up hx.size
    replace s_l2 := s_l2.ex hx aw_l2_g2
    replace k_l2 := k_l2.up hx.size
    replace d_g1 := d_g1.ex hx ne_g1_g2
    replace bel := bel.trans (hx.below low_g2 bel.size)
    clear hx
    go_wp2_with fail
    refine (filterOf_law _ _ _ _ _ _ _ _ _ _ d_g1).mono ?_
    rintro e W13 ⟨rfl, hb⟩
    replace s_c := s_c.later hb
    replace k_c := k_c.up hb.size
    replace s_l := s_l.later hb
    replace k_l := k_l.up hb.size
    replace s_c1 := s_c1.later hb
    replace k_c1 := k_c1.up hb.size
    replace s_l1 := s_l1.later hb
    replace k_l1 := k_l1.up hb.size
    replace s_c2 := s_c2.later hb
    replace k_c2 := k_c2.up hb.size
    replace s_l2 := s_l2.later hb
    replace k_l2 := k_l2.up hb.size
    replace d_g1 := d_g1.later hb
    replace d_g2 := d_g2.later hb
    replace bel := bel.trans (hb.mono bel.size)
    clear hb
    go_wp2_with fail
    refine (filterOf_law _ _ _ _ _ _ _ _ _ _ d_g2).mono ?_
    rintro e W14 ⟨rfl, hb⟩
    replace s_c := s_c.later hb
    replace k_c := k_c.up hb.size
    replace s_l := s_l.later hb
    replace k_l := k_l.up hb.size
    replace s_c1 := s_c1.later hb
    replace k_c1 := k_c1.up hb.size
    replace s_l1 := s_l1.later hb
    replace k_l1 := k_l1.up hb.size
    replace s_c2 := s_c2.later hb
    replace k_c2 := k_c2.up hb.size
    replace s_l2 := s_l2.later hb
    replace k_l2 := k_l2.up hb.size
    replace d_g1 := d_g1.later hb
    replace d_g2 := d_g2.later hb
    replace bel := bel.trans (hb.mono bel.size)
    clear hb
    go_wp2_with fail
    refine (same_law _ _ _ _ _ S _ s_c1 s_c hn nil_c1).mono ?_
    rintro e W15 ⟨rfl, hb⟩
    replace s_c := s_c.later hb
    replace k_c := k_c.up hb.size
    replace s_l := s_l.later hb
    replace k_l := k_l.up hb.size
    replace s_c1 := s_c1.later hb
    replace k_c1 := k_c1.up hb.size
    replace s_l1 := s_l1.later hb
    replace k_l1 := k_l1.up hb.size
    replace s_c2 := s_c2.later hb
    replace k_c2 := k_c2.up hb.size
    replace s_l2 := s_l2.later hb
    replace k_l2 := k_l2.up hb.size
    replace d_g1 := d_g1.later hb
    replace d_g2 := d_g2.later hb
    replace bel := bel.trans (hb.mono bel.size)
    clear hb
    go_wp2_with fail
    refine (same_law _ _ _ _ _ T _ s_l1 s_l hm nil_l1).mono ?_
    rintro e W16 ⟨rfl, hb⟩
    replace s_c := s_c.later hb
    replace k_c := k_c.up hb.size
    replace s_l := s_l.later hb
    replace k_l := k_l.up hb.size
    replace s_c1 := s_c1.later hb
    replace k_c1 := k_c1.up hb.size
    replace s_l1 := s_l1.later hb
    replace k_l1 := k_l1.up hb.size
    replace s_c2 := s_c2.later hb
    replace k_c2 := k_c2.up hb.size
    replace s_l2 := s_l2.later hb
    replace k_l2 := k_l2.up hb.size
    replace d_g1 := d_g1.later hb
    replace d_g2 := d_g2.later hb
    replace bel := bel.trans (hb.mono bel.size)
    clear hb
    go_wp2_with fail
    refine (same_law _ _ _ _ _ S _ s_c2 s_c hn nil_c2).mono ?_
    rintro e W17 ⟨rfl, hb⟩
    replace s_c := s_c.later hb
    replace k_c := k_c.up hb.size
    replace s_l := s_l.later hb
    replace k_l := k_l.up hb.size
    replace s_c1 := s_c1.later hb
    replace k_c1 := k_c1.up hb.size
    replace s_l1 := s_l1.later hb
    replace k_l1 := k_l1.up hb.size
    replace s_c2 := s_c2.later hb
    replace k_c2 := k_c2.up hb.size
    replace s_l2 := s_l2.later hb
    replace k_l2 := k_l2.up hb.size
    replace d_g1 := d_g1.later hb
    replace d_g2 := d_g2.later hb
    replace bel := bel.trans (hb.mono bel.size)
    clear hb
    go_wp2_with fail
    refine (same_law _ _ _ _ _ T _ s_l2 s_l hm nil_l2).mono ?_
    rintro e W18 ⟨rfl, hb⟩
    replace s_c := s_c.later hb
    replace k_c := k_c.up hb.size
    replace s_l := s_l.later hb
    replace k_l := k_l.up hb.size
    replace s_c1 := s_c1.later hb
    replace k_c1 := k_c1.up hb.size
    replace s_l1 := s_l1.later hb
    replace k_l1 := k_l1.up hb.size
    replace s_c2 := s_c2.later hb
    replace k_c2 := k_c2.up hb.size
    replace s_l2 := s_l2.later hb
    replace k_l2 := k_l2.up hb.size
    replace d_g1 := d_g1.later hb
    replace d_g2 := d_g2.later hb
    replace bel := bel.trans (hb.mono bel.size)
    clear hb
    go_wp2_with fail
    refine (lockWait_law _ _ _ _ _ _ d_g1).mono ?_
    rintro e W19 ⟨rfl, rfl⟩
    go_wp2_with fail
    refine (lockWait_law _ _ _ _ _ _ d_g2).mono ?_
    rintro e W20 ⟨rfl, rfl⟩
    go_wp2_with fail
    refine (engine_law _ _ _ _ _ _ d_g1).mono ?_
    rintro e W21 ⟨rfl, rfl⟩
    go_wp2_with fail
    refine (engine_law _ _ _ _ _ _ d_g2).mono ?_
    rintro e W22 ⟨rfl, rfl⟩
    go_wp2
    go_ret
    exact ⟨rfl, bel⟩
  · rw [if_neg hy] at hz
    subst hz
    have HZ : Hid (z = if z < 0 then 0 else z) := by show z = if z < 0 then 0 else z; rw [if_neg hy]
    go_enter Trym.func7, Trym.ntmps7
    go_wp2_with fail
    refine (bytes2_any _ _ _ _ _ _ _ _ S T _ s_c0 s_l0 (by omega) (by omega)).mono ?_
    rintro e w' ⟨⟨b, rfl⟩, hw⟩
    subst w'
    cases b
    · go_wp2
      go_ret
      exact ⟨rfl, bel⟩
    go_wp2_with fail
    refine (budget_any _ _ _ S _ _ s_c0 (by omega) (by omega) (by omega)).mono ?_
    rintro e w' ⟨⟨r, rfl, hr⟩, hw⟩
    subst w'
    by_cases hr0 : r < 0
    · go_wp2
      go_ret
      exact ⟨rfl, bel⟩
    go_wp2_with fail
    refine (budget_any _ _ _ T _ _ s_l0 (by omega) (by omega) (by omega)).mono ?_
    rintro e w' ⟨⟨r2, rfl, hr2⟩, hw⟩
    subst w'
    by_cases hr3 : r2 < 0
    · go_wp2
      go_ret
      exact ⟨rfl, bel⟩
    go_wp2_with fail
    refine (clone_law _ _ _ S _ s_c0 hn).mono ?_
    rintro e W1 ⟨p_c, i_c, rfl, s_c, nil_c, k_c, hb⟩
    replace s_c0 := s_c0.later hb
    replace s_l0 := s_l0.later hb
    replace bel := bel.trans (hb.mono bel.size)
    clear hb
    go_wp2_with fail
    refine (clone_law _ _ _ T _ s_l0 hm).mono ?_
    rintro e W2 ⟨p_l, i_l, rfl, s_l, nil_l, k_l, hb⟩
    replace s_c0 := s_c0.later hb
    replace s_l0 := s_l0.later hb
    replace s_c := s_c.later hb
    replace k_c := k_c.up hb.size
    replace bel := bel.trans (hb.mono bel.size)
    clear hb
    clear s_c0 s_l0 nil_c nil_l
    go_wp2_with fail
    refine (newDB_law _ _).mono ?_
    rintro e W3 ⟨g1, rfl, d_g1, hge, hb⟩
    have aw_c_g1 := k_c.away_lt hge
    have aw_l_g1 := k_l.away_lt hge
    have low_g1 : w.heap.size ≤ g1 := by have := bel.size; omega
    clear hge
    replace s_c := s_c.later hb
    replace k_c := k_c.up hb.size
    replace s_l := s_l.later hb
    replace k_l := k_l.up hb.size
    replace bel := bel.trans (hb.mono bel.size)
    clear hb
    go_wp2_with fail
    refine (clone_law _ _ _ S _ s_c hn).mono ?_
    rintro e W4 ⟨p_c1, i_c1, rfl, s_c1, nil_c1, k_c1, hb⟩
    have aw_c1_g1 := k_c1.away_ge d_g1.lt
    replace s_c := s_c.later hb
    replace k_c := k_c.up hb.size
    replace s_l := s_l.later hb
    replace k_l := k_l.up hb.size
    replace d_g1 := d_g1.later hb
    replace bel := bel.trans (hb.mono bel.size)
    clear hb
    go_wp2_with fail
    refine (clone_law _ _ _ T _ s_l hm).mono ?_
    rintro e W5 ⟨p_l1, i_l1, rfl, s_l1, nil_l1, k_l1, hb⟩
    have aw_l1_g1 := k_l1.away_ge d_g1.lt
    replace s_c := s_c.later hb
    replace k_c := k_c.up hb.size
    replace s_l := s_l.later hb
    replace k_l := k_l.up hb.size
    replace s_c1 := s_c1.later hb
    replace k_c1 := k_c1.up hb.size
    replace d_g1 := d_g1.later hb
    replace bel := bel.trans (hb.mono bel.size)
    clear hb
    go_wp2_with fail
    refine (setFilter_law _ _ _ _ _ _ _ _ _ _ _ _ d_g1).mono ?_
    rintro e W6 ⟨rfl, dd, hx⟩
    clear d_g1
    have d_g1 := dd
    clear dd
    replace s_c := s_c.ex hx aw_c_g1
    replace k_c := k_c.up hx.size
    replace s_l := s_l.ex hx aw_l_g1
    replace k_l := k_l.up hx.size
    replace s_c1 := s_c1.ex hx aw_c1_g1
    replace k_c1 := k_c1.up hx.size
    replace s_l1 := s_l1.ex hx aw_l1_g1
    replace k_l1 := k_l1.up hx.size
    replace bel := bel.trans (hx.below low_g1 bel.size)
    clear hx
    go_wp2_with fail
    refine (setWait_law _ _ _ _ _ _ _ _ d_g1 HZ.out).mono ?_
    rintro e W7 ⟨rfl, dd, hx⟩
    clear d_g1
    have d_g1 := dd
    clear dd
    replace s_c := s_c.ex hx aw_c_g1
    replace k_c := k_c.up hx.size
    replace s_l := s_l.ex hx aw_l_g1
    replace k_l := k_l.up hx.size
    replace s_c1 := s_c1.ex hx aw_c1_g1
    replace k_c1 := k_c1.up hx.size
    replace s_l1 := s_l1.ex hx aw_l1_g1
    replace k_l1 := k_l1.up hx.size
    replace bel := bel.trans (hx.below low_g1 bel.size)
    clear hx
    go_wp2_with fail
    refine (newDB_law _ _).mono ?_
    rintro e W8 ⟨g2, rfl, d_g2, hge, hb⟩
    have aw_c_g2 := k_c.away_lt hge
    have aw_l_g2 := k_l.away_lt hge
    have aw_c1_g2 := k_c1.away_lt hge
    have aw_l1_g2 := k_l1.away_lt hge
    have ne_g1_g2 : g1 ≠ g2 := by have := d_g1.lt; omega
    have low_g2 : w.heap.size ≤ g2 := by have := bel.size; omega
    clear hge
    replace s_c := s_c.later hb
    replace k_c := k_c.up hb.size
    replace s_l := s_l.later hb
    replace k_l := k_l.up hb.size
    replace s_c1 := s_c1.later hb
    replace k_c1 := k_c1.up hb.size
    replace s_l1 := s_l1.later hb
    replace k_l1 := k_l1.up hb.size
    replace d_g1 := d_g1.later hb
    replace bel := bel.trans (hb.mono bel.size)
    clear hb
    go_wp2_with fail
    refine (setWait_law _ _ _ _ _ _ _ _ d_g2 HZ.out).mono ?_
    rintro e W9 ⟨rfl, dd, hx⟩
    clear d_g2
    have d_g2 := dd
    clear dd
    replace s_c := s_c.ex hx aw_c_g2
    replace k_c := k_c.up hx.size
    replace s_l := s_l.ex hx aw_l_g2
    replace k_l := k_l.up hx.size
    replace s_c1 := s_c1.ex hx aw_c1_g2
    replace k_c1 := k_c1.up hx.size
    replace s_l1 := s_l1.ex hx aw_l1_g2
    replace k_l1 := k_l1.up hx.size
    replace d_g1 := d_g1.ex hx ne_g1_g2
    replace bel := bel.trans (hx.below low_g2 bel.size)
    clear hx
    go_wp2_with fail
    refine (clone_law _ _ _ S _ s_c hn).mono ?_
    rintro e W10 ⟨p_c2, i_c2, rfl, s_c2, nil_c2, k_c2, hb⟩
    have aw_c2_g1 := k_c2.away_ge d_g1.lt
    have aw_c2_g2 := k_c2.away_ge d_g2.lt
    replace s_c := s_c.later hb
    replace k_c := k_c.up hb.size
    replace s_l := s_l.later hb
    replace k_l := k_l.up hb.size
    replace s_c1 := s_c1.later hb
    replace k_c1 := k_c1.up hb.size
    replace s_l1 := s_l1.later hb
    replace k_l1 := k_l1.up hb.size
    replace d_g1 := d_g1.later hb
    replace d_g2 := d_g2.later hb
    replace bel := bel.trans (hb.mono bel.size)
    clear hb
    go_wp2_with fail
    refine (clone_law _ _ _ T _ s_l hm).mono ?_
    rintro e W11 ⟨p_l2, i_l2, rfl, s_l2, nil_l2, k_l2, hb⟩
    have aw_l2_g1 := k_l2.away_ge d_g1.lt
    have aw_l2_g2 := k_l2.away_ge d_g2.lt
    replace s_c := s_c.later hb
    replace k_c := k_c.up hb.size
    replace s_l := s_l.later hb
    replace k_l := k_l.up hb.size
    replace s_c1 := s_c1.later hb
    replace k_c1 := k_c1.up hb.size
    replace s_l1 := s_l1.later hb
    replace k_l1 := k_l1.up hb.size
    replace s_c2 := s_c2.later hb
    replace k_c2 := k_c2.up hb.size
    replace d_g1 := d_g1.later hb
    replace d_g2 := d_g2.later hb
    replace bel := bel.trans (hb.mono bel.size)
    clear hb
    go_wp2_with fail
    refine (setFilter_law _ _ _ _ _ _ _ _ _ _ _ _ d_g2).mono ?_
    rintro e W12 ⟨rfl, dd, hx⟩
    clear d_g2
    have d_g2 := dd
    clear dd
    replace s_c := s_c.ex hx aw_c_g2
    replace k_c := k_c.up hx.size
    replace s_l := s_l.ex hx aw_l_g2
    replace k_l := k_l.up hx.size
    replace s_c1 := s_c1.ex hx aw_c1_g2
    replace k_c1 := k_c1.up hx.size
    replace s_l1 := s_l1.ex hx aw_l1_g2
    replace k_l1 := k_l1.up hx.size
    replace s_c2 := s_c2.ex hx aw_c2_g2
    replace k_c2 := k_c2.up hx.size
    replace s_l2 := s_l2.ex hx aw_l2_g2
    replace k_l2 := k_l2.up hx.size
    replace d_g1 := d_g1.ex hx ne_g1_g2
    replace bel := bel.trans (hx.below low_g2 bel.size)
    clear hx
    go_wp2_with fail
    refine (filterOf_law _ _ _ _ _ _ _ _ _ _ d_g1).mono ?_
    rintro e W13 ⟨rfl, hb⟩
    replace s_c := s_c.later hb
    replace k_c := k_c.up hb.size
    replace s_l := s_l.later hb
    replace k_l := k_l.up hb.size
    replace s_c1 := s_c1.later hb
    replace k_c1 := k_c1.up hb.size
    replace s_l1 := s_l1.later hb
    replace k_l1 := k_l1.up hb.size
    replace s_c2 := s_c2.later hb
    replace k_c2 := k_c2.up hb.size
    replace s_l2 := s_l2.later hb
    replace k_l2 := k_l2.up hb.size
    replace d_g1 := d_g1.later hb
    replace d_g2 := d_g2.later hb
    replace bel := bel.trans (hb.mono bel.size)
    clear hb
    go_wp2_with fail
    refine (filterOf_law _ _ _ _ _ _ _ _ _ _ d_g2).mono ?_
    rintro e W14 ⟨rfl, hb⟩
    replace s_c := s_c.later hb
    replace k_c := k_c.up hb.size
    replace s_l := s_l.later hb
    replace k_l := k_l.up hb.size
    replace s_c1 := s_c1.later hb
    replace k_c1 := k_c1.up hb.size
    replace s_l1 := s_l1.later hb
    replace k_l1 := k_l1.up hb.size
    replace s_c2 := s_c2.later hb
    replace k_c2 := k_c2.up hb.size
    replace s_l2 := s_l2.later hb
    replace k_l2 := k_l2.up hb.size
    replace d_g1 := d_g1.later hb
    replace d_g2 := d_g2.later hb
    replace bel := bel.trans (hb.mono bel.size)
    clear hb
    go_wp2_with fail
    refine (same_law _ _ _ _ _ S _ s_c1 s_c hn nil_c1).mono ?_
    rintro e W15 ⟨rfl, hb⟩
    replace s_c := s_c.later hb
    replace k_c := k_c.up hb.size
    replace s_l := s_l.later hb
    replace k_l := k_l.up hb.size
    replace s_c1 := s_c1.later hb
    replace k_c1 := k_c1.up hb.size
    replace s_l1 := s_l1.later hb
    replace k_l1 := k_l1.up hb.size
    replace s_c2 := s_c2.later hb
    replace k_c2 := k_c2.up hb.size
    replace s_l2 := s_l2.later hb
    replace k_l2 := k_l2.up hb.size
    replace d_g1 := d_g1.later hb
    replace d_g2 := d_g2.later hb
    replace bel := bel.trans (hb.mono bel.size)
    clear hb
    go_wp2_with fail
    refine (same_law _ _ _ _ _ T _ s_l1 s_l hm nil_l1).mono ?_
    rintro e W16 ⟨rfl, hb⟩
    replace s_c := s_c.later hb
    replace k_c := k_c.up hb.size
    replace s_l := s_l.later hb
    replace k_l := k_l.up hb.size
    replace s_c1 := s_c1.later hb
    replace k_c1 := k_c1.up hb.size
    replace s_l1 := s_l1.later hb
    replace k_l1 := k_l1.up hb.size
    replace s_c2 := s_c2.later hb
    replace k_c2 := k_c2.up hb.size
    replace s_l2 := s_l2.later hb
    replace k_l2 := k_l2.up hb.size
    replace d_g1 := d_g1.later hb
    replace d_g2 := d_g2.later hb
    replace bel := bel.trans (hb.mono bel.size)
    clear hb
    go_wp2_with fail
    refine (same_law _ _ _ _ _ S _ s_c2 s_c hn nil_c2).mono ?_
    rintro e W17 ⟨rfl, hb⟩
    replace s_c := s_c.later hb
    replace k_c := k_c.up hb.size
    replace s_l := s_l.later hb
    replace k_l := k_l.up hb.size
    replace s_c1 := s_c1.later hb
    replace k_c1 := k_c1.up hb.size
    replace s_l1 := s_l1.later hb
    replace k_l1 := k_l1.up hb.size
    replace s_c2 := s_c2.later hb
    replace k_c2 := k_c2.up hb.size
    replace s_l2 := s_l2.later hb
    replace k_l2 := k_l2.up hb.size
    replace d_g1 := d_g1.later hb
    replace d_g2 := d_g2.later hb
    replace bel := bel.trans (hb.mono bel.size)
    clear hb
    go_wp2_with fail
    refine (same_law _ _ _ _ _ T _ s_l2 s_l hm nil_l2).mono ?_
    rintro e W18 ⟨rfl, hb⟩
    replace s_c := s_c.later hb
    replace k_c := k_c.up hb.size
    replace s_l := s_l.later hb
    replace k_l := k_l.up hb.size
    replace s_c1 := s_c1.later hb
    replace k_c1 := k_c1.up hb.size
    replace s_l1 := s_l1.later hb
    replace k_l1 := k_l1.up hb.size
    replace s_c2 := s_c2.later hb
    replace k_c2 := k_c2.up hb.size
    replace s_l2 := s_l2.later hb
    replace k_l2 := k_l2.up hb.size
    replace d_g1 := d_g1.later hb
    replace d_g2 := d_g2.later hb
    replace bel := bel.trans (hb.mono bel.size)
    clear hb
    go_wp2_with fail
    refine (lockWait_law _ _ _ _ _ _ d_g1).mono ?_
    rintro e W19 ⟨rfl, rfl⟩
    go_wp2_with fail
    refine (lockWait_law _ _ _ _ _ _ d_g2).mono ?_
    rintro e W20 ⟨rfl, rfl⟩
    go_wp2_with fail
    refine (engine_law _ _ _ _ _ _ d_g1).mono ?_
    rintro e W21 ⟨rfl, rfl⟩
    go_wp2_with fail
    refine (engine_law _ _ _ _ _ _ d_g2).mono ?_
    rintro e W22 ⟨rfl, rfl⟩
    go_wp2
    go_ret
    exact ⟨rfl, bel⟩

set_option maxHeartbeats 4000000 in
set_option maxRecDepth 100000 in
theorem commutes_two (y z : Int) (p q : Option Addr) (n m i j : Nat) (S T : Nat → ByteArray) (w : World) (hz : z = if y < 0 then 0 else y) (s_c0 : SS w p n S) (s_l0 : SS w q m T) (hn : n ≤ 65536) (hm : m ≤ 65536) :
    Calls Trym.prog 7 #[.int .i64 2, .int .i64 y, .slice p n i, .slice q m j] w fun e w' => e = .returned (.bool true) ∧ Below w.heap.size w w' := by
  have bel : Below w.heap.size w w := Below.refl _ _
  by_cases hy : y < 0
  · rw [if_pos hy] at hz
    subst hz
    have HZ : Hid (0 = if y < 0 then 0 else y) := by show 0 = if y < 0 then 0 else y; rw [if_pos hy]
    go_enter Trym.func7, Trym.ntmps7
    go_wp2_with fail
    refine (bytes2_any _ _ _ _ _ _ _ _ S T _ s_c0 s_l0 (by omega) (by omega)).mono ?_
    rintro e w' ⟨⟨b, rfl⟩, hw⟩
    subst w'
    cases b
    · go_wp2
      go_ret
      exact ⟨rfl, bel⟩
    go_wp2_with fail
    refine (budget_any _ _ _ S _ _ s_c0 (by omega) (by omega) (by omega)).mono ?_
    rintro e w' ⟨⟨r, rfl, hr⟩, hw⟩
    subst w'
    by_cases hr0 : r < 0
    · go_wp2
      go_ret
      exact ⟨rfl, bel⟩
    go_wp2_with fail
    refine (budget_any _ _ _ T _ _ s_l0 (by omega) (by omega) (by omega)).mono ?_
    rintro e w' ⟨⟨r2, rfl, hr2⟩, hw⟩
    subst w'
    by_cases hr3 : r2 < 0
    · go_wp2
      go_ret
      exact ⟨rfl, bel⟩
    go_wp2_with fail
    refine (clone_law _ _ _ S _ s_c0 hn).mono ?_
    rintro e W1 ⟨p_c, i_c, rfl, s_c, nil_c, k_c, hb⟩
    replace s_c0 := s_c0.later hb
    replace s_l0 := s_l0.later hb
    replace bel := bel.trans (hb.mono bel.size)
    clear hb
    go_wp2_with fail
    refine (clone_law _ _ _ T _ s_l0 hm).mono ?_
    rintro e W2 ⟨p_l, i_l, rfl, s_l, nil_l, k_l, hb⟩
    replace s_c0 := s_c0.later hb
    replace s_l0 := s_l0.later hb
    replace s_c := s_c.later hb
    replace k_c := k_c.up hb.size
    replace bel := bel.trans (hb.mono bel.size)
    clear hb
    clear s_c0 s_l0 nil_c nil_l
    go_wp2_with fail
    refine (newDB_law _ _).mono ?_
    rintro e W3 ⟨g1, rfl, d_g1, hge, hb⟩
    have aw_c_g1 := k_c.away_lt hge
    have aw_l_g1 := k_l.away_lt hge
    have low_g1 : w.heap.size ≤ g1 := by have := bel.size; omega
    clear hge
    replace s_c := s_c.later hb
    replace k_c := k_c.up hb.size
    replace s_l := s_l.later hb
    replace k_l := k_l.up hb.size
    replace bel := bel.trans (hb.mono bel.size)
    clear hb
    go_wp2_with fail
    refine (clone_law _ _ _ S _ s_c hn).mono ?_
    rintro e W4 ⟨p_c1, i_c1, rfl, s_c1, nil_c1, k_c1, hb⟩
    have aw_c1_g1 := k_c1.away_ge d_g1.lt
    replace s_c := s_c.later hb
    replace k_c := k_c.up hb.size
    replace s_l := s_l.later hb
    replace k_l := k_l.up hb.size
    replace d_g1 := d_g1.later hb
    replace bel := bel.trans (hb.mono bel.size)
    clear hb
    go_wp2_with fail
    refine (clone_law _ _ _ T _ s_l hm).mono ?_
    rintro e W5 ⟨p_l1, i_l1, rfl, s_l1, nil_l1, k_l1, hb⟩
    have aw_l1_g1 := k_l1.away_ge d_g1.lt
    replace s_c := s_c.later hb
    replace k_c := k_c.up hb.size
    replace s_l := s_l.later hb
    replace k_l := k_l.up hb.size
    replace s_c1 := s_c1.later hb
    replace k_c1 := k_c1.up hb.size
    replace d_g1 := d_g1.later hb
    replace bel := bel.trans (hb.mono bel.size)
    clear hb
    go_wp2_with fail
    refine (setFilter_law _ _ _ _ _ _ _ _ _ _ _ _ d_g1).mono ?_
    rintro e W6 ⟨rfl, dd, hx⟩
    clear d_g1
    have d_g1 := dd
    clear dd
    replace s_c := s_c.ex hx aw_c_g1
    replace k_c := k_c.up hx.size
    replace s_l := s_l.ex hx aw_l_g1
    replace k_l := k_l.up hx.size
    replace s_c1 := s_c1.ex hx aw_c1_g1
    replace k_c1 := k_c1.up hx.size
    replace s_l1 := s_l1.ex hx aw_l1_g1
    replace k_l1 := k_l1.up hx.size
    replace bel := bel.trans (hx.below low_g1 bel.size)
    clear hx
    go_wp2_with fail
    refine (setWait_law _ _ _ _ _ _ _ _ d_g1 HZ.out).mono ?_
    rintro e W7 ⟨rfl, dd, hx⟩
    clear d_g1
    have d_g1 := dd
    clear dd
    replace s_c := s_c.ex hx aw_c_g1
    replace k_c := k_c.up hx.size
    replace s_l := s_l.ex hx aw_l_g1
    replace k_l := k_l.up hx.size
    replace s_c1 := s_c1.ex hx aw_c1_g1
    replace k_c1 := k_c1.up hx.size
    replace s_l1 := s_l1.ex hx aw_l1_g1
    replace k_l1 := k_l1.up hx.size
    replace bel := bel.trans (hx.below low_g1 bel.size)
    clear hx
    go_wp2_with fail
    refine (newDB_law _ _).mono ?_
    rintro e W8 ⟨g2, rfl, d_g2, hge, hb⟩
    have aw_c_g2 := k_c.away_lt hge
    have aw_l_g2 := k_l.away_lt hge
    have aw_c1_g2 := k_c1.away_lt hge
    have aw_l1_g2 := k_l1.away_lt hge
    have ne_g1_g2 : g1 ≠ g2 := by have := d_g1.lt; omega
    have low_g2 : w.heap.size ≤ g2 := by have := bel.size; omega
    clear hge
    replace s_c := s_c.later hb
    replace k_c := k_c.up hb.size
    replace s_l := s_l.later hb
    replace k_l := k_l.up hb.size
    replace s_c1 := s_c1.later hb
    replace k_c1 := k_c1.up hb.size
    replace s_l1 := s_l1.later hb
    replace k_l1 := k_l1.up hb.size
    replace d_g1 := d_g1.later hb
    replace bel := bel.trans (hb.mono bel.size)
    clear hb
    go_wp2_with fail
    refine (setWait_law _ _ _ _ _ _ _ _ d_g2 HZ.out).mono ?_
    rintro e W9 ⟨rfl, dd, hx⟩
    clear d_g2
    have d_g2 := dd
    clear dd
    replace s_c := s_c.ex hx aw_c_g2
    replace k_c := k_c.up hx.size
    replace s_l := s_l.ex hx aw_l_g2
    replace k_l := k_l.up hx.size
    replace s_c1 := s_c1.ex hx aw_c1_g2
    replace k_c1 := k_c1.up hx.size
    replace s_l1 := s_l1.ex hx aw_l1_g2
    replace k_l1 := k_l1.up hx.size
    replace d_g1 := d_g1.ex hx ne_g1_g2
    replace bel := bel.trans (hx.below low_g2 bel.size)
    clear hx
    go_wp2_with fail
    refine (clone_law _ _ _ S _ s_c hn).mono ?_
    rintro e W10 ⟨p_c2, i_c2, rfl, s_c2, nil_c2, k_c2, hb⟩
    have aw_c2_g1 := k_c2.away_ge d_g1.lt
    have aw_c2_g2 := k_c2.away_ge d_g2.lt
    replace s_c := s_c.later hb
    replace k_c := k_c.up hb.size
    replace s_l := s_l.later hb
    replace k_l := k_l.up hb.size
    replace s_c1 := s_c1.later hb
    replace k_c1 := k_c1.up hb.size
    replace s_l1 := s_l1.later hb
    replace k_l1 := k_l1.up hb.size
    replace d_g1 := d_g1.later hb
    replace d_g2 := d_g2.later hb
    replace bel := bel.trans (hb.mono bel.size)
    clear hb
    go_wp2_with fail
    refine (clone_law _ _ _ T _ s_l hm).mono ?_
    rintro e W11 ⟨p_l2, i_l2, rfl, s_l2, nil_l2, k_l2, hb⟩
    have aw_l2_g1 := k_l2.away_ge d_g1.lt
    have aw_l2_g2 := k_l2.away_ge d_g2.lt
    replace s_c := s_c.later hb
    replace k_c := k_c.up hb.size
    replace s_l := s_l.later hb
    replace k_l := k_l.up hb.size
    replace s_c1 := s_c1.later hb
    replace k_c1 := k_c1.up hb.size
    replace s_l1 := s_l1.later hb
    replace k_l1 := k_l1.up hb.size
    replace s_c2 := s_c2.later hb
    replace k_c2 := k_c2.up hb.size
    replace d_g1 := d_g1.later hb
    replace d_g2 := d_g2.later hb
    replace bel := bel.trans (hb.mono bel.size)
    clear hb
    go_wp2_with fail
    refine (setFilter_law _ _ _ _ _ _ _ _ _ _ _ _ d_g2).mono ?_
    rintro e W12 ⟨rfl, dd, hx⟩
    clear d_g2
    have d_g2 := dd
    clear dd
    replace s_c := s_c.ex hx aw_c_g2
    replace k_c := k_c.up hx.size
    replace s_l := s_l.ex hx aw_l_g2
    replace k_l := k_l.up hx.size
    replace s_c1 := s_c1.ex hx aw_c1_g2
    replace k_c1 := k_c1.up hx.size
    replace s_l1 := s_l1.ex hx aw_l1_g2
    replace k_l1 := k_l1.up hx.size
    replace s_c2 := s_c2.ex hx aw_c2_g2
    replace k_c2 := k_c2.up hx.size
    replace s_l2 := s_l2.ex hx aw_l2_g2
    replace k_l2 := k_l2.up hx.size
    replace d_g1 := d_g1.ex hx ne_g1_g2
    replace bel := bel.trans (hx.below low_g2 bel.size)
    clear hx
    go_wp2_with fail
    refine (filterOf_law _ _ _ _ _ _ _ _ _ _ d_g1).mono ?_
    rintro e W13 ⟨rfl, hb⟩
    replace s_c := s_c.later hb
    replace k_c := k_c.up hb.size
    replace s_l := s_l.later hb
    replace k_l := k_l.up hb.size
    replace s_c1 := s_c1.later hb
    replace k_c1 := k_c1.up hb.size
    replace s_l1 := s_l1.later hb
    replace k_l1 := k_l1.up hb.size
    replace s_c2 := s_c2.later hb
    replace k_c2 := k_c2.up hb.size
    replace s_l2 := s_l2.later hb
    replace k_l2 := k_l2.up hb.size
    replace d_g1 := d_g1.later hb
    replace d_g2 := d_g2.later hb
    replace bel := bel.trans (hb.mono bel.size)
    clear hb
    go_wp2_with fail
    refine (filterOf_law _ _ _ _ _ _ _ _ _ _ d_g2).mono ?_
    rintro e W14 ⟨rfl, hb⟩
    replace s_c := s_c.later hb
    replace k_c := k_c.up hb.size
    replace s_l := s_l.later hb
    replace k_l := k_l.up hb.size
    replace s_c1 := s_c1.later hb
    replace k_c1 := k_c1.up hb.size
    replace s_l1 := s_l1.later hb
    replace k_l1 := k_l1.up hb.size
    replace s_c2 := s_c2.later hb
    replace k_c2 := k_c2.up hb.size
    replace s_l2 := s_l2.later hb
    replace k_l2 := k_l2.up hb.size
    replace d_g1 := d_g1.later hb
    replace d_g2 := d_g2.later hb
    replace bel := bel.trans (hb.mono bel.size)
    clear hb
    go_wp2_with fail
    refine (same_law _ _ _ _ _ S _ s_c1 s_c hn nil_c1).mono ?_
    rintro e W15 ⟨rfl, hb⟩
    replace s_c := s_c.later hb
    replace k_c := k_c.up hb.size
    replace s_l := s_l.later hb
    replace k_l := k_l.up hb.size
    replace s_c1 := s_c1.later hb
    replace k_c1 := k_c1.up hb.size
    replace s_l1 := s_l1.later hb
    replace k_l1 := k_l1.up hb.size
    replace s_c2 := s_c2.later hb
    replace k_c2 := k_c2.up hb.size
    replace s_l2 := s_l2.later hb
    replace k_l2 := k_l2.up hb.size
    replace d_g1 := d_g1.later hb
    replace d_g2 := d_g2.later hb
    replace bel := bel.trans (hb.mono bel.size)
    clear hb
    go_wp2_with fail
    refine (same_law _ _ _ _ _ T _ s_l1 s_l hm nil_l1).mono ?_
    rintro e W16 ⟨rfl, hb⟩
    replace s_c := s_c.later hb
    replace k_c := k_c.up hb.size
    replace s_l := s_l.later hb
    replace k_l := k_l.up hb.size
    replace s_c1 := s_c1.later hb
    replace k_c1 := k_c1.up hb.size
    replace s_l1 := s_l1.later hb
    replace k_l1 := k_l1.up hb.size
    replace s_c2 := s_c2.later hb
    replace k_c2 := k_c2.up hb.size
    replace s_l2 := s_l2.later hb
    replace k_l2 := k_l2.up hb.size
    replace d_g1 := d_g1.later hb
    replace d_g2 := d_g2.later hb
    replace bel := bel.trans (hb.mono bel.size)
    clear hb
    go_wp2_with fail
    refine (same_law _ _ _ _ _ S _ s_c2 s_c hn nil_c2).mono ?_
    rintro e W17 ⟨rfl, hb⟩
    replace s_c := s_c.later hb
    replace k_c := k_c.up hb.size
    replace s_l := s_l.later hb
    replace k_l := k_l.up hb.size
    replace s_c1 := s_c1.later hb
    replace k_c1 := k_c1.up hb.size
    replace s_l1 := s_l1.later hb
    replace k_l1 := k_l1.up hb.size
    replace s_c2 := s_c2.later hb
    replace k_c2 := k_c2.up hb.size
    replace s_l2 := s_l2.later hb
    replace k_l2 := k_l2.up hb.size
    replace d_g1 := d_g1.later hb
    replace d_g2 := d_g2.later hb
    replace bel := bel.trans (hb.mono bel.size)
    clear hb
    go_wp2_with fail
    refine (same_law _ _ _ _ _ T _ s_l2 s_l hm nil_l2).mono ?_
    rintro e W18 ⟨rfl, hb⟩
    replace s_c := s_c.later hb
    replace k_c := k_c.up hb.size
    replace s_l := s_l.later hb
    replace k_l := k_l.up hb.size
    replace s_c1 := s_c1.later hb
    replace k_c1 := k_c1.up hb.size
    replace s_l1 := s_l1.later hb
    replace k_l1 := k_l1.up hb.size
    replace s_c2 := s_c2.later hb
    replace k_c2 := k_c2.up hb.size
    replace s_l2 := s_l2.later hb
    replace k_l2 := k_l2.up hb.size
    replace d_g1 := d_g1.later hb
    replace d_g2 := d_g2.later hb
    replace bel := bel.trans (hb.mono bel.size)
    clear hb
    go_wp2_with fail
    refine (lockWait_law _ _ _ _ _ _ d_g1).mono ?_
    rintro e W19 ⟨rfl, rfl⟩
    go_wp2_with fail
    refine (lockWait_law _ _ _ _ _ _ d_g2).mono ?_
    rintro e W20 ⟨rfl, rfl⟩
    go_wp2_with fail
    refine (engine_law _ _ _ _ _ _ d_g1).mono ?_
    rintro e W21 ⟨rfl, rfl⟩
    go_wp2_with fail
    refine (engine_law _ _ _ _ _ _ d_g2).mono ?_
    rintro e W22 ⟨rfl, rfl⟩
    go_wp2
    go_ret
    exact ⟨rfl, bel⟩
  · rw [if_neg hy] at hz
    subst hz
    have HZ : Hid (z = if z < 0 then 0 else z) := by show z = if z < 0 then 0 else z; rw [if_neg hy]
    go_enter Trym.func7, Trym.ntmps7
    go_wp2_with fail
    refine (bytes2_any _ _ _ _ _ _ _ _ S T _ s_c0 s_l0 (by omega) (by omega)).mono ?_
    rintro e w' ⟨⟨b, rfl⟩, hw⟩
    subst w'
    cases b
    · go_wp2
      go_ret
      exact ⟨rfl, bel⟩
    go_wp2_with fail
    refine (budget_any _ _ _ S _ _ s_c0 (by omega) (by omega) (by omega)).mono ?_
    rintro e w' ⟨⟨r, rfl, hr⟩, hw⟩
    subst w'
    by_cases hr0 : r < 0
    · go_wp2
      go_ret
      exact ⟨rfl, bel⟩
    go_wp2_with fail
    refine (budget_any _ _ _ T _ _ s_l0 (by omega) (by omega) (by omega)).mono ?_
    rintro e w' ⟨⟨r2, rfl, hr2⟩, hw⟩
    subst w'
    by_cases hr3 : r2 < 0
    · go_wp2
      go_ret
      exact ⟨rfl, bel⟩
    go_wp2_with fail
    refine (clone_law _ _ _ S _ s_c0 hn).mono ?_
    rintro e W1 ⟨p_c, i_c, rfl, s_c, nil_c, k_c, hb⟩
    replace s_c0 := s_c0.later hb
    replace s_l0 := s_l0.later hb
    replace bel := bel.trans (hb.mono bel.size)
    clear hb
    go_wp2_with fail
    refine (clone_law _ _ _ T _ s_l0 hm).mono ?_
    rintro e W2 ⟨p_l, i_l, rfl, s_l, nil_l, k_l, hb⟩
    replace s_c0 := s_c0.later hb
    replace s_l0 := s_l0.later hb
    replace s_c := s_c.later hb
    replace k_c := k_c.up hb.size
    replace bel := bel.trans (hb.mono bel.size)
    clear hb
    clear s_c0 s_l0 nil_c nil_l
    go_wp2_with fail
    refine (newDB_law _ _).mono ?_
    rintro e W3 ⟨g1, rfl, d_g1, hge, hb⟩
    have aw_c_g1 := k_c.away_lt hge
    have aw_l_g1 := k_l.away_lt hge
    have low_g1 : w.heap.size ≤ g1 := by have := bel.size; omega
    clear hge
    replace s_c := s_c.later hb
    replace k_c := k_c.up hb.size
    replace s_l := s_l.later hb
    replace k_l := k_l.up hb.size
    replace bel := bel.trans (hb.mono bel.size)
    clear hb
    go_wp2_with fail
    refine (clone_law _ _ _ S _ s_c hn).mono ?_
    rintro e W4 ⟨p_c1, i_c1, rfl, s_c1, nil_c1, k_c1, hb⟩
    have aw_c1_g1 := k_c1.away_ge d_g1.lt
    replace s_c := s_c.later hb
    replace k_c := k_c.up hb.size
    replace s_l := s_l.later hb
    replace k_l := k_l.up hb.size
    replace d_g1 := d_g1.later hb
    replace bel := bel.trans (hb.mono bel.size)
    clear hb
    go_wp2_with fail
    refine (clone_law _ _ _ T _ s_l hm).mono ?_
    rintro e W5 ⟨p_l1, i_l1, rfl, s_l1, nil_l1, k_l1, hb⟩
    have aw_l1_g1 := k_l1.away_ge d_g1.lt
    replace s_c := s_c.later hb
    replace k_c := k_c.up hb.size
    replace s_l := s_l.later hb
    replace k_l := k_l.up hb.size
    replace s_c1 := s_c1.later hb
    replace k_c1 := k_c1.up hb.size
    replace d_g1 := d_g1.later hb
    replace bel := bel.trans (hb.mono bel.size)
    clear hb
    go_wp2_with fail
    refine (setFilter_law _ _ _ _ _ _ _ _ _ _ _ _ d_g1).mono ?_
    rintro e W6 ⟨rfl, dd, hx⟩
    clear d_g1
    have d_g1 := dd
    clear dd
    replace s_c := s_c.ex hx aw_c_g1
    replace k_c := k_c.up hx.size
    replace s_l := s_l.ex hx aw_l_g1
    replace k_l := k_l.up hx.size
    replace s_c1 := s_c1.ex hx aw_c1_g1
    replace k_c1 := k_c1.up hx.size
    replace s_l1 := s_l1.ex hx aw_l1_g1
    replace k_l1 := k_l1.up hx.size
    replace bel := bel.trans (hx.below low_g1 bel.size)
    clear hx
    go_wp2_with fail
    refine (setWait_law _ _ _ _ _ _ _ _ d_g1 HZ.out).mono ?_
    rintro e W7 ⟨rfl, dd, hx⟩
    clear d_g1
    have d_g1 := dd
    clear dd
    replace s_c := s_c.ex hx aw_c_g1
    replace k_c := k_c.up hx.size
    replace s_l := s_l.ex hx aw_l_g1
    replace k_l := k_l.up hx.size
    replace s_c1 := s_c1.ex hx aw_c1_g1
    replace k_c1 := k_c1.up hx.size
    replace s_l1 := s_l1.ex hx aw_l1_g1
    replace k_l1 := k_l1.up hx.size
    replace bel := bel.trans (hx.below low_g1 bel.size)
    clear hx
    go_wp2_with fail
    refine (newDB_law _ _).mono ?_
    rintro e W8 ⟨g2, rfl, d_g2, hge, hb⟩
    have aw_c_g2 := k_c.away_lt hge
    have aw_l_g2 := k_l.away_lt hge
    have aw_c1_g2 := k_c1.away_lt hge
    have aw_l1_g2 := k_l1.away_lt hge
    have ne_g1_g2 : g1 ≠ g2 := by have := d_g1.lt; omega
    have low_g2 : w.heap.size ≤ g2 := by have := bel.size; omega
    clear hge
    replace s_c := s_c.later hb
    replace k_c := k_c.up hb.size
    replace s_l := s_l.later hb
    replace k_l := k_l.up hb.size
    replace s_c1 := s_c1.later hb
    replace k_c1 := k_c1.up hb.size
    replace s_l1 := s_l1.later hb
    replace k_l1 := k_l1.up hb.size
    replace d_g1 := d_g1.later hb
    replace bel := bel.trans (hb.mono bel.size)
    clear hb
    go_wp2_with fail
    refine (setWait_law _ _ _ _ _ _ _ _ d_g2 HZ.out).mono ?_
    rintro e W9 ⟨rfl, dd, hx⟩
    clear d_g2
    have d_g2 := dd
    clear dd
    replace s_c := s_c.ex hx aw_c_g2
    replace k_c := k_c.up hx.size
    replace s_l := s_l.ex hx aw_l_g2
    replace k_l := k_l.up hx.size
    replace s_c1 := s_c1.ex hx aw_c1_g2
    replace k_c1 := k_c1.up hx.size
    replace s_l1 := s_l1.ex hx aw_l1_g2
    replace k_l1 := k_l1.up hx.size
    replace d_g1 := d_g1.ex hx ne_g1_g2
    replace bel := bel.trans (hx.below low_g2 bel.size)
    clear hx
    go_wp2_with fail
    refine (clone_law _ _ _ S _ s_c hn).mono ?_
    rintro e W10 ⟨p_c2, i_c2, rfl, s_c2, nil_c2, k_c2, hb⟩
    have aw_c2_g1 := k_c2.away_ge d_g1.lt
    have aw_c2_g2 := k_c2.away_ge d_g2.lt
    replace s_c := s_c.later hb
    replace k_c := k_c.up hb.size
    replace s_l := s_l.later hb
    replace k_l := k_l.up hb.size
    replace s_c1 := s_c1.later hb
    replace k_c1 := k_c1.up hb.size
    replace s_l1 := s_l1.later hb
    replace k_l1 := k_l1.up hb.size
    replace d_g1 := d_g1.later hb
    replace d_g2 := d_g2.later hb
    replace bel := bel.trans (hb.mono bel.size)
    clear hb
    go_wp2_with fail
    refine (clone_law _ _ _ T _ s_l hm).mono ?_
    rintro e W11 ⟨p_l2, i_l2, rfl, s_l2, nil_l2, k_l2, hb⟩
    have aw_l2_g1 := k_l2.away_ge d_g1.lt
    have aw_l2_g2 := k_l2.away_ge d_g2.lt
    replace s_c := s_c.later hb
    replace k_c := k_c.up hb.size
    replace s_l := s_l.later hb
    replace k_l := k_l.up hb.size
    replace s_c1 := s_c1.later hb
    replace k_c1 := k_c1.up hb.size
    replace s_l1 := s_l1.later hb
    replace k_l1 := k_l1.up hb.size
    replace s_c2 := s_c2.later hb
    replace k_c2 := k_c2.up hb.size
    replace d_g1 := d_g1.later hb
    replace d_g2 := d_g2.later hb
    replace bel := bel.trans (hb.mono bel.size)
    clear hb
    go_wp2_with fail
    refine (setFilter_law _ _ _ _ _ _ _ _ _ _ _ _ d_g2).mono ?_
    rintro e W12 ⟨rfl, dd, hx⟩
    clear d_g2
    have d_g2 := dd
    clear dd
    replace s_c := s_c.ex hx aw_c_g2
    replace k_c := k_c.up hx.size
    replace s_l := s_l.ex hx aw_l_g2
    replace k_l := k_l.up hx.size
    replace s_c1 := s_c1.ex hx aw_c1_g2
    replace k_c1 := k_c1.up hx.size
    replace s_l1 := s_l1.ex hx aw_l1_g2
    replace k_l1 := k_l1.up hx.size
    replace s_c2 := s_c2.ex hx aw_c2_g2
    replace k_c2 := k_c2.up hx.size
    replace s_l2 := s_l2.ex hx aw_l2_g2
    replace k_l2 := k_l2.up hx.size
    replace d_g1 := d_g1.ex hx ne_g1_g2
    replace bel := bel.trans (hx.below low_g2 bel.size)
    clear hx
    go_wp2_with fail
    refine (filterOf_law _ _ _ _ _ _ _ _ _ _ d_g1).mono ?_
    rintro e W13 ⟨rfl, hb⟩
    replace s_c := s_c.later hb
    replace k_c := k_c.up hb.size
    replace s_l := s_l.later hb
    replace k_l := k_l.up hb.size
    replace s_c1 := s_c1.later hb
    replace k_c1 := k_c1.up hb.size
    replace s_l1 := s_l1.later hb
    replace k_l1 := k_l1.up hb.size
    replace s_c2 := s_c2.later hb
    replace k_c2 := k_c2.up hb.size
    replace s_l2 := s_l2.later hb
    replace k_l2 := k_l2.up hb.size
    replace d_g1 := d_g1.later hb
    replace d_g2 := d_g2.later hb
    replace bel := bel.trans (hb.mono bel.size)
    clear hb
    go_wp2_with fail
    refine (filterOf_law _ _ _ _ _ _ _ _ _ _ d_g2).mono ?_
    rintro e W14 ⟨rfl, hb⟩
    replace s_c := s_c.later hb
    replace k_c := k_c.up hb.size
    replace s_l := s_l.later hb
    replace k_l := k_l.up hb.size
    replace s_c1 := s_c1.later hb
    replace k_c1 := k_c1.up hb.size
    replace s_l1 := s_l1.later hb
    replace k_l1 := k_l1.up hb.size
    replace s_c2 := s_c2.later hb
    replace k_c2 := k_c2.up hb.size
    replace s_l2 := s_l2.later hb
    replace k_l2 := k_l2.up hb.size
    replace d_g1 := d_g1.later hb
    replace d_g2 := d_g2.later hb
    replace bel := bel.trans (hb.mono bel.size)
    clear hb
    go_wp2_with fail
    refine (same_law _ _ _ _ _ S _ s_c1 s_c hn nil_c1).mono ?_
    rintro e W15 ⟨rfl, hb⟩
    replace s_c := s_c.later hb
    replace k_c := k_c.up hb.size
    replace s_l := s_l.later hb
    replace k_l := k_l.up hb.size
    replace s_c1 := s_c1.later hb
    replace k_c1 := k_c1.up hb.size
    replace s_l1 := s_l1.later hb
    replace k_l1 := k_l1.up hb.size
    replace s_c2 := s_c2.later hb
    replace k_c2 := k_c2.up hb.size
    replace s_l2 := s_l2.later hb
    replace k_l2 := k_l2.up hb.size
    replace d_g1 := d_g1.later hb
    replace d_g2 := d_g2.later hb
    replace bel := bel.trans (hb.mono bel.size)
    clear hb
    go_wp2_with fail
    refine (same_law _ _ _ _ _ T _ s_l1 s_l hm nil_l1).mono ?_
    rintro e W16 ⟨rfl, hb⟩
    replace s_c := s_c.later hb
    replace k_c := k_c.up hb.size
    replace s_l := s_l.later hb
    replace k_l := k_l.up hb.size
    replace s_c1 := s_c1.later hb
    replace k_c1 := k_c1.up hb.size
    replace s_l1 := s_l1.later hb
    replace k_l1 := k_l1.up hb.size
    replace s_c2 := s_c2.later hb
    replace k_c2 := k_c2.up hb.size
    replace s_l2 := s_l2.later hb
    replace k_l2 := k_l2.up hb.size
    replace d_g1 := d_g1.later hb
    replace d_g2 := d_g2.later hb
    replace bel := bel.trans (hb.mono bel.size)
    clear hb
    go_wp2_with fail
    refine (same_law _ _ _ _ _ S _ s_c2 s_c hn nil_c2).mono ?_
    rintro e W17 ⟨rfl, hb⟩
    replace s_c := s_c.later hb
    replace k_c := k_c.up hb.size
    replace s_l := s_l.later hb
    replace k_l := k_l.up hb.size
    replace s_c1 := s_c1.later hb
    replace k_c1 := k_c1.up hb.size
    replace s_l1 := s_l1.later hb
    replace k_l1 := k_l1.up hb.size
    replace s_c2 := s_c2.later hb
    replace k_c2 := k_c2.up hb.size
    replace s_l2 := s_l2.later hb
    replace k_l2 := k_l2.up hb.size
    replace d_g1 := d_g1.later hb
    replace d_g2 := d_g2.later hb
    replace bel := bel.trans (hb.mono bel.size)
    clear hb
    go_wp2_with fail
    refine (same_law _ _ _ _ _ T _ s_l2 s_l hm nil_l2).mono ?_
    rintro e W18 ⟨rfl, hb⟩
    replace s_c := s_c.later hb
    replace k_c := k_c.up hb.size
    replace s_l := s_l.later hb
    replace k_l := k_l.up hb.size
    replace s_c1 := s_c1.later hb
    replace k_c1 := k_c1.up hb.size
    replace s_l1 := s_l1.later hb
    replace k_l1 := k_l1.up hb.size
    replace s_c2 := s_c2.later hb
    replace k_c2 := k_c2.up hb.size
    replace s_l2 := s_l2.later hb
    replace k_l2 := k_l2.up hb.size
    replace d_g1 := d_g1.later hb
    replace d_g2 := d_g2.later hb
    replace bel := bel.trans (hb.mono bel.size)
    clear hb
    go_wp2_with fail
    refine (lockWait_law _ _ _ _ _ _ d_g1).mono ?_
    rintro e W19 ⟨rfl, rfl⟩
    go_wp2_with fail
    refine (lockWait_law _ _ _ _ _ _ d_g2).mono ?_
    rintro e W20 ⟨rfl, rfl⟩
    go_wp2_with fail
    refine (engine_law _ _ _ _ _ _ d_g1).mono ?_
    rintro e W21 ⟨rfl, rfl⟩
    go_wp2_with fail
    refine (engine_law _ _ _ _ _ _ d_g2).mono ?_
    rintro e W22 ⟨rfl, rfl⟩
    go_wp2
    go_ret
    exact ⟨rfl, bel⟩
end Go.Proofs.Qxb6615531aMods
