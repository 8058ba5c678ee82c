/-
  The proof of Rows.FnWithinTargetZeroAndConvexSaid: the walk, and the frame after the guide's own for integers, turned to floats.
-/
import Derived.Test.Qxb6616058aModsRows
import Derived.Test.Qxb6616058aModsTol
import Derived.WalkKit
import Derived.ProofKit
import Derived.OpenShut
import Derived.Laws.Cover2
namespace Go.Proofs.Qxb6616058aMods.fnWithinTargetZeroAndConvex
open Go.ChangeShapes Go.WideShapes Go.ChangeAt Go.RowKit
set_option linter.unusedVariables false

theorem own : ownKnob Trym.prog.godebug = none := by kernel_rfl
theorem grown_trans {a b c : World} (h : Grown a b) (k : Grown b c) : Grown a c := ⟨World.keptBut_trans h.1 k.1, fun x => (k.2.1 x).trans (h.2.1 x), Nat.le_trans h.2.2 k.2.2⟩

theorem gt_false {x y : Nat} (hx : Fl.fine (Ieee.double.read x)) (hy : Fl.fine (Ieee.double.read y)) (h : (FloatKind.f64.format.order x y == some .gt) = false) : Fl.dval (Ieee.double.read x) ≤ Fl.dval (Ieee.double.read y) := by
  have h' : (Ieee.double.order x y == some .gt) = false := h
  unfold Ieee.Format.order at h'
  rw [Fl.order_fine hx hy, Fl.compare_int] at h'
  by_cases c : Fl.dval (Ieee.double.read x) < Fl.dval (Ieee.double.read y)
  · omega
  · rw [if_neg c] at h'
    by_cases e : Fl.dval (Ieee.double.read x) = Fl.dval (Ieee.double.read y)
    · omega
    · rw [if_neg e] at h'; simp at h'
theorem gt_true {x y : Nat} (hx : Fl.fine (Ieee.double.read x)) (hy : Fl.fine (Ieee.double.read y)) (h : (FloatKind.f64.format.order x y == some .gt) = true) : Fl.dval (Ieee.double.read y) < Fl.dval (Ieee.double.read x) := by
  have h' : (Ieee.double.order x y == some .gt) = true := h
  unfold Ieee.Format.order at h'
  rw [Fl.order_fine hx hy, Fl.compare_int] at h'
  by_cases c : Fl.dval (Ieee.double.read x) < Fl.dval (Ieee.double.read y)
  · rw [if_pos c] at h'; simp at h'
  · rw [if_neg c] at h'
    by_cases e : Fl.dval (Ieee.double.read x) = Fl.dval (Ieee.double.read y)
    · rw [if_pos e] at h'; simp at h'
    · omega
theorem fine_null : Fl.fine (Ieee.double.read 0) := Fl.read_fine 0 (by decide +kernel)
theorem between {d u a b c : Nat} (hd : Fl.fine (Ieee.double.read d)) (hu : Fl.fine (Ieee.double.read u)) (ha : Fl.fine (Ieee.double.read a)) (hb : Fl.fine (Ieee.double.read b)) (hc : Fl.fine (Ieee.double.read c))
    (l1 : Fl.dval (Ieee.double.read a) ≤ Fl.dval (Ieee.double.read b)) (l2 : Fl.dval (Ieee.double.read b) ≤ Fl.dval (Ieee.double.read c)) (h1 : Fl.wth d u a = true) (h2 : Fl.wth d u c = true) : Fl.wth d u b = true := by
  rw [Fl.wth_iff hd hu ha] at h1
  rw [Fl.wth_iff hd hu hc] at h2
  rw [Fl.wth_iff hd hu hb]
  omega

set_option maxHeartbeats 2000000 in
set_option maxRecDepth 100000 in
theorem sorted000 (d u r1 r2 r3 : Nat) (w : World) (fd : Fl.fine (Ieee.double.read d)) (fu : Fl.fine (Ieee.double.read u)) (fr1 : Fl.fine (Ieee.double.read r1)) (fr2 : Fl.fine (Ieee.double.read r2)) (fr3 : Fl.fine (Ieee.double.read r3))
    (hd : (FloatKind.f64.format.order d d != some .eq) = false) (hu : (FloatKind.f64.format.order u u != some .eq) = false) (hr1 : (FloatKind.f64.format.order r1 r1 != some .eq) = false) (hr2 : (FloatKind.f64.format.order r2 r2 != some .eq) = false) (hr3 : (FloatKind.f64.format.order r3 r3 != some .eq) = false)
    (l1 : (FloatKind.f64.format.order d 0 == some .lt) = false) (l2 : (FloatKind.f64.format.order u 0 == some .lt) = false) (t0 : (FloatKind.f64.format.order r1 r2 == some .gt) = false) (t1 : (FloatKind.f64.format.order r2 r3 == some .gt) = false) (t2 : (FloatKind.f64.format.order r1 r2 == some .gt) = false) :
    Calls Trym.prog 4 #[.float .f64 d, .float .f64 u, .float .f64 r1, .float .f64 r2, .float .f64 r3] w fun e w' => e = .returned (.bool true) ∧ Grown w w' := by
  have F0 := fine_null
  have bel : Grown w w := Grown.refl _
  have V0 := gt_false fr1 fr2 t0
  have V1 := gt_false fr2 fr3 t1
  have V2 := gt_false fr1 fr2 t2
  have K1 : Hid (Fl.wth d u Fl.one = true) := Fl.target fd fu l1 l2
  have K2 : Hid (Fl.wth 0 0 r1 = (Ieee.double.order r1 Fl.one == some .eq)) := Fl.zero_is_one fr1
  have K3 : Hid (Fl.wth 0 0 r2 = (Ieee.double.order r2 Fl.one == some .eq)) := Fl.zero_is_one fr2
  have K4 : Hid (Fl.wth 0 0 r3 = (Ieee.double.order r3 Fl.one == some .eq)) := Fl.zero_is_one fr3
  have K5 : Hid (Fl.wth d u r1 = true → Fl.wth d u r3 = true → Fl.wth d u r2 = true) := between fd fu fr1 fr2 fr3 (by omega) (by omega)
  clear V0 V1 V2
  go_enter Trym.func4, Trym.ntmps4
  go_wp2_with fail
  refine (within_law _ _ _ _ fd fu).mono ?_
  rintro e w1 ⟨b1, rfl, e1, g1⟩
  have E1 : Hid (_ = _) := e1
  clear e1
  replace bel := grown_trans bel g1
  clear g1
  go_wp2_with fail
  refine (within_law _ _ _ _ F0 F0).mono ?_
  rintro e w2 ⟨b2, rfl, e2, g2⟩
  have E2 : Hid (_ = _) := e2
  clear e2
  replace bel := grown_trans bel g2
  clear g2
  go_wp2_with fail
  refine (within_law _ _ _ _ F0 F0).mono ?_
  rintro e w3 ⟨b3, rfl, e3, g3⟩
  have E3 : Hid (_ = _) := e3
  clear e3
  replace bel := grown_trans bel g3
  clear g3
  go_wp2_with fail
  refine (within_law _ _ _ _ F0 F0).mono ?_
  rintro e w4 ⟨b4, rfl, e4, g4⟩
  have E4 : Hid (_ = _) := e4
  clear e4
  replace bel := grown_trans bel g4
  clear g4
  go_wp2_with fail
  refine (within_law _ _ _ _ fd fu).mono ?_
  rintro e w5 ⟨b5, rfl, e5, g5⟩
  have E5 : Hid (_ = _) := e5
  clear e5
  replace bel := grown_trans bel g5
  clear g5
  go_wp2_with fail
  refine (within_law _ _ _ _ fd fu).mono ?_
  rintro e w6 ⟨b6, rfl, e6, g6⟩
  have E6 : Hid (_ = _) := e6
  clear e6
  replace bel := grown_trans bel g6
  clear g6
  go_wp2_with fail
  refine (within_law _ _ _ _ fd fu).mono ?_
  rintro e w7 ⟨b7, rfl, e7, g7⟩
  have E7 : Hid (_ = _) := e7
  clear e7
  replace bel := grown_trans bel g7
  clear g7
  have G1 : b1 = true := E1.out.trans K1.out
  have G2 : b2 = (FloatKind.f64.format.order r1 4607182418800017408 == some .eq) := E2.out.trans K2.out
  have G3 : b3 = (FloatKind.f64.format.order r2 4607182418800017408 == some .eq) := E3.out.trans K3.out
  have G4 : b4 = (FloatKind.f64.format.order r3 4607182418800017408 == some .eq) := E4.out.trans K4.out
  have G5 : b5 = true → b7 = true → b6 = true := by rw [E5.out, E6.out, E7.out]; exact K5.out
  clear K1 K2 K3 K4 K5 E1 E2 E3 E4 E5 E6 E7 hd hu hr1 hr2 hr3 l1 l2 t0 t1 t2
  subst G1
  subst G2
  subst G3
  subst G4
  cases b5
  · clear G5
    go_wp2
    go_ret
    exact ⟨rfl, bel⟩
  · cases b7
    · clear G5
      go_wp2
      go_ret
      exact ⟨rfl, bel⟩
    · obtain rfl := G5 rfl rfl
      clear G5
      go_wp2
      go_ret
      exact ⟨rfl, bel⟩

set_option maxHeartbeats 2000000 in
set_option maxRecDepth 100000 in
theorem sorted001 (d u r1 r2 r3 : Nat) (w : World) (fd : Fl.fine (Ieee.double.read d)) (fu : Fl.fine (Ieee.double.read u)) (fr1 : Fl.fine (Ieee.double.read r1)) (fr2 : Fl.fine (Ieee.double.read r2)) (fr3 : Fl.fine (Ieee.double.read r3))
    (hd : (FloatKind.f64.format.order d d != some .eq) = false) (hu : (FloatKind.f64.format.order u u != some .eq) = false) (hr1 : (FloatKind.f64.format.order r1 r1 != some .eq) = false) (hr2 : (FloatKind.f64.format.order r2 r2 != some .eq) = false) (hr3 : (FloatKind.f64.format.order r3 r3 != some .eq) = false)
    (l1 : (FloatKind.f64.format.order d 0 == some .lt) = false) (l2 : (FloatKind.f64.format.order u 0 == some .lt) = false) (t0 : (FloatKind.f64.format.order r1 r2 == some .gt) = false) (t1 : (FloatKind.f64.format.order r2 r3 == some .gt) = false) (t2 : (FloatKind.f64.format.order r1 r2 == some .gt) = true) :
    Calls Trym.prog 4 #[.float .f64 d, .float .f64 u, .float .f64 r1, .float .f64 r2, .float .f64 r3] w fun e w' => e = .returned (.bool true) ∧ Grown w w' := by
  rw [t0] at t2
  cases t2

set_option maxHeartbeats 2000000 in
set_option maxRecDepth 100000 in
theorem sorted010 (d u r1 r2 r3 : Nat) (w : World) (fd : Fl.fine (Ieee.double.read d)) (fu : Fl.fine (Ieee.double.read u)) (fr1 : Fl.fine (Ieee.double.read r1)) (fr2 : Fl.fine (Ieee.double.read r2)) (fr3 : Fl.fine (Ieee.double.read r3))
    (hd : (FloatKind.f64.format.order d d != some .eq) = false) (hu : (FloatKind.f64.format.order u u != some .eq) = false) (hr1 : (FloatKind.f64.format.order r1 r1 != some .eq) = false) (hr2 : (FloatKind.f64.format.order r2 r2 != some .eq) = false) (hr3 : (FloatKind.f64.format.order r3 r3 != some .eq) = false)
    (l1 : (FloatKind.f64.format.order d 0 == some .lt) = false) (l2 : (FloatKind.f64.format.order u 0 == some .lt) = false) (t0 : (FloatKind.f64.format.order r1 r2 == some .gt) = false) (t1 : (FloatKind.f64.format.order r2 r3 == some .gt) = true) (t2 : (FloatKind.f64.format.order r1 r3 == some .gt) = false) :
    Calls Trym.prog 4 #[.float .f64 d, .float .f64 u, .float .f64 r1, .float .f64 r2, .float .f64 r3] w fun e w' => e = .returned (.bool true) ∧ Grown w w' := by
  have F0 := fine_null
  have bel : Grown w w := Grown.refl _
  have V0 := gt_false fr1 fr2 t0
  have V1 := gt_true fr2 fr3 t1
  have V2 := gt_false fr1 fr3 t2
  have K1 : Hid (Fl.wth d u Fl.one = true) := Fl.target fd fu l1 l2
  have K2 : Hid (Fl.wth 0 0 r1 = (Ieee.double.order r1 Fl.one == some .eq)) := Fl.zero_is_one fr1
  have K3 : Hid (Fl.wth 0 0 r3 = (Ieee.double.order r3 Fl.one == some .eq)) := Fl.zero_is_one fr3
  have K4 : Hid (Fl.wth 0 0 r2 = (Ieee.double.order r2 Fl.one == some .eq)) := Fl.zero_is_one fr2
  have K5 : Hid (Fl.wth d u r1 = true → Fl.wth d u r2 = true → Fl.wth d u r3 = true) := between fd fu fr1 fr3 fr2 (by omega) (by omega)
  clear V0 V1 V2
  go_enter Trym.func4, Trym.ntmps4
  go_wp2_with fail
  refine (within_law _ _ _ _ fd fu).mono ?_
  rintro e w1 ⟨b1, rfl, e1, g1⟩
  have E1 : Hid (_ = _) := e1
  clear e1
  replace bel := grown_trans bel g1
  clear g1
  go_wp2_with fail
  refine (within_law _ _ _ _ F0 F0).mono ?_
  rintro e w2 ⟨b2, rfl, e2, g2⟩
  have E2 : Hid (_ = _) := e2
  clear e2
  replace bel := grown_trans bel g2
  clear g2
  go_wp2_with fail
  refine (within_law _ _ _ _ F0 F0).mono ?_
  rintro e w3 ⟨b3, rfl, e3, g3⟩
  have E3 : Hid (_ = _) := e3
  clear e3
  replace bel := grown_trans bel g3
  clear g3
  go_wp2_with fail
  refine (within_law _ _ _ _ F0 F0).mono ?_
  rintro e w4 ⟨b4, rfl, e4, g4⟩
  have E4 : Hid (_ = _) := e4
  clear e4
  replace bel := grown_trans bel g4
  clear g4
  go_wp2_with fail
  refine (within_law _ _ _ _ fd fu).mono ?_
  rintro e w5 ⟨b5, rfl, e5, g5⟩
  have E5 : Hid (_ = _) := e5
  clear e5
  replace bel := grown_trans bel g5
  clear g5
  go_wp2_with fail
  refine (within_law _ _ _ _ fd fu).mono ?_
  rintro e w6 ⟨b6, rfl, e6, g6⟩
  have E6 : Hid (_ = _) := e6
  clear e6
  replace bel := grown_trans bel g6
  clear g6
  go_wp2_with fail
  refine (within_law _ _ _ _ fd fu).mono ?_
  rintro e w7 ⟨b7, rfl, e7, g7⟩
  have E7 : Hid (_ = _) := e7
  clear e7
  replace bel := grown_trans bel g7
  clear g7
  have G1 : b1 = true := E1.out.trans K1.out
  have G2 : b2 = (FloatKind.f64.format.order r1 4607182418800017408 == some .eq) := E2.out.trans K2.out
  have G3 : b3 = (FloatKind.f64.format.order r3 4607182418800017408 == some .eq) := E3.out.trans K3.out
  have G4 : b4 = (FloatKind.f64.format.order r2 4607182418800017408 == some .eq) := E4.out.trans K4.out
  have G5 : b5 = true → b7 = true → b6 = true := by rw [E5.out, E6.out, E7.out]; exact K5.out
  clear K1 K2 K3 K4 K5 E1 E2 E3 E4 E5 E6 E7 hd hu hr1 hr2 hr3 l1 l2 t0 t1 t2
  subst G1
  subst G2
  subst G3
  subst G4
  cases b5
  · clear G5
    go_wp2
    go_ret
    exact ⟨rfl, bel⟩
  · cases b7
    · clear G5
      go_wp2
      go_ret
      exact ⟨rfl, bel⟩
    · obtain rfl := G5 rfl rfl
      clear G5
      go_wp2
      go_ret
      exact ⟨rfl, bel⟩

set_option maxHeartbeats 2000000 in
set_option maxRecDepth 100000 in
theorem sorted011 (d u r1 r2 r3 : Nat) (w : World) (fd : Fl.fine (Ieee.double.read d)) (fu : Fl.fine (Ieee.double.read u)) (fr1 : Fl.fine (Ieee.double.read r1)) (fr2 : Fl.fine (Ieee.double.read r2)) (fr3 : Fl.fine (Ieee.double.read r3))
    (hd : (FloatKind.f64.format.order d d != some .eq) = false) (hu : (FloatKind.f64.format.order u u != some .eq) = false) (hr1 : (FloatKind.f64.format.order r1 r1 != some .eq) = false) (hr2 : (FloatKind.f64.format.order r2 r2 != some .eq) = false) (hr3 : (FloatKind.f64.format.order r3 r3 != some .eq) = false)
    (l1 : (FloatKind.f64.format.order d 0 == some .lt) = false) (l2 : (FloatKind.f64.format.order u 0 == some .lt) = false) (t0 : (FloatKind.f64.format.order r1 r2 == some .gt) = false) (t1 : (FloatKind.f64.format.order r2 r3 == some .gt) = true) (t2 : (FloatKind.f64.format.order r1 r3 == some .gt) = true) :
    Calls Trym.prog 4 #[.float .f64 d, .float .f64 u, .float .f64 r1, .float .f64 r2, .float .f64 r3] w fun e w' => e = .returned (.bool true) ∧ Grown w w' := by
  have F0 := fine_null
  have bel : Grown w w := Grown.refl _
  have V0 := gt_false fr1 fr2 t0
  have V1 := gt_true fr2 fr3 t1
  have V2 := gt_true fr1 fr3 t2
  have K1 : Hid (Fl.wth d u Fl.one = true) := Fl.target fd fu l1 l2
  have K2 : Hid (Fl.wth 0 0 r3 = (Ieee.double.order r3 Fl.one == some .eq)) := Fl.zero_is_one fr3
  have K3 : Hid (Fl.wth 0 0 r1 = (Ieee.double.order r1 Fl.one == some .eq)) := Fl.zero_is_one fr1
  have K4 : Hid (Fl.wth 0 0 r2 = (Ieee.double.order r2 Fl.one == some .eq)) := Fl.zero_is_one fr2
  have K5 : Hid (Fl.wth d u r3 = true → Fl.wth d u r2 = true → Fl.wth d u r1 = true) := between fd fu fr3 fr1 fr2 (by omega) (by omega)
  clear V0 V1 V2
  go_enter Trym.func4, Trym.ntmps4
  go_wp2_with fail
  refine (within_law _ _ _ _ fd fu).mono ?_
  rintro e w1 ⟨b1, rfl, e1, g1⟩
  have E1 : Hid (_ = _) := e1
  clear e1
  replace bel := grown_trans bel g1
  clear g1
  go_wp2_with fail
  refine (within_law _ _ _ _ F0 F0).mono ?_
  rintro e w2 ⟨b2, rfl, e2, g2⟩
  have E2 : Hid (_ = _) := e2
  clear e2
  replace bel := grown_trans bel g2
  clear g2
  go_wp2_with fail
  refine (within_law _ _ _ _ F0 F0).mono ?_
  rintro e w3 ⟨b3, rfl, e3, g3⟩
  have E3 : Hid (_ = _) := e3
  clear e3
  replace bel := grown_trans bel g3
  clear g3
  go_wp2_with fail
  refine (within_law _ _ _ _ F0 F0).mono ?_
  rintro e w4 ⟨b4, rfl, e4, g4⟩
  have E4 : Hid (_ = _) := e4
  clear e4
  replace bel := grown_trans bel g4
  clear g4
  go_wp2_with fail
  refine (within_law _ _ _ _ fd fu).mono ?_
  rintro e w5 ⟨b5, rfl, e5, g5⟩
  have E5 : Hid (_ = _) := e5
  clear e5
  replace bel := grown_trans bel g5
  clear g5
  go_wp2_with fail
  refine (within_law _ _ _ _ fd fu).mono ?_
  rintro e w6 ⟨b6, rfl, e6, g6⟩
  have E6 : Hid (_ = _) := e6
  clear e6
  replace bel := grown_trans bel g6
  clear g6
  go_wp2_with fail
  refine (within_law _ _ _ _ fd fu).mono ?_
  rintro e w7 ⟨b7, rfl, e7, g7⟩
  have E7 : Hid (_ = _) := e7
  clear e7
  replace bel := grown_trans bel g7
  clear g7
  have G1 : b1 = true := E1.out.trans K1.out
  have G2 : b2 = (FloatKind.f64.format.order r3 4607182418800017408 == some .eq) := E2.out.trans K2.out
  have G3 : b3 = (FloatKind.f64.format.order r1 4607182418800017408 == some .eq) := E3.out.trans K3.out
  have G4 : b4 = (FloatKind.f64.format.order r2 4607182418800017408 == some .eq) := E4.out.trans K4.out
  have G5 : b5 = true → b7 = true → b6 = true := by rw [E5.out, E6.out, E7.out]; exact K5.out
  clear K1 K2 K3 K4 K5 E1 E2 E3 E4 E5 E6 E7 hd hu hr1 hr2 hr3 l1 l2 t0 t1 t2
  subst G1
  subst G2
  subst G3
  subst G4
  cases b5
  · clear G5
    go_wp2
    go_ret
    exact ⟨rfl, bel⟩
  · cases b7
    · clear G5
      go_wp2
      go_ret
      exact ⟨rfl, bel⟩
    · obtain rfl := G5 rfl rfl
      clear G5
      go_wp2
      go_ret
      exact ⟨rfl, bel⟩

set_option maxHeartbeats 2000000 in
set_option maxRecDepth 100000 in
theorem sorted100 (d u r1 r2 r3 : Nat) (w : World) (fd : Fl.fine (Ieee.double.read d)) (fu : Fl.fine (Ieee.double.read u)) (fr1 : Fl.fine (Ieee.double.read r1)) (fr2 : Fl.fine (Ieee.double.read r2)) (fr3 : Fl.fine (Ieee.double.read r3))
    (hd : (FloatKind.f64.format.order d d != some .eq) = false) (hu : (FloatKind.f64.format.order u u != some .eq) = false) (hr1 : (FloatKind.f64.format.order r1 r1 != some .eq) = false) (hr2 : (FloatKind.f64.format.order r2 r2 != some .eq) = false) (hr3 : (FloatKind.f64.format.order r3 r3 != some .eq) = false)
    (l1 : (FloatKind.f64.format.order d 0 == some .lt) = false) (l2 : (FloatKind.f64.format.order u 0 == some .lt) = false) (t0 : (FloatKind.f64.format.order r1 r2 == some .gt) = true) (t1 : (FloatKind.f64.format.order r1 r3 == some .gt) = false) (t2 : (FloatKind.f64.format.order r2 r1 == some .gt) = false) :
    Calls Trym.prog 4 #[.float .f64 d, .float .f64 u, .float .f64 r1, .float .f64 r2, .float .f64 r3] w fun e w' => e = .returned (.bool true) ∧ Grown w w' := by
  have F0 := fine_null
  have bel : Grown w w := Grown.refl _
  have V0 := gt_true fr1 fr2 t0
  have V1 := gt_false fr1 fr3 t1
  have V2 := gt_false fr2 fr1 t2
  have K1 : Hid (Fl.wth d u Fl.one = true) := Fl.target fd fu l1 l2
  have K2 : Hid (Fl.wth 0 0 r2 = (Ieee.double.order r2 Fl.one == some .eq)) := Fl.zero_is_one fr2
  have K3 : Hid (Fl.wth 0 0 r1 = (Ieee.double.order r1 Fl.one == some .eq)) := Fl.zero_is_one fr1
  have K4 : Hid (Fl.wth 0 0 r3 = (Ieee.double.order r3 Fl.one == some .eq)) := Fl.zero_is_one fr3
  have K5 : Hid (Fl.wth d u r2 = true → Fl.wth d u r3 = true → Fl.wth d u r1 = true) := between fd fu fr2 fr1 fr3 (by omega) (by omega)
  clear V0 V1 V2
  go_enter Trym.func4, Trym.ntmps4
  go_wp2_with fail
  refine (within_law _ _ _ _ fd fu).mono ?_
  rintro e w1 ⟨b1, rfl, e1, g1⟩
  have E1 : Hid (_ = _) := e1
  clear e1
  replace bel := grown_trans bel g1
  clear g1
  go_wp2_with fail
  refine (within_law _ _ _ _ F0 F0).mono ?_
  rintro e w2 ⟨b2, rfl, e2, g2⟩
  have E2 : Hid (_ = _) := e2
  clear e2
  replace bel := grown_trans bel g2
  clear g2
  go_wp2_with fail
  refine (within_law _ _ _ _ F0 F0).mono ?_
  rintro e w3 ⟨b3, rfl, e3, g3⟩
  have E3 : Hid (_ = _) := e3
  clear e3
  replace bel := grown_trans bel g3
  clear g3
  go_wp2_with fail
  refine (within_law _ _ _ _ F0 F0).mono ?_
  rintro e w4 ⟨b4, rfl, e4, g4⟩
  have E4 : Hid (_ = _) := e4
  clear e4
  replace bel := grown_trans bel g4
  clear g4
  go_wp2_with fail
  refine (within_law _ _ _ _ fd fu).mono ?_
  rintro e w5 ⟨b5, rfl, e5, g5⟩
  have E5 : Hid (_ = _) := e5
  clear e5
  replace bel := grown_trans bel g5
  clear g5
  go_wp2_with fail
  refine (within_law _ _ _ _ fd fu).mono ?_
  rintro e w6 ⟨b6, rfl, e6, g6⟩
  have E6 : Hid (_ = _) := e6
  clear e6
  replace bel := grown_trans bel g6
  clear g6
  go_wp2_with fail
  refine (within_law _ _ _ _ fd fu).mono ?_
  rintro e w7 ⟨b7, rfl, e7, g7⟩
  have E7 : Hid (_ = _) := e7
  clear e7
  replace bel := grown_trans bel g7
  clear g7
  have G1 : b1 = true := E1.out.trans K1.out
  have G2 : b2 = (FloatKind.f64.format.order r2 4607182418800017408 == some .eq) := E2.out.trans K2.out
  have G3 : b3 = (FloatKind.f64.format.order r1 4607182418800017408 == some .eq) := E3.out.trans K3.out
  have G4 : b4 = (FloatKind.f64.format.order r3 4607182418800017408 == some .eq) := E4.out.trans K4.out
  have G5 : b5 = true → b7 = true → b6 = true := by rw [E5.out, E6.out, E7.out]; exact K5.out
  clear K1 K2 K3 K4 K5 E1 E2 E3 E4 E5 E6 E7 hd hu hr1 hr2 hr3 l1 l2 t0 t1 t2
  subst G1
  subst G2
  subst G3
  subst G4
  cases b5
  · clear G5
    go_wp2
    go_ret
    exact ⟨rfl, bel⟩
  · cases b7
    · clear G5
      go_wp2
      go_ret
      exact ⟨rfl, bel⟩
    · obtain rfl := G5 rfl rfl
      clear G5
      go_wp2
      go_ret
      exact ⟨rfl, bel⟩

set_option maxHeartbeats 2000000 in
set_option maxRecDepth 100000 in
theorem sorted101 (d u r1 r2 r3 : Nat) (w : World) (fd : Fl.fine (Ieee.double.read d)) (fu : Fl.fine (Ieee.double.read u)) (fr1 : Fl.fine (Ieee.double.read r1)) (fr2 : Fl.fine (Ieee.double.read r2)) (fr3 : Fl.fine (Ieee.double.read r3))
    (hd : (FloatKind.f64.format.order d d != some .eq) = false) (hu : (FloatKind.f64.format.order u u != some .eq) = false) (hr1 : (FloatKind.f64.format.order r1 r1 != some .eq) = false) (hr2 : (FloatKind.f64.format.order r2 r2 != some .eq) = false) (hr3 : (FloatKind.f64.format.order r3 r3 != some .eq) = false)
    (l1 : (FloatKind.f64.format.order d 0 == some .lt) = false) (l2 : (FloatKind.f64.format.order u 0 == some .lt) = false) (t0 : (FloatKind.f64.format.order r1 r2 == some .gt) = true) (t1 : (FloatKind.f64.format.order r1 r3 == some .gt) = false) (t2 : (FloatKind.f64.format.order r2 r1 == some .gt) = true) :
    Calls Trym.prog 4 #[.float .f64 d, .float .f64 u, .float .f64 r1, .float .f64 r2, .float .f64 r3] w fun e w' => e = .returned (.bool true) ∧ Grown w w' := by
  have F0 := fine_null
  have bel : Grown w w := Grown.refl _
  have V0 := gt_true fr1 fr2 t0
  have V1 := gt_false fr1 fr3 t1
  have V2 := gt_true fr2 fr1 t2
  have K1 : Hid (Fl.wth d u Fl.one = true) := Fl.target fd fu l1 l2
  have K2 : Hid (Fl.wth 0 0 r1 = (Ieee.double.order r1 Fl.one == some .eq)) := Fl.zero_is_one fr1
  have K3 : Hid (Fl.wth 0 0 r2 = (Ieee.double.order r2 Fl.one == some .eq)) := Fl.zero_is_one fr2
  have K4 : Hid (Fl.wth 0 0 r3 = (Ieee.double.order r3 Fl.one == some .eq)) := Fl.zero_is_one fr3
  have K5 : Hid (Fl.wth d u r1 = true → Fl.wth d u r3 = true → Fl.wth d u r2 = true) := between fd fu fr1 fr2 fr3 (by omega) (by omega)
  clear V0 V1 V2
  go_enter Trym.func4, Trym.ntmps4
  go_wp2_with fail
  refine (within_law _ _ _ _ fd fu).mono ?_
  rintro e w1 ⟨b1, rfl, e1, g1⟩
  have E1 : Hid (_ = _) := e1
  clear e1
  replace bel := grown_trans bel g1
  clear g1
  go_wp2_with fail
  refine (within_law _ _ _ _ F0 F0).mono ?_
  rintro e w2 ⟨b2, rfl, e2, g2⟩
  have E2 : Hid (_ = _) := e2
  clear e2
  replace bel := grown_trans bel g2
  clear g2
  go_wp2_with fail
  refine (within_law _ _ _ _ F0 F0).mono ?_
  rintro e w3 ⟨b3, rfl, e3, g3⟩
  have E3 : Hid (_ = _) := e3
  clear e3
  replace bel := grown_trans bel g3
  clear g3
  go_wp2_with fail
  refine (within_law _ _ _ _ F0 F0).mono ?_
  rintro e w4 ⟨b4, rfl, e4, g4⟩
  have E4 : Hid (_ = _) := e4
  clear e4
  replace bel := grown_trans bel g4
  clear g4
  go_wp2_with fail
  refine (within_law _ _ _ _ fd fu).mono ?_
  rintro e w5 ⟨b5, rfl, e5, g5⟩
  have E5 : Hid (_ = _) := e5
  clear e5
  replace bel := grown_trans bel g5
  clear g5
  go_wp2_with fail
  refine (within_law _ _ _ _ fd fu).mono ?_
  rintro e w6 ⟨b6, rfl, e6, g6⟩
  have E6 : Hid (_ = _) := e6
  clear e6
  replace bel := grown_trans bel g6
  clear g6
  go_wp2_with fail
  refine (within_law _ _ _ _ fd fu).mono ?_
  rintro e w7 ⟨b7, rfl, e7, g7⟩
  have E7 : Hid (_ = _) := e7
  clear e7
  replace bel := grown_trans bel g7
  clear g7
  have G1 : b1 = true := E1.out.trans K1.out
  have G2 : b2 = (FloatKind.f64.format.order r1 4607182418800017408 == some .eq) := E2.out.trans K2.out
  have G3 : b3 = (FloatKind.f64.format.order r2 4607182418800017408 == some .eq) := E3.out.trans K3.out
  have G4 : b4 = (FloatKind.f64.format.order r3 4607182418800017408 == some .eq) := E4.out.trans K4.out
  have G5 : b5 = true → b7 = true → b6 = true := by rw [E5.out, E6.out, E7.out]; exact K5.out
  clear K1 K2 K3 K4 K5 E1 E2 E3 E4 E5 E6 E7 hd hu hr1 hr2 hr3 l1 l2 t0 t1 t2
  subst G1
  subst G2
  subst G3
  subst G4
  cases b5
  · clear G5
    go_wp2
    go_ret
    exact ⟨rfl, bel⟩
  · cases b7
    · clear G5
      go_wp2
      go_ret
      exact ⟨rfl, bel⟩
    · obtain rfl := G5 rfl rfl
      clear G5
      go_wp2
      go_ret
      exact ⟨rfl, bel⟩

set_option maxHeartbeats 2000000 in
set_option maxRecDepth 100000 in
theorem sorted110 (d u r1 r2 r3 : Nat) (w : World) (fd : Fl.fine (Ieee.double.read d)) (fu : Fl.fine (Ieee.double.read u)) (fr1 : Fl.fine (Ieee.double.read r1)) (fr2 : Fl.fine (Ieee.double.read r2)) (fr3 : Fl.fine (Ieee.double.read r3))
    (hd : (FloatKind.f64.format.order d d != some .eq) = false) (hu : (FloatKind.f64.format.order u u != some .eq) = false) (hr1 : (FloatKind.f64.format.order r1 r1 != some .eq) = false) (hr2 : (FloatKind.f64.format.order r2 r2 != some .eq) = false) (hr3 : (FloatKind.f64.format.order r3 r3 != some .eq) = false)
    (l1 : (FloatKind.f64.format.order d 0 == some .lt) = false) (l2 : (FloatKind.f64.format.order u 0 == some .lt) = false) (t0 : (FloatKind.f64.format.order r1 r2 == some .gt) = true) (t1 : (FloatKind.f64.format.order r1 r3 == some .gt) = true) (t2 : (FloatKind.f64.format.order r2 r3 == some .gt) = false) :
    Calls Trym.prog 4 #[.float .f64 d, .float .f64 u, .float .f64 r1, .float .f64 r2, .float .f64 r3] w fun e w' => e = .returned (.bool true) ∧ Grown w w' := by
  have F0 := fine_null
  have bel : Grown w w := Grown.refl _
  have V0 := gt_true fr1 fr2 t0
  have V1 := gt_true fr1 fr3 t1
  have V2 := gt_false fr2 fr3 t2
  have K1 : Hid (Fl.wth d u Fl.one = true) := Fl.target fd fu l1 l2
  have K2 : Hid (Fl.wth 0 0 r2 = (Ieee.double.order r2 Fl.one == some .eq)) := Fl.zero_is_one fr2
  have K3 : Hid (Fl.wth 0 0 r3 = (Ieee.double.order r3 Fl.one == some .eq)) := Fl.zero_is_one fr3
  have K4 : Hid (Fl.wth 0 0 r1 = (Ieee.double.order r1 Fl.one == some .eq)) := Fl.zero_is_one fr1
  have K5 : Hid (Fl.wth d u r2 = true → Fl.wth d u r1 = true → Fl.wth d u r3 = true) := between fd fu fr2 fr3 fr1 (by omega) (by omega)
  clear V0 V1 V2
  go_enter Trym.func4, Trym.ntmps4
  go_wp2_with fail
  refine (within_law _ _ _ _ fd fu).mono ?_
  rintro e w1 ⟨b1, rfl, e1, g1⟩
  have E1 : Hid (_ = _) := e1
  clear e1
  replace bel := grown_trans bel g1
  clear g1
  go_wp2_with fail
  refine (within_law _ _ _ _ F0 F0).mono ?_
  rintro e w2 ⟨b2, rfl, e2, g2⟩
  have E2 : Hid (_ = _) := e2
  clear e2
  replace bel := grown_trans bel g2
  clear g2
  go_wp2_with fail
  refine (within_law _ _ _ _ F0 F0).mono ?_
  rintro e w3 ⟨b3, rfl, e3, g3⟩
  have E3 : Hid (_ = _) := e3
  clear e3
  replace bel := grown_trans bel g3
  clear g3
  go_wp2_with fail
  refine (within_law _ _ _ _ F0 F0).mono ?_
  rintro e w4 ⟨b4, rfl, e4, g4⟩
  have E4 : Hid (_ = _) := e4
  clear e4
  replace bel := grown_trans bel g4
  clear g4
  go_wp2_with fail
  refine (within_law _ _ _ _ fd fu).mono ?_
  rintro e w5 ⟨b5, rfl, e5, g5⟩
  have E5 : Hid (_ = _) := e5
  clear e5
  replace bel := grown_trans bel g5
  clear g5
  go_wp2_with fail
  refine (within_law _ _ _ _ fd fu).mono ?_
  rintro e w6 ⟨b6, rfl, e6, g6⟩
  have E6 : Hid (_ = _) := e6
  clear e6
  replace bel := grown_trans bel g6
  clear g6
  go_wp2_with fail
  refine (within_law _ _ _ _ fd fu).mono ?_
  rintro e w7 ⟨b7, rfl, e7, g7⟩
  have E7 : Hid (_ = _) := e7
  clear e7
  replace bel := grown_trans bel g7
  clear g7
  have G1 : b1 = true := E1.out.trans K1.out
  have G2 : b2 = (FloatKind.f64.format.order r2 4607182418800017408 == some .eq) := E2.out.trans K2.out
  have G3 : b3 = (FloatKind.f64.format.order r3 4607182418800017408 == some .eq) := E3.out.trans K3.out
  have G4 : b4 = (FloatKind.f64.format.order r1 4607182418800017408 == some .eq) := E4.out.trans K4.out
  have G5 : b5 = true → b7 = true → b6 = true := by rw [E5.out, E6.out, E7.out]; exact K5.out
  clear K1 K2 K3 K4 K5 E1 E2 E3 E4 E5 E6 E7 hd hu hr1 hr2 hr3 l1 l2 t0 t1 t2
  subst G1
  subst G2
  subst G3
  subst G4
  cases b5
  · clear G5
    go_wp2
    go_ret
    exact ⟨rfl, bel⟩
  · cases b7
    · clear G5
      go_wp2
      go_ret
      exact ⟨rfl, bel⟩
    · obtain rfl := G5 rfl rfl
      clear G5
      go_wp2
      go_ret
      exact ⟨rfl, bel⟩

set_option maxHeartbeats 2000000 in
set_option maxRecDepth 100000 in
theorem sorted111 (d u r1 r2 r3 : Nat) (w : World) (fd : Fl.fine (Ieee.double.read d)) (fu : Fl.fine (Ieee.double.read u)) (fr1 : Fl.fine (Ieee.double.read r1)) (fr2 : Fl.fine (Ieee.double.read r2)) (fr3 : Fl.fine (Ieee.double.read r3))
    (hd : (FloatKind.f64.format.order d d != some .eq) = false) (hu : (FloatKind.f64.format.order u u != some .eq) = false) (hr1 : (FloatKind.f64.format.order r1 r1 != some .eq) = false) (hr2 : (FloatKind.f64.format.order r2 r2 != some .eq) = false) (hr3 : (FloatKind.f64.format.order r3 r3 != some .eq) = false)
    (l1 : (FloatKind.f64.format.order d 0 == some .lt) = false) (l2 : (FloatKind.f64.format.order u 0 == some .lt) = false) (t0 : (FloatKind.f64.format.order r1 r2 == some .gt) = true) (t1 : (FloatKind.f64.format.order r1 r3 == some .gt) = true) (t2 : (FloatKind.f64.format.order r2 r3 == some .gt) = true) :
    Calls Trym.prog 4 #[.float .f64 d, .float .f64 u, .float .f64 r1, .float .f64 r2, .float .f64 r3] w fun e w' => e = .returned (.bool true) ∧ Grown w w' := by
  have F0 := fine_null
  have bel : Grown w w := Grown.refl _
  have V0 := gt_true fr1 fr2 t0
  have V1 := gt_true fr1 fr3 t1
  have V2 := gt_true fr2 fr3 t2
  have K1 : Hid (Fl.wth d u Fl.one = true) := Fl.target fd fu l1 l2
  have K2 : Hid (Fl.wth 0 0 r3 = (Ieee.double.order r3 Fl.one == some .eq)) := Fl.zero_is_one fr3
  have K3 : Hid (Fl.wth 0 0 r2 = (Ieee.double.order r2 Fl.one == some .eq)) := Fl.zero_is_one fr2
  have K4 : Hid (Fl.wth 0 0 r1 = (Ieee.double.order r1 Fl.one == some .eq)) := Fl.zero_is_one fr1
  have K5 : Hid (Fl.wth d u r3 = true → Fl.wth d u r1 = true → Fl.wth d u r2 = true) := between fd fu fr3 fr2 fr1 (by omega) (by omega)
  clear V0 V1 V2
  go_enter Trym.func4, Trym.ntmps4
  go_wp2_with fail
  refine (within_law _ _ _ _ fd fu).mono ?_
  rintro e w1 ⟨b1, rfl, e1, g1⟩
  have E1 : Hid (_ = _) := e1
  clear e1
  replace bel := grown_trans bel g1
  clear g1
  go_wp2_with fail
  refine (within_law _ _ _ _ F0 F0).mono ?_
  rintro e w2 ⟨b2, rfl, e2, g2⟩
  have E2 : Hid (_ = _) := e2
  clear e2
  replace bel := grown_trans bel g2
  clear g2
  go_wp2_with fail
  refine (within_law _ _ _ _ F0 F0).mono ?_
  rintro e w3 ⟨b3, rfl, e3, g3⟩
  have E3 : Hid (_ = _) := e3
  clear e3
  replace bel := grown_trans bel g3
  clear g3
  go_wp2_with fail
  refine (within_law _ _ _ _ F0 F0).mono ?_
  rintro e w4 ⟨b4, rfl, e4, g4⟩
  have E4 : Hid (_ = _) := e4
  clear e4
  replace bel := grown_trans bel g4
  clear g4
  go_wp2_with fail
  refine (within_law _ _ _ _ fd fu).mono ?_
  rintro e w5 ⟨b5, rfl, e5, g5⟩
  have E5 : Hid (_ = _) := e5
  clear e5
  replace bel := grown_trans bel g5
  clear g5
  go_wp2_with fail
  refine (within_law _ _ _ _ fd fu).mono ?_
  rintro e w6 ⟨b6, rfl, e6, g6⟩
  have E6 : Hid (_ = _) := e6
  clear e6
  replace bel := grown_trans bel g6
  clear g6
  go_wp2_with fail
  refine (within_law _ _ _ _ fd fu).mono ?_
  rintro e w7 ⟨b7, rfl, e7, g7⟩
  have E7 : Hid (_ = _) := e7
  clear e7
  replace bel := grown_trans bel g7
  clear g7
  have G1 : b1 = true := E1.out.trans K1.out
  have G2 : b2 = (FloatKind.f64.format.order r3 4607182418800017408 == some .eq) := E2.out.trans K2.out
  have G3 : b3 = (FloatKind.f64.format.order r2 4607182418800017408 == some .eq) := E3.out.trans K3.out
  have G4 : b4 = (FloatKind.f64.format.order r1 4607182418800017408 == some .eq) := E4.out.trans K4.out
  have G5 : b5 = true → b7 = true → b6 = true := by rw [E5.out, E6.out, E7.out]; exact K5.out
  clear K1 K2 K3 K4 K5 E1 E2 E3 E4 E5 E6 E7 hd hu hr1 hr2 hr3 l1 l2 t0 t1 t2
  subst G1
  subst G2
  subst G3
  subst G4
  cases b5
  · clear G5
    go_wp2
    go_ret
    exact ⟨rfl, bel⟩
  · cases b7
    · clear G5
      go_wp2
      go_ret
      exact ⟨rfl, bel⟩
    · obtain rfl := G5 rfl rfl
      clear G5
      go_wp2
      go_ret
      exact ⟨rfl, bel⟩

set_option maxHeartbeats 2000000 in
set_option maxRecDepth 100000 in
theorem walk (d u r1 r2 r3 : Nat) (w : World) :
    Calls Trym.prog 4 #[.float .f64 d, .float .f64 u, .float .f64 r1, .float .f64 r2, .float .f64 r3] w fun e w' => e = .returned (.bool true) ∧ Grown w w' := by
  cases hd : (FloatKind.f64.format.order d d != some .eq)
  rotate_left
  · go_enter Trym.func4, Trym.ntmps4
    go_wp2
    go_ret
    exact ⟨rfl, Grown.refl _⟩
  cases hu : (FloatKind.f64.format.order u u != some .eq)
  rotate_left
  · go_enter Trym.func4, Trym.ntmps4
    go_wp2
    go_ret
    exact ⟨rfl, Grown.refl _⟩
  cases hr1 : (FloatKind.f64.format.order r1 r1 != some .eq)
  rotate_left
  · go_enter Trym.func4, Trym.ntmps4
    go_wp2
    go_ret
    exact ⟨rfl, Grown.refl _⟩
  cases hr2 : (FloatKind.f64.format.order r2 r2 != some .eq)
  rotate_left
  · go_enter Trym.func4, Trym.ntmps4
    go_wp2
    go_ret
    exact ⟨rfl, Grown.refl _⟩
  cases hr3 : (FloatKind.f64.format.order r3 r3 != some .eq)
  rotate_left
  · go_enter Trym.func4, Trym.ntmps4
    go_wp2
    go_ret
    exact ⟨rfl, Grown.refl _⟩
  cases l1 : (FloatKind.f64.format.order d 0 == some .lt)
  rotate_left
  · go_enter Trym.func4, Trym.ntmps4
    go_wp2
    go_ret
    exact ⟨rfl, Grown.refl _⟩
  cases l2 : (FloatKind.f64.format.order u 0 == some .lt)
  rotate_left
  · go_enter Trym.func4, Trym.ntmps4
    go_wp2
    go_ret
    exact ⟨rfl, Grown.refl _⟩
  have fd := Fl.fine_of_self hd
  have fu := Fl.fine_of_self hu
  have fr1 := Fl.fine_of_self hr1
  have fr2 := Fl.fine_of_self hr2
  have fr3 := Fl.fine_of_self hr3
  cases t0 : (FloatKind.f64.format.order r1 r2 == some .gt)
  · cases t1 : (FloatKind.f64.format.order r2 r3 == some .gt)
    · cases t2 : (FloatKind.f64.format.order r1 r2 == some .gt)
      · exact sorted000 d u r1 r2 r3 w fd fu fr1 fr2 fr3 hd hu hr1 hr2 hr3 l1 l2 t0 t1 t2
      · exact sorted001 d u r1 r2 r3 w fd fu fr1 fr2 fr3 hd hu hr1 hr2 hr3 l1 l2 t0 t1 t2
    · cases t2 : (FloatKind.f64.format.order r1 r3 == some .gt)
      · exact sorted010 d u r1 r2 r3 w fd fu fr1 fr2 fr3 hd hu hr1 hr2 hr3 l1 l2 t0 t1 t2
      · exact sorted011 d u r1 r2 r3 w fd fu fr1 fr2 fr3 hd hu hr1 hr2 hr3 l1 l2 t0 t1 t2
  · cases t1 : (FloatKind.f64.format.order r1 r3 == some .gt)
    · cases t2 : (FloatKind.f64.format.order r2 r1 == some .gt)
      · exact sorted100 d u r1 r2 r3 w fd fu fr1 fr2 fr3 hd hu hr1 hr2 hr3 l1 l2 t0 t1 t2
      · exact sorted101 d u r1 r2 r3 w fd fu fr1 fr2 fr3 hd hu hr1 hr2 hr3 l1 l2 t0 t1 t2
    · cases t2 : (FloatKind.f64.format.order r2 r3 == some .gt)
      · exact sorted110 d u r1 r2 r3 w fd fu fr1 fr2 fr3 hd hu hr1 hr2 hr3 l1 l2 t0 t1 t2
      · exact sorted111 d u r1 r2 r3 w fd fu fr1 fr2 fr3 hd hu hr1 hr2 hr3 l1 l2 t0 t1 t2

set_option maxRecDepth 100000 in
theorem lifted (os : Os) (started : os.Started) (H : Type) (enc : TypeId × Value → H) :
    ReturnsInHanded {} Trym.checked os 4 .any (Rows.fnWithinTargetZeroAndConvexSpec.pre6 enc Trym.prog Trym.f4 Rows.fnWithinTargetZeroAndConvexRow.domain false) (Rows.fnWithinTargetZeroAndConvexSpec.post enc Trym.prog Trym.f4 false true false false) := by
  refine returnsInHanded_of_change (C := Trym.checked) own started (by kernel_rfl) Trym.func4
    (ChangeSpec.witness6 (enc := enc) (C := Trym.checked) false ⟨#[], #[.float .f64 0, .float .f64 0, .float .f64 0, .float .f64 0, .float .f64 0], []⟩ 8 (by kernel_rfl) (by kernel_rfl) (by kernel_rfl) (by kernel_rfl)) ?_
  intro W base args ds gs before hval0 hW hcnd _
  have hval : ∀ (j : Nat) t v, Trym.f4.params[j]? = some t → args[j]? = some v → Value.okWide Trym.prog W .any base t v := hval0
  have hW' := hW
  obtain ⟨p, q, hA0, hV, rfl, hfz, hnd⟩ := hW
  have hA : DataW.TrodAll enc Trym.prog W 0 (fun _ => true) true Trym.f4.params.toList args.toList ds p := hA0
  rw [Trym.params4] at hA hval
  obtain ⟨v0, vs0, d0, ds0, p0, q0, hargs, rfl, rfl, h0, r0⟩ := trodAll_cons hA
  obtain ⟨v1, vs1, d1, ds1, p1, q1, rfl, rfl, rfl, h1, r1⟩ := trodAll_cons r0
  obtain ⟨v2, vs2, d2, ds2, p2, q2, rfl, rfl, rfl, h2, r2⟩ := trodAll_cons r1
  obtain ⟨v3, vs3, d3, ds3, p3, q3, rfl, rfl, rfl, h3, r3⟩ := trodAll_cons r2
  obtain ⟨v4, vs4, d4, ds4, p4, q4, rfl, rfl, rfl, h4, r4⟩ := trodAll_cons r3
  obtain ⟨rfl, rfl, rfl⟩ := trodAll_nil r4
  obtain rfl : args = #[v0, v1, v2, v3, v4] := by cases args; simp_all
  obtain ⟨rfl, rfl⟩ := trodVars_none hV
  obtain ⟨a0, rfl, rfl, rfl, w0⟩ := open_float Trym.underlying22 (hval 0 22 v0 rfl rfl) h0
  obtain ⟨a1, rfl, rfl, rfl, w1⟩ := open_float Trym.underlying22 (hval 1 22 v1 rfl rfl) h1
  obtain ⟨a2, rfl, rfl, rfl, w2⟩ := open_float Trym.underlying22 (hval 2 22 v2 rfl rfl) h2
  obtain ⟨a3, rfl, rfl, rfl, w3⟩ := open_float Trym.underlying22 (hval 3 22 v3 rfl rfl) h3
  obtain ⟨a4, rfl, rfl, rfl, w4⟩ := open_float Trym.underlying22 (hval 4 22 v4 rfl rfl) h4
  clear hA0 hval0
  simp only [List.append_nil] at hW'
  refine (walk a0 a1 a2 a3 a4 W).mono fun e W' ⟨he, hg⟩ => ?_
  subst he
  exact ⟨_, rfl, post_of_same (pa := []) (pv := []) hW' (fun _ _ _ => (trodAll_cons_mk (shut_bool Trym.underlying4 _) trodAll_mk0)) (fun sp _ => (trodAll_cons_mk (shut_float Trym.underlying22 w0) (trodAll_cons_mk (shut_float Trym.underlying22 w1) (trodAll_cons_mk (shut_float Trym.underlying22 w2) (trodAll_cons_mk (shut_float Trym.underlying22 w3) (trodAll_cons_mk (shut_float Trym.underlying22 w4) trodAll_mk0)))))) (fun _ _ => rfl) rfl
    (hg.frame _) hg.2.1 (ok_one (by kernel_rfl) rfl (okWide_bool_mk Trym.underlying4 _))⟩

theorem over : Rows.fnWithinTargetZeroAndConvexRow.holds Trym.pinned (OpenSpec.ofChange Rows.fnWithinTargetZeroAndConvexSpec) :=
  OpenClaim.holds_of_wide 4 Trym.f4 rfl rfl rfl rfl rfl rfl rfl ⟨rfl, rfl, rfl, rfl, rfl⟩ rfl rfl rfl rfl rfl (by kernel_rfl) Trym.func4 (by kernel_rfl)
    (of_decide_eq_true (by kernel_rfl)) (by unfold Func.isWrapper; first | (rw [if_pos (by decide +kernel)]; kernel_rfl) | (rw [if_neg (by decide +kernel)]; exact ⟨rfl, rfl⟩))
    (fun os started H enc _ => lifted os started H enc)

theorem proved : Rows.FnWithinTargetZeroAndConvexSaid := over
end Go.Proofs.Qxb6616058aMods.fnWithinTargetZeroAndConvex
