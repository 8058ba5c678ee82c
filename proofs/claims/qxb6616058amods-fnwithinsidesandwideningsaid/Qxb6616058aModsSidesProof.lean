/-
  The proof of Rows.FnWithinSidesAndWideningSaid: the walk, and the frame after the guide's own for integers, turned to floats.
-/
import Derived.Test.Qxb6616058aModsRows
import Derived.Test.Qxb6616058aModsTol
import Derived.WalkKit
import Derived.ProofKit
import Derived.OpenShut
import Derived.Laws.Cover2
namespace Go.Proofs.Qxb6616058aMods.fnWithinSidesAndWidening
open Go.ChangeShapes Go.WideShapes Go.ChangeAt Go.RowKit
set_option linter.unusedVariables false

theorem own : ownKnob Trym.prog.godebug = none := by kernel_rfl
theorem grown_trans {a b c : World} (h : Grown a b) (k : Grown b c) : Grown a c := ⟨World.keptBut_trans h.1 k.1, fun x => (k.2.1 x).trans (h.2.1 x), Nat.le_trans h.2.2 k.2.2⟩

theorem run_mul (w : World) : (binOp .mul 22 (.float .f64 9214871658872686752) (.float .f64 4621819117588971520)).run Trym.prog w = .ok (.float .f64 9218868437227405312) w :=
  run_float_arith w .mul 22 .f64 _ _ _ (by decide +kernel)

set_option maxHeartbeats 2000000 in
set_option maxRecDepth 100000 in
theorem walk (d u r d2 u2 : Nat) (w : World) :
    Calls Trym.prog 3 #[.float .f64 d, .float .f64 u, .float .f64 r, .float .f64 d2, .float .f64 u2] w fun e w' => e = .returned (.bool true) ∧ Grown w w' := by
  have hmul := run_mul
  cases hd : (FloatKind.f64.format.order d d != some .eq)
  rotate_left
  · go_enter Trym.func3, Trym.ntmps3
    go_wp2
    go_ret
    exact ⟨rfl, Grown.refl _⟩
  cases hu : (FloatKind.f64.format.order u u != some .eq)
  rotate_left
  · go_enter Trym.func3, Trym.ntmps3
    go_wp2
    go_ret
    exact ⟨rfl, Grown.refl _⟩
  cases hr : (FloatKind.f64.format.order r r != some .eq)
  rotate_left
  · go_enter Trym.func3, Trym.ntmps3
    go_wp2
    go_ret
    exact ⟨rfl, Grown.refl _⟩
  cases hd2 : (FloatKind.f64.format.order d2 d2 != some .eq)
  rotate_left
  · go_enter Trym.func3, Trym.ntmps3
    go_wp2
    go_ret
    exact ⟨rfl, Grown.refl _⟩
  cases hu2 : (FloatKind.f64.format.order u2 u2 != some .eq)
  rotate_left
  · go_enter Trym.func3, Trym.ntmps3
    go_wp2
    go_ret
    exact ⟨rfl, Grown.refl _⟩
  cases l1 : (FloatKind.f64.format.order d2 d == some .lt)
  rotate_left
  · go_enter Trym.func3, Trym.ntmps3
    go_wp2
    go_ret
    exact ⟨rfl, Grown.refl _⟩
  cases l2 : (FloatKind.f64.format.order u2 u == some .lt)
  rotate_left
  · go_enter Trym.func3, Trym.ntmps3
    go_wp2
    go_ret
    exact ⟨rfl, Grown.refl _⟩
  have fd := Fl.fine_of_self hd
  have fu := Fl.fine_of_self hu
  have fr := Fl.fine_of_self hr
  have fd2 := Fl.fine_of_self hd2
  have fu2 := Fl.fine_of_self hu2
  have F := Fl.sides fd fu fr fd2 fu2 l1 l2
  have FI := Fl.fine_inf
  have HF : Hid (_ ∧ _ ∧ _) := F
  clear F
  have bel : Grown w w := Grown.refl _
  go_enter Trym.func3, Trym.ntmps3
  go_wp2_with fail
  refine (within_law _ _ _ _ fd fu).mono ?_
  rintro e w1 ⟨b1, rfl, e1, g1⟩
  have E1 : Hid (_ = _) := e1
  clear e1
  replace bel := grown_trans bel g1
  clear g1
  go_wp2_with fail
  refine (within_law _ _ _ _ fd FI).mono ?_
  rintro e w2 ⟨b2, rfl, e2, g2⟩
  have E2 : Hid (_ = _) := e2
  clear e2
  replace bel := grown_trans bel g2
  clear g2
  go_wp2_with fail
  refine (within_law _ _ _ _ FI fu).mono ?_
  rintro e w3 ⟨b3, rfl, e3, g3⟩
  have E3 : Hid (_ = _) := e3
  clear e3
  replace bel := grown_trans bel g3
  clear g3
  go_wp2_with fail
  refine (within_law _ _ _ _ FI FI).mono ?_
  rintro e w4 ⟨b4, rfl, e4, g4⟩
  have E4 : Hid (_ = _) := e4
  clear e4
  replace bel := grown_trans bel g4
  clear g4
  go_wp2_with fail
  refine (within_law _ _ _ _ fd2 fu2).mono ?_
  rintro e w5 ⟨b5, rfl, e5, g5⟩
  have E5 : Hid (_ = _) := e5
  clear e5
  replace bel := grown_trans bel g5
  clear g5
  obtain ⟨F1, F2, F3⟩ := HF.out
  have G1 : b4 = true := E4.out.trans F1
  have G2 : b1 = (b2 && b3) := by rw [E1.out, E2.out, E3.out]; exact F2
  have G3 : b1 = true → b5 = true := by rw [E1.out, E5.out]; exact F3
  clear F1 F2 F3 HF E1 E2 E3 E4 E5 hd hu hr hd2 hu2 l1 l2 hmul
  subst G1
  subst G2
  cases b2 <;> cases b3
  rotate_left 3
  · obtain rfl := G3 rfl
    clear G3
    go_wp2
    go_ret
    exact ⟨rfl, bel⟩
  all_goals
    clear G3
    go_wp2
    go_ret
    exact ⟨rfl, bel⟩

set_option maxRecDepth 100000 in
theorem lifted (os : Os) (started : os.Started) (H : Type) (enc : TypeId × Value → H) :
    ReturnsInHanded {} Trym.checked os 3 .any (Rows.fnWithinSidesAndWideningSpec.pre6 enc Trym.prog Trym.f3 Rows.fnWithinSidesAndWideningRow.domain false) (Rows.fnWithinSidesAndWideningSpec.post enc Trym.prog Trym.f3 false true false false) := by
  refine returnsInHanded_of_change (C := Trym.checked) own started (by kernel_rfl) Trym.func3
    (ChangeSpec.witness6 (enc := enc) (C := Trym.checked) false ⟨#[], #[.float .f64 0, .float .f64 0, .float .f64 0, .float .f64 0, .float .f64 0], []⟩ 8 (by kernel_rfl) (by kernel_rfl) (by kernel_rfl) (by kernel_rfl)) ?_
  intro W base args ds gs before hval0 hW hcnd _
  have hval : ∀ (j : Nat) t v, Trym.f3.params[j]? = some t → args[j]? = some v → Value.okWide Trym.prog W .any base t v := hval0
  have hW' := hW
  obtain ⟨p, q, hA0, hV, rfl, hfz, hnd⟩ := hW
  have hA : DataW.TrodAll enc Trym.prog W 0 (fun _ => true) true Trym.f3.params.toList args.toList ds p := hA0
  rw [Trym.params3] at hA hval
  obtain ⟨v0, vs0, d0, ds0, p0, q0, hargs, rfl, rfl, h0, r0⟩ := trodAll_cons hA
  obtain ⟨v1, vs1, d1, ds1, p1, q1, rfl, rfl, rfl, h1, r1⟩ := trodAll_cons r0
  obtain ⟨v2, vs2, d2, ds2, p2, q2, rfl, rfl, rfl, h2, r2⟩ := trodAll_cons r1
  obtain ⟨v3, vs3, d3, ds3, p3, q3, rfl, rfl, rfl, h3, r3⟩ := trodAll_cons r2
  obtain ⟨v4, vs4, d4, ds4, p4, q4, rfl, rfl, rfl, h4, r4⟩ := trodAll_cons r3
  obtain ⟨rfl, rfl, rfl⟩ := trodAll_nil r4
  obtain rfl : args = #[v0, v1, v2, v3, v4] := by cases args; simp_all
  obtain ⟨rfl, rfl⟩ := trodVars_none hV
  obtain ⟨a0, rfl, rfl, rfl, w0⟩ := open_float Trym.underlying22 (hval 0 22 v0 rfl rfl) h0
  obtain ⟨a1, rfl, rfl, rfl, w1⟩ := open_float Trym.underlying22 (hval 1 22 v1 rfl rfl) h1
  obtain ⟨a2, rfl, rfl, rfl, w2⟩ := open_float Trym.underlying22 (hval 2 22 v2 rfl rfl) h2
  obtain ⟨a3, rfl, rfl, rfl, w3⟩ := open_float Trym.underlying22 (hval 3 22 v3 rfl rfl) h3
  obtain ⟨a4, rfl, rfl, rfl, w4⟩ := open_float Trym.underlying22 (hval 4 22 v4 rfl rfl) h4
  clear hA0 hval0
  simp only [List.append_nil] at hW'
  refine (walk a0 a1 a2 a3 a4 W).mono fun e W' ⟨he, hg⟩ => ?_
  subst he
  exact ⟨_, rfl, post_of_same (pa := []) (pv := []) hW' (fun _ _ _ => (trodAll_cons_mk (shut_bool Trym.underlying4 _) trodAll_mk0)) (fun sp _ => (trodAll_cons_mk (shut_float Trym.underlying22 w0) (trodAll_cons_mk (shut_float Trym.underlying22 w1) (trodAll_cons_mk (shut_float Trym.underlying22 w2) (trodAll_cons_mk (shut_float Trym.underlying22 w3) (trodAll_cons_mk (shut_float Trym.underlying22 w4) trodAll_mk0)))))) (fun _ _ => rfl) rfl
    (hg.frame _) hg.2.1 (ok_one (by kernel_rfl) rfl (okWide_bool_mk Trym.underlying4 _))⟩

theorem over : Rows.fnWithinSidesAndWideningRow.holds Trym.pinned (OpenSpec.ofChange Rows.fnWithinSidesAndWideningSpec) :=
  OpenClaim.holds_of_wide 3 Trym.f3 rfl rfl rfl rfl rfl rfl rfl ⟨rfl, rfl, rfl, rfl, rfl⟩ rfl rfl rfl rfl rfl (by kernel_rfl) Trym.func3 (by kernel_rfl)
    (of_decide_eq_true (by kernel_rfl)) (by unfold Func.isWrapper; first | (rw [if_pos (by decide +kernel)]; kernel_rfl) | (rw [if_neg (by decide +kernel)]; exact ⟨rfl, rfl⟩))
    (fun os started H enc _ => lifted os started H enc)

theorem proved : Rows.FnWithinSidesAndWideningSaid := over
end Go.Proofs.Qxb6616058aMods.fnWithinSidesAndWidening
