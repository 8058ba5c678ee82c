/-
  The proof of Rows.FnSetFilterLastWinsAndTouchesNothingElseSaid: the frame (after the guide's own for slices of integers, turned to slices of strings); the walk lies in Qxb6615531aModsLastWins.
-/
import Derived.Test.Qxb6615531aModsRows
import Derived.Test.Qxb6615531aModsLastWins
import Derived.WalkKit
import Derived.ProofKit
import Derived.OpenShut
import Derived.ShutString
import Derived.ChangeOld
import Derived.Below
import Derived.Deep.Strs
import Derived.Test.Qxb6615531aModsOpen
namespace Go.Proofs.Qxb6615531aMods.fnSetFilterLastWinsAndTouchesNothingElse
open Go.ChangeShapes Go.WideShapes Go.ChangeAt Go.RowKit Go.Deep
open Go.ChangeMaps (open_string shut_string)
set_option linter.unusedVariables false

theorem own : ownKnob Trym.prog.godebug = none := by kernel_rfl
theorem laidOut : laidOutB Trym.prog = true := by kernel_rfl

set_option maxHeartbeats 2000000 in
set_option maxRecDepth 100000 in
theorem walk (a0 : Int) (a1 : Int) (a2 : Option Addr) (len2 cap2 : Nat) (z2 : Nat → ByteArray) (a3 : Option Addr) (len3 cap3 : Nat) (z3 : Nat → ByteArray) (a4 : Option Addr) (len4 cap4 : Nat) (z4 : Nat → ByteArray) (a5 : Option Addr) (len5 cap5 : Nat) (z5 : Nat → ByteArray) (w : World) (w0 : (Lit.int .i64 a0).wf = true) (w1 : (Lit.int .i64 a1).wf = true) (w2 : SS w a2 len2 z2) (n2 : len2 ≤ 9223372036854775807) (w3 : SS w a3 len3 z3) (n3 : len3 ≤ 9223372036854775807) (w4 : SS w a4 len4 z4) (n4 : len4 ≤ 9223372036854775807) (w5 : SS w a5 len5 z5) (n5 : len5 ≤ 9223372036854775807) :
    Calls Trym.prog 6 #[.int .i64 a0, .int .i64 a1, .slice a2 len2 cap2, .slice a3 len3 cap3, .slice a4 len4 cap4, .slice a5 len5 cap5] w fun e w' => e = .returned (.bool true) ∧ Below w.heap.size w w' := by
  by_cases c2 : 65536 < len2
  · go_enter Trym.func6, Trym.ntmps6
    go_wp2_with fail
    refine (bytes4_any _ _ _ _ _ _ _ _ _ _ _ _ _ _ z2 z3 z4 z5 _ w2 w3 w4 w5 n2 n3 n4 n5).mono ?_
    rintro e w' ⟨⟨b, rfl⟩, hw⟩
    subst w'
    cases b
    all_goals
      go_wp2
      go_ret
      exact ⟨rfl, Below.refl _ _⟩
  by_cases c3 : 65536 < len3
  · go_enter Trym.func6, Trym.ntmps6
    go_wp2_with fail
    refine (bytes4_any _ _ _ _ _ _ _ _ _ _ _ _ _ _ z2 z3 z4 z5 _ w2 w3 w4 w5 n2 n3 n4 n5).mono ?_
    rintro e w' ⟨⟨b, rfl⟩, hw⟩
    subst w'
    cases b
    all_goals
      go_wp2
      go_ret
      exact ⟨rfl, Below.refl _ _⟩
  by_cases c4 : 65536 < len4
  · go_enter Trym.func6, Trym.ntmps6
    go_wp2_with fail
    refine (bytes4_any _ _ _ _ _ _ _ _ _ _ _ _ _ _ z2 z3 z4 z5 _ w2 w3 w4 w5 n2 n3 n4 n5).mono ?_
    rintro e w' ⟨⟨b, rfl⟩, hw⟩
    subst w'
    cases b
    all_goals
      go_wp2
      go_ret
      exact ⟨rfl, Below.refl _ _⟩
  by_cases c5 : 65536 < len5
  · go_enter Trym.func6, Trym.ntmps6
    go_wp2_with fail
    refine (bytes4_any _ _ _ _ _ _ _ _ _ _ _ _ _ _ z2 z3 z4 z5 _ w2 w3 w4 w5 n2 n3 n4 n5).mono ?_
    rintro e w' ⟨⟨b, rfl⟩, hw⟩
    subst w'
    cases b
    all_goals
      go_wp2
      go_ret
      exact ⟨rfl, Below.refl _ _⟩
  by_cases e1 : a0 = 1
  · subst e1
    exact lastWins_one a1 _ a2 a3 a4 a5 len2 len3 len4 len5 cap2 cap3 cap4 cap5 z2 z3 z4 z5 w rfl w2 w3 w4 w5 (by omega) (by omega) (by omega) (by omega)
  by_cases e2 : a0 = 2
  · subst e2
    exact lastWins_two a1 _ a2 a3 a4 a5 len2 len3 len4 len5 cap2 cap3 cap4 cap5 z2 z3 z4 z5 w rfl w2 w3 w4 w5 (by omega) (by omega) (by omega) (by omega)
  have f1 : (a0 != 1) = true := by simpa using e1
  have f2 : (a0 != 2) = true := by simpa using e2
  clear e1 e2
  go_enter Trym.func6, Trym.ntmps6
  go_wp2_with fail
  refine (bytes4_any _ _ _ _ _ _ _ _ _ _ _ _ _ _ z2 z3 z4 z5 _ w2 w3 w4 w5 n2 n3 n4 n5).mono ?_
  rintro e w' ⟨⟨b, rfl⟩, hw⟩
  subst w'
  cases b
  · go_wp2
    go_ret
    exact ⟨rfl, Below.refl _ _⟩
  go_wp2_with fail
  refine (budget_any _ _ _ z2 _ _ w2 n2 (by omega) (by omega)).mono ?_
  rintro e w' ⟨⟨r2, rfl, hr2⟩, hw⟩
  subst w'
  by_cases hs2 : r2 < 0
  · go_wp2
    go_ret
    exact ⟨rfl, Below.refl _ _⟩
  go_wp2_with fail
  refine (budget_any _ _ _ z3 _ _ w3 n3 (by omega) (by omega)).mono ?_
  rintro e w' ⟨⟨r3, rfl, hr3⟩, hw⟩
  subst w'
  by_cases hs3 : r3 < 0
  · go_wp2
    go_ret
    exact ⟨rfl, Below.refl _ _⟩
  go_wp2_with fail
  refine (budget_any _ _ _ z4 _ _ w4 n4 (by omega) (by omega)).mono ?_
  rintro e w' ⟨⟨r4, rfl, hr4⟩, hw⟩
  subst w'
  by_cases hs4 : r4 < 0
  · go_wp2
    go_ret
    exact ⟨rfl, Below.refl _ _⟩
  go_wp2_with fail
  refine (budget_any _ _ _ z5 _ _ w5 n5 (by omega) (by omega)).mono ?_
  rintro e w' ⟨⟨r5, rfl, hr5⟩, hw⟩
  subst w'
  by_cases hs5 : r5 < 0
  · go_wp2
    go_ret
    exact ⟨rfl, Below.refl _ _⟩
  go_wp2
  go_ret
  exact ⟨rfl, Below.refl _ _⟩

set_option maxRecDepth 100000 in
theorem lifted (os : Os) (started : os.Started) (H : Type) (enc : TypeId × Value → H) :
    ReturnsInHanded {} Trym.checked os 6 .any (Rows.fnSetFilterLastWinsAndTouchesNothingElseSpec.pre6 enc Trym.prog Trym.f6 Rows.fnSetFilterLastWinsAndTouchesNothingElseRow.domain false) (Rows.fnSetFilterLastWinsAndTouchesNothingElseSpec.post enc Trym.prog Trym.f6 false true false false) := by
  refine returnsInHanded_of_change (C := Trym.checked) own started (by kernel_rfl) Trym.func6
    (ChangeSpec.witness6 (enc := enc) (C := Trym.checked) false ⟨#[], #[.int .i64 0, .int .i64 0, .slice none 0 0, .slice none 0 0, .slice none 0 0, .slice none 0 0], []⟩ 8 (by kernel_rfl) (by kernel_rfl) (by kernel_rfl) (by kernel_rfl)) ?_
  intro W base args ds gs before hval0 hW hcnd _
  have hval : ∀ (j : Nat) t v, Trym.f6.params[j]? = some t → args[j]? = some v → Value.okWide Trym.prog W .any base t v := hval0
  have hW' := hW
  obtain ⟨p, q, hA0, hV, rfl, hfz, hnd⟩ := hW
  have hA : DataW.TrodAll enc Trym.prog W 0 (fun _ => true) true Trym.f6.params.toList args.toList ds p := hA0
  rw [Trym.params6] at hA hval
  obtain ⟨v0, vs0, d0, ds0, p0, q0, hargs, rfl, rfl, h0, r0⟩ := trodAll_cons hA
  obtain ⟨v1, vs1, d1, ds1, p1, q1, rfl, rfl, rfl, h1, r1⟩ := trodAll_cons r0
  obtain ⟨v2, vs2, d2, ds2, p2, q2, rfl, rfl, rfl, h2, r2⟩ := trodAll_cons r1
  obtain ⟨v3, vs3, d3, ds3, p3, q3, rfl, rfl, rfl, h3, r3⟩ := trodAll_cons r2
  obtain ⟨v4, vs4, d4, ds4, p4, q4, rfl, rfl, rfl, h4, r4⟩ := trodAll_cons r3
  obtain ⟨v5, vs5, d5, ds5, p5, q5, rfl, rfl, rfl, h5, r5⟩ := trodAll_cons r4
  obtain ⟨rfl, rfl, rfl⟩ := trodAll_nil r5
  obtain rfl : args = #[v0, v1, v2, v3, v4, v5] := by cases args; simp_all
  obtain ⟨rfl, rfl⟩ := trodVars_none hV
  obtain ⟨a0, rfl, rfl, rfl, w0⟩ := open_int Trym.underlying3 (hval 0 3 v0 rfl rfl) h0
  obtain ⟨a1, rfl, rfl, rfl, w1⟩ := open_int Trym.underlying2 (hval 1 2 v1 rfl rfl) h1
  obtain ⟨a2, len2, cap2, rfl⟩ := okWide_slice Trym.underlying28 (hval 2 28 v2 rfl rfl)
  have k2 := h2
  have lt2 : ∀ x ∈ p2, x.block < W.heap.size := by obtain ⟨m, hm⟩ := k2; exact DataW.trod_lt m _ _ _ hm
  obtain ⟨z2, w2, n2⟩ : ∃ S, SS W a2 len2 S ∧ len2 ≤ 9223372036854775807 := by
    obtain ⟨fuel, hf⟩ := h2
    exact ss_open hf
  obtain ⟨a3, len3, cap3, rfl⟩ := okWide_slice Trym.underlying28 (hval 3 28 v3 rfl rfl)
  have k3 := h3
  have lt3 : ∀ x ∈ p3, x.block < W.heap.size := by obtain ⟨m, hm⟩ := k3; exact DataW.trod_lt m _ _ _ hm
  obtain ⟨z3, w3, n3⟩ : ∃ S, SS W a3 len3 S ∧ len3 ≤ 9223372036854775807 := by
    obtain ⟨fuel, hf⟩ := h3
    exact ss_open hf
  obtain ⟨a4, len4, cap4, rfl⟩ := okWide_slice Trym.underlying28 (hval 4 28 v4 rfl rfl)
  have k4 := h4
  have lt4 : ∀ x ∈ p4, x.block < W.heap.size := by obtain ⟨m, hm⟩ := k4; exact DataW.trod_lt m _ _ _ hm
  obtain ⟨z4, w4, n4⟩ : ∃ S, SS W a4 len4 S ∧ len4 ≤ 9223372036854775807 := by
    obtain ⟨fuel, hf⟩ := h4
    exact ss_open hf
  obtain ⟨a5, len5, cap5, rfl⟩ := okWide_slice Trym.underlying28 (hval 5 28 v5 rfl rfl)
  have k5 := h5
  have lt5 : ∀ x ∈ p5, x.block < W.heap.size := by obtain ⟨m, hm⟩ := k5; exact DataW.trod_lt m _ _ _ hm
  obtain ⟨z5, w5, n5⟩ : ∃ S, SS W a5 len5 S ∧ len5 ≤ 9223372036854775807 := by
    obtain ⟨fuel, hf⟩ := h5
    exact ss_open hf
  clear hA0 hval0
  refine (walk a0 a1 a2 len2 cap2 z2 a3 len3 cap3 z3 a4 len4 cap4 z4 a5 len5 cap5 z5 W w0 w1 w2 n2 w3 n3 w4 n4 w5 n5).mono fun e W' ⟨he, bel⟩ => ?_
  subst he
  exact ⟨_, rfl, _, _, _, [], _, [], hW', trodAll_mk1 (shut_bool Trym.underlying4 _), (trodAll_cons_mk (shut_int Trym.underlying3 w0) (trodAll_cons_mk (shut_int Trym.underlying2 w1) (trodAll_cons_mk (Below.trod laidOut (by kernel_rfl) (of_decide_eq_true (by kernel_rfl)) k2 bel lt2) (trodAll_cons_mk (Below.trod laidOut (by kernel_rfl) (of_decide_eq_true (by kernel_rfl)) k3 bel lt3) (trodAll_cons_mk (Below.trod laidOut (by kernel_rfl) (of_decide_eq_true (by kernel_rfl)) k4 bel lt4) (trodAll_cons_mk (Below.trod laidOut (by kernel_rfl) (of_decide_eq_true (by kernel_rfl)) k5 bel lt5) trodAll_mk0)))))), rfl, bel.frame _, fun h => by cases h⟩

theorem over : Rows.fnSetFilterLastWinsAndTouchesNothingElseRow.holds Trym.pinned (OpenSpec.ofChange Rows.fnSetFilterLastWinsAndTouchesNothingElseSpec) :=
  OpenClaim.holds_of_wide 6 Trym.f6 rfl rfl rfl rfl rfl rfl rfl ⟨rfl, rfl, rfl, rfl, rfl⟩ rfl rfl rfl rfl rfl (by kernel_rfl) Trym.func6 (by kernel_rfl)
    (of_decide_eq_true (by kernel_rfl)) (by unfold Func.isWrapper; first | (rw [if_pos (by decide +kernel)]; kernel_rfl) | (rw [if_neg (by decide +kernel)]; exact ⟨rfl, rfl⟩))
    (fun os started H enc _ => lifted os started H enc)

theorem proved : Rows.FnSetFilterLastWinsAndTouchesNothingElseSaid := over
end Go.Proofs.Qxb6615531aMods.fnSetFilterLastWinsAndTouchesNothingElse
