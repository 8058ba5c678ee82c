/-
  The proof of Rows.FnFaultsCountsOneMoreFaultSaid. The frame (from THE ROW STEP on) is the one that the guide program wrote for this function; the walk is filled by hand over the contracts in Qxb6615526aModsGroup.
-/
import Derived.Test.Qxb6615526aModsRows
import Derived.Test.Qxb6615526aModsGroup
import Derived.WalkKit
import Derived.ProofKit
import Derived.OpenShut
import Derived.ShutString
import Derived.Deep.RegionHeld3
namespace Go.Proofs.Qxb6615526aMods.fnFaultsCountsOneMoreFault
open Go.ChangeShapes Go.WideShapes Go.ChangeAt Go.RowKit
open Go.ChangeMaps (open_string shut_string)
set_option linter.unusedVariables false      -- a walk need not use every 'w<i>' (that an integer argument fits its kind)

theorem own : ownKnob Trym.prog.godebug = none := by kernel_rfl

theorem wrap_in (x : Int) (h1 : -9223372036854775808 ≤ x) (h2 : x ≤ 9223372036854775807) : IntKind.i64.wrap x = x := by
  rw [IntKind.wrap_i64]; omega
theorem kept_alloc {w : World} {a : Addr} {v : Value} {o : Obj} (h : w.cell? a = some v) : (w.alloc o).cell? a = some v := by
  rw [World.cell?_alloc_some w a o (by rw [h]; rfl)]; exact h
theorem kept_drew {w : World} {a : Addr} {v : Value} (h : w.cell? a = some v) : w.drew.cell? a = some v := h

/-- Two groups laid one behind the other, each with its maker's own block ahead of it: what their cells hold. -/
theorem two_groups (w : World) (n f k : Int) (W : World)
    (hW : W = ((((w.alloc (.cells #[.int .i64 n, .int .i64 f] 23)).alloc (.cells #[.int .i64 n, .int .i64 f] 23)).alloc (.cells #[.int .i64 n, .int .i64 k] 23)).alloc (.cells #[.int .i64 n, .int .i64 k] 23))) :
    W.cell? ⟨w.heap.size + 1, 0, none⟩ = some (.int .i64 n) ∧ W.cell? ⟨w.heap.size + 1, 1, none⟩ = some (.int .i64 f) ∧ W.cell? ⟨w.heap.size + 1 + 1 + 1, 0, none⟩ = some (.int .i64 n) ∧ W.cell? ⟨w.heap.size + 1 + 1 + 1, 1, none⟩ = some (.int .i64 k) ∧ Grown w W := by
  subst hW
  have z (x : World) (o : Obj) : (x.alloc o).heap.size = x.heap.size + 1 := by simp
  refine ⟨?_, ?_, ?_, ?_, by repeat (first | exact Grown.refl _ | apply Grown.alloc)⟩
  · rw [World.cell?_alloc_past _ _ _ (by simp [z]), World.cell?_alloc_past _ _ _ (by simp [z]), World.cell?_alloc_at _ _ _ _ (by simp [z])]; rfl
  · rw [World.cell?_alloc_past _ _ _ (by simp [z]), World.cell?_alloc_past _ _ _ (by simp [z]), World.cell?_alloc_at _ _ _ _ (by simp [z])]; rfl
  · rw [World.cell?_alloc_at _ _ _ _ (by simp [z])]; rfl
  · rw [World.cell?_alloc_at _ _ _ _ (by simp [z])]; rfl

/-! ### STEP 1: THE WALK: the Go text returns true. 'Grown w w'': the world has at most new blocks (Derived/RowKit3.lean). Part the cases AHEAD of 'go_enter' where a test parts the walk; take each callee by a contract of your own. -/
theorem walk (a0 : Int) (a1 : Int) (w0 : (Lit.int .i64 a0).wf = true) (w1 : (Lit.int .i64 a1).wf = true) (w : World) :
    Calls Trym.prog 5 #[.int .i64 a0, .int .i64 a1] w fun e w' => e = .returned (.bool true) ∧ Grown w w' := by
  have b0 := bounds_i64 w0
  have b1 := bounds_i64 w1
  clear w0 w1
  by_cases c1 : a1 < 0
  · go_enter Trym.func5, Trym.ntmps5
    go_wp2
    go_ret
    exact ⟨rfl, Grown.refl _⟩
  by_cases c2 : a0 < 1
  · go_enter Trym.func5, Trym.ntmps5
    go_wp2
    go_ret
    exact ⟨rfl, Grown.refl _⟩
  by_cases c3 : (a0 - 1) / 3 - 1 < a1
  · go_enter Trym.func5, Trym.ntmps5
    go_wp2
    go_ret
    exact ⟨rfl, Grown.refl _⟩
  have c5 : 3 * a1 + 4 ≤ a0 := by omega
  go_enter Trym.func5, Trym.ntmps5
  go_wp2_with (first
    | (go_at_call 8; refine (newGroup_any _ _ _).mono ?_; rintro e w' ⟨rfl, rfl⟩))
  have hc := two_groups w a0 a1 (a1 + 1) _ rfl
  revert hc
  generalize ((((w.alloc (.cells #[.int .i64 a0, .int .i64 a1] 23)).alloc (.cells #[.int .i64 a0, .int .i64 a1] 23)).alloc (.cells #[.int .i64 a0, .int .i64 (a1 + 1)] 23)).alloc (.cells #[.int .i64 a0, .int .i64 (a1 + 1)] 23)) = W
  generalize w.heap.size + 1 + 1 + 1 = g1
  generalize w.heap.size + 1 = g0
  rintro ⟨d0, d1, d2, d3, hg⟩
  have hw1 : IntKind.i64.wrap (a1 + 1) = a1 + 1 := wrap_in _ (by omega) (by omega)
  have hw2 : IntKind.i64.wrap (a0 - a1) = a0 - a1 := wrap_in _ (by omega) (by omega)
  have hw3 : IntKind.i64.wrap (a1 + 1 + 1 + (a0 - (a1 + 1)) / 2 - (a1 + 1 + (a0 - a1) / 2)) = a1 + 1 + 1 + (a0 - (a1 + 1)) / 2 - (a1 + 1 + (a0 - a1) / 2) := wrap_in _ (by omega) (by omega)
  go_region_held3 (fun w' => w'.cell? ⟨g0, 0, none⟩ = some (.int .i64 a0) ∧ w'.cell? ⟨g0, 1, none⟩ = some (.int .i64 a1) ∧ w'.cell? ⟨g1, 0, none⟩ = some (.int .i64 a0) ∧ w'.cell? ⟨g1, 1, none⟩ = some (.int .i64 (a1 + 1))) (refine ⟨?_, ?_, ?_, ?_⟩ <;> (repeat (with_reducible (first | assumption | apply kept_drew | apply kept_alloc))))
    (first
      | (go_at_call 9; refine (faults_any _ _ _).mono ?_; rintro e w' ⟨rfl, rfl⟩)
      | (go_at_call 10; refine (quorum_any _ _ _ (by omega) (by omega) (by omega)).mono ?_; rintro e w' ⟨rfl, rfl⟩))
  have ht : (a1 + 1 + 1 + (a0 - (a1 + 1)) / 2 - (a1 + 1 + (a0 - a1) / 2) == (a0 - a1).tmod 2) = true := by
    rw [Int.tmod_eq_emod_of_nonneg (by omega), beq_iff_eq]; omega
  rw [ht]
  clear ht hw1 hw2 hw3
  go_wp2
  go_ret
  exact ⟨rfl, by repeat (first | exact hg | apply Grown.drew | apply Grown.alloc)⟩

/-! ### THE ROW's STEP: WRITTEN OUT: LEAVE IT -/
set_option maxRecDepth 100000 in
theorem lifted (os : Os) (started : os.Started) (H : Type) (enc : TypeId × Value → H) :
    ReturnsInHanded {} Trym.checked os 5 .any (Rows.fnFaultsCountsOneMoreFaultSpec.pre6 enc Trym.prog Trym.f5 Rows.fnFaultsCountsOneMoreFaultRow.domain false) (Rows.fnFaultsCountsOneMoreFaultSpec.post enc Trym.prog Trym.f5 false true false false) := by
  refine returnsInHanded_of_change (C := Trym.checked) own started (by kernel_rfl) Trym.func5
    (ChangeSpec.witness6 (enc := enc) (C := Trym.checked) false ⟨#[], #[.int .i64 0, .int .i64 0], []⟩ 8 (by kernel_rfl) (by kernel_rfl) (by kernel_rfl) (by kernel_rfl)) ?_
  intro W base args ds gs before hval0 hW hcnd _
  have hval : ∀ (j : Nat) t v, Trym.f5.params[j]? = some t → args[j]? = some v → Value.okWide Trym.prog W .any base t v := hval0
  have hW' := hW
  obtain ⟨p, q, hA0, hV, rfl, hfz, hnd⟩ := hW
  have hA : DataW.TrodAll enc Trym.prog W 0 (fun _ => true) true Trym.f5.params.toList args.toList ds p := hA0
  rw [Trym.params5] at hA hval
  obtain ⟨v0, vs0, d0, ds0, p0, q0, hargs, rfl, rfl, h0, r0⟩ := trodAll_cons hA
  obtain ⟨v1, vs1, d1, ds1, p1, q1, rfl, rfl, rfl, h1, r1⟩ := trodAll_cons r0
  obtain ⟨rfl, rfl, rfl⟩ := trodAll_nil r1
  obtain rfl : args = #[v0, v1] := by cases args; simp_all
  obtain ⟨rfl, rfl⟩ := trodVars_none hV
  obtain ⟨a0, rfl, rfl, rfl, w0⟩ := open_int Trym.underlying3 (hval 0 3 v0 rfl rfl) h0
  obtain ⟨a1, rfl, rfl, rfl, w1⟩ := open_int Trym.underlying3 (hval 1 3 v1 rfl rfl) h1
  clear hA0 hval0
  simp only [List.append_nil] at hW'
  refine (walk a0 a1 w0 w1 W).mono fun e W' ⟨he, hg⟩ => ?_
  subst he
  exact ⟨_, rfl, post_of_same (pa := []) (pv := []) hW' (fun _ _ _ => (trodAll_cons_mk (shut_bool Trym.underlying4 _) trodAll_mk0)) (fun sp _ => (trodAll_cons_mk (shut_int Trym.underlying3 w0) (trodAll_cons_mk (shut_int Trym.underlying3 w1) trodAll_mk0))) (fun _ _ => rfl) rfl
    (hg.frame _) hg.2.1 (ok_one (by kernel_rfl) rfl (okWide_bool_mk Trym.underlying4 _))⟩

theorem over : Rows.fnFaultsCountsOneMoreFaultRow.holds Trym.pinned (OpenSpec.ofChange Rows.fnFaultsCountsOneMoreFaultSpec) :=
  OpenClaim.holds_of_wide 5 Trym.f5 rfl rfl rfl rfl rfl rfl rfl ⟨rfl, rfl, rfl, rfl, rfl⟩ rfl rfl rfl rfl rfl (by kernel_rfl) Trym.func5 (by kernel_rfl)
    (of_decide_eq_true (by kernel_rfl)) (by unfold Func.isWrapper; first | (rw [if_pos (by decide +kernel)]; kernel_rfl) | (rw [if_neg (by decide +kernel)]; exact ⟨rfl, rfl⟩))
    (fun os started H enc _ => lifted os started H enc)

/-- ████ THE STATEMENT ████ -/
theorem proved : Rows.FnFaultsCountsOneMoreFaultSaid :=
  over
end Go.Proofs.Qxb6615526aMods.fnFaultsCountsOneMoreFault
