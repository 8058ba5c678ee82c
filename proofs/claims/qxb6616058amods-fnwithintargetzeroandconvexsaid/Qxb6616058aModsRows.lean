/-
  No cell of these rows narrows 'for every input' (looked for: loops, veiled, ifaces, maps, wideKeys, modest, calm, conditions, laid).
  DERIVED. THE GIVEN ROWS OF THIS SEAT. 6 by the template 'for every input the law returns true; each argument reads behind the call as it read before'; 0 by the template 'total and deterministic' (their statements: Qxb6616058aModsTotals.lean).
  GIVEN WITH THE SEED: the statements are not yours to turn. If you find one false, say at which input.
  Laid BY PROGRAM, IN A SANDBOX (cutbox-rows.mjs): the forced cells as the released guide's own fill.sh prints them over the translation e69cddf1d338eb3a… (all of the seat's roots in one cut). By AI agents, Wed Nov 11 2026. No macro, syntax, notation, axiom, sorry.
-/
import Derived.Test.Qxb6616058aModsChecked
import GoSem.Claim
import GoSem.ClaimJoined
import GoSem.ClaimMapViews
import Derived.JoinedTies
import Derived.KernelRfl
namespace Go.Proofs.Qxb6616058aMods
/- THE CELL 'sum', in the pinned program and in every row, IS THE sha256 OF THE DUMP (.gsa) THAT Qxb6616058aModsProg.lean LOADS. Nothing in Lean hashes anything: it is a label: what it is worth is what the hold of that sum in a sandbox is worth. -/
noncomputable def Trym.pinned : Pinned := { name := "qxb6616058amods", sum := "e69cddf1d338eb3aaf4f8cb6f7e94da544ffe3d6ed13a6c6f868c15b6c739077", checked := Trym.checked }
namespace Rows
def none {H : Type} : Left H := { results := [], args := [] }

/-- 'zzlaws_pkg_decision_b1.FnWithinSidesAndWidening': WHATEVER THE INPUT: true; the input reads as it did. -/
def fnWithinSidesAndWideningSpec : ChangeSpec := { name := "fnWithinSidesAndWidening", fn := fun _ => fun
  | [d1, d2, d3, d4, d5] => { results := [.lit (.bool true)], args := [d1, d2, d3, d4, d5] }
  | _ => none }
def fnWithinSidesAndWideningRow : OpenClaim := { program := "qxb6616058amods", sum := "e69cddf1d338eb3aaf4f8cb6f7e94da544ffe3d6ed13a6c6f868c15b6c739077", func := "example.com/tidescale/tidescale/zzlaws_pkg_decision_b1.FnWithinSidesAndWidening", spec := "fnWithinSidesAndWidening", make := .lifted ["publicsums"], apart := false }
def FnWithinSidesAndWideningSaid : Prop := fnWithinSidesAndWideningRow.holds Trym.pinned (OpenSpec.ofChange fnWithinSidesAndWideningSpec)

/-- ITS FALSE NEIGHBOUR: 'it returns false'. Refute it at one input. -/
def fnWithinSidesAndWideningWrong : ChangeSpec := { name := "fnWithinSidesAndWidening", fn := fun _ => fun
  | [d1, d2, d3, d4, d5] => { results := [.lit (.bool false)], args := [d1, d2, d3, d4, d5] }
  | _ => none }
def FnWithinSidesAndWideningWrongFalsely : Prop := fnWithinSidesAndWideningRow.holds Trym.pinned (OpenSpec.ofChange fnWithinSidesAndWideningWrong)

/-- 'zzlaws_pkg_decision_b1.FnWithinTargetZeroAndConvex': WHATEVER THE INPUT: true; the input reads as it did. -/
def fnWithinTargetZeroAndConvexSpec : ChangeSpec := { name := "fnWithinTargetZeroAndConvex", fn := fun _ => fun
  | [d1, d2, d3, d4, d5] => { results := [.lit (.bool true)], args := [d1, d2, d3, d4, d5] }
  | _ => none }
def fnWithinTargetZeroAndConvexRow : OpenClaim := { program := "qxb6616058amods", sum := "e69cddf1d338eb3aaf4f8cb6f7e94da544ffe3d6ed13a6c6f868c15b6c739077", func := "example.com/tidescale/tidescale/zzlaws_pkg_decision_b1.FnWithinTargetZeroAndConvex", spec := "fnWithinTargetZeroAndConvex", make := .lifted ["publicsums"], apart := false }
def FnWithinTargetZeroAndConvexSaid : Prop := fnWithinTargetZeroAndConvexRow.holds Trym.pinned (OpenSpec.ofChange fnWithinTargetZeroAndConvexSpec)

/-- ITS FALSE NEIGHBOUR: 'it returns false'. Refute it at one input. -/
def fnWithinTargetZeroAndConvexWrong : ChangeSpec := { name := "fnWithinTargetZeroAndConvex", fn := fun _ => fun
  | [d1, d2, d3, d4, d5] => { results := [.lit (.bool false)], args := [d1, d2, d3, d4, d5] }
  | _ => none }
def FnWithinTargetZeroAndConvexWrongFalsely : Prop := fnWithinTargetZeroAndConvexRow.holds Trym.pinned (OpenSpec.ofChange fnWithinTargetZeroAndConvexWrong)

/-- 'zzlaws_pkg_decision_b1.FnToCountNearestTowardZero': WHATEVER THE INPUT: true; the input reads as it did. -/
def fnToCountNearestTowardZeroSpec : ChangeSpec := { name := "fnToCountNearestTowardZero", fn := fun _ => fun
  | [d] => { results := [.lit (.bool true)], args := [d] }
  | _ => none }
def fnToCountNearestTowardZeroRow : OpenClaim := { program := "qxb6616058amods", sum := "e69cddf1d338eb3aaf4f8cb6f7e94da544ffe3d6ed13a6c6f868c15b6c739077", func := "example.com/tidescale/tidescale/zzlaws_pkg_decision_b1.FnToCountNearestTowardZero", spec := "fnToCountNearestTowardZero", make := .lifted ["publicsums"], apart := false }
def FnToCountNearestTowardZeroSaid : Prop := fnToCountNearestTowardZeroRow.holds Trym.pinned (OpenSpec.ofChange fnToCountNearestTowardZeroSpec)

/-- ITS FALSE NEIGHBOUR: 'it returns false'. Refute it at one input. -/
def fnToCountNearestTowardZeroWrong : ChangeSpec := { name := "fnToCountNearestTowardZero", fn := fun _ => fun
  | [d] => { results := [.lit (.bool false)], args := [d] }
  | _ => none }
def FnToCountNearestTowardZeroWrongFalsely : Prop := fnToCountNearestTowardZeroRow.holds Trym.pinned (OpenSpec.ofChange fnToCountNearestTowardZeroWrong)

/-- 'zzlaws_pkg_decision_b1.FnToCountMonotoneOddClose': WHATEVER THE INPUT: true; the input reads as it did. -/
def fnToCountMonotoneOddCloseSpec : ChangeSpec := { name := "fnToCountMonotoneOddClose", fn := fun _ => fun
  | [d1, d2] => { results := [.lit (.bool true)], args := [d1, d2] }
  | _ => none }
def fnToCountMonotoneOddCloseRow : OpenClaim := { program := "qxb6616058amods", sum := "e69cddf1d338eb3aaf4f8cb6f7e94da544ffe3d6ed13a6c6f868c15b6c739077", func := "example.com/tidescale/tidescale/zzlaws_pkg_decision_b1.FnToCountMonotoneOddClose", spec := "fnToCountMonotoneOddClose", make := .lifted ["publicsums"], apart := false }
def FnToCountMonotoneOddCloseSaid : Prop := fnToCountMonotoneOddCloseRow.holds Trym.pinned (OpenSpec.ofChange fnToCountMonotoneOddCloseSpec)

/-- ITS FALSE NEIGHBOUR: 'it returns false'. Refute it at one input. -/
def fnToCountMonotoneOddCloseWrong : ChangeSpec := { name := "fnToCountMonotoneOddClose", fn := fun _ => fun
  | [d1, d2] => { results := [.lit (.bool false)], args := [d1, d2] }
  | _ => none }
def FnToCountMonotoneOddCloseWrongFalsely : Prop := fnToCountMonotoneOddCloseRow.holds Trym.pinned (OpenSpec.ofChange fnToCountMonotoneOddCloseWrong)

/-- 'zzlaws_pkg_decision_b1.FnSecondsAdditive': WHATEVER THE INPUT: true; the input reads as it did. -/
def fnSecondsAdditiveSpec : ChangeSpec := { name := "fnSecondsAdditive", fn := fun _ => fun
  | [d1, d2] => { results := [.lit (.bool true)], args := [d1, d2] }
  | _ => none }
def fnSecondsAdditiveRow : OpenClaim := { program := "qxb6616058amods", sum := "e69cddf1d338eb3aaf4f8cb6f7e94da544ffe3d6ed13a6c6f868c15b6c739077", func := "example.com/tidescale/tidescale/zzlaws_pkg_decision_b1.FnSecondsAdditive", spec := "fnSecondsAdditive", make := .lifted ["publicsums"], apart := false }
def FnSecondsAdditiveSaid : Prop := fnSecondsAdditiveRow.holds Trym.pinned (OpenSpec.ofChange fnSecondsAdditiveSpec)

/-- ITS FALSE NEIGHBOUR: 'it returns false'. Refute it at one input. -/
def fnSecondsAdditiveWrong : ChangeSpec := { name := "fnSecondsAdditive", fn := fun _ => fun
  | [d1, d2] => { results := [.lit (.bool false)], args := [d1, d2] }
  | _ => none }
def FnSecondsAdditiveWrongFalsely : Prop := fnSecondsAdditiveRow.holds Trym.pinned (OpenSpec.ofChange fnSecondsAdditiveWrong)

/-- 'zzlaws_pkg_decision_b1.FnSecondsStrictStep': WHATEVER THE INPUT: true; the input reads as it did. -/
def fnSecondsStrictStepSpec : ChangeSpec := { name := "fnSecondsStrictStep", fn := fun _ => fun
  | [d1, d2] => { results := [.lit (.bool true)], args := [d1, d2] }
  | _ => none }
def fnSecondsStrictStepRow : OpenClaim := { program := "qxb6616058amods", sum := "e69cddf1d338eb3aaf4f8cb6f7e94da544ffe3d6ed13a6c6f868c15b6c739077", func := "example.com/tidescale/tidescale/zzlaws_pkg_decision_b1.FnSecondsStrictStep", spec := "fnSecondsStrictStep", make := .lifted ["publicsums"], apart := false }
def FnSecondsStrictStepSaid : Prop := fnSecondsStrictStepRow.holds Trym.pinned (OpenSpec.ofChange fnSecondsStrictStepSpec)

/-- ITS FALSE NEIGHBOUR: 'it returns false'. Refute it at one input. -/
def fnSecondsStrictStepWrong : ChangeSpec := { name := "fnSecondsStrictStep", fn := fun _ => fun
  | [d1, d2] => { results := [.lit (.bool false)], args := [d1, d2] }
  | _ => none }
def FnSecondsStrictStepWrongFalsely : Prop := fnSecondsStrictStepRow.holds Trym.pinned (OpenSpec.ofChange fnSecondsStrictStepWrong)

end Rows
end Go.Proofs.Qxb6616058aMods
