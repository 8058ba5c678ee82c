/-
  No cell of these rows narrows 'for every input' (looked for: loops, veiled, ifaces, maps, wideKeys, modest, calm, conditions, laid).
  DERIVED. THE GIVEN ROWS OF THIS SEAT. 5 by the template 'for every input the law returns true; each argument reads behind the call as it read before'; 0 by the template 'total and deterministic' (their statements: Qxb6615531aModsTotals.lean).
  GIVEN WITH THE SEED: the statements are not yours to turn. If you find one false, say at which input.
  Laid BY PROGRAM, IN A SANDBOX (cutbox-rows.mjs): the forced cells as the released guide's own fill.sh prints them over the translation e41e4e7a43abde70… (all of the seat's roots in one cut). By AI agents, Wed Nov 11 2026. No macro, syntax, notation, axiom, sorry.
-/
import Derived.Test.Qxb6615531aModsChecked
import GoSem.Claim
import GoSem.ClaimJoined
import GoSem.ClaimMapViews
import Derived.JoinedTies
import Derived.KernelRfl
namespace Go.Proofs.Qxb6615531aMods
/- THE CELL 'sum', in the pinned program and in every row, IS THE sha256 OF THE DUMP (.gsa) THAT Qxb6615531aModsProg.lean LOADS. Nothing in Lean hashes anything: it is a label: what it is worth is what the hold of that sum in a sandbox is worth. -/
noncomputable def Trym.pinned : Pinned := { name := "qxb6615531amods", sum := "e41e4e7a43abde7075a6e707d87c3e7e0636f09b9f43c210111b1c8e02aa9fdf", checked := Trym.checked }
namespace Rows
def none {H : Type} : Left H := { results := [], args := [] }

/-- 'zzlaws_root_b1.FnQualifiedTellsNamesApart': WHATEVER THE INPUT: true; the input reads as it did. -/
def fnQualifiedTellsNamesApartSpec : ChangeSpec := { name := "fnQualifiedTellsNamesApart", fn := fun _ => fun
  | [d1, d2, d3, d4] => { results := [.lit (.bool true)], args := [d1, d2, d3, d4] }
  | _ => none }
def fnQualifiedTellsNamesApartRow : OpenClaim := { program := "qxb6615531amods", sum := "e41e4e7a43abde7075a6e707d87c3e7e0636f09b9f43c210111b1c8e02aa9fdf", func := "example.com/quireline/quireline/zzlaws_root_b1.FnQualifiedTellsNamesApart", spec := "fnQualifiedTellsNamesApart", make := .lifted ["publicsums"], apart := false }
def FnQualifiedTellsNamesApartSaid : Prop := fnQualifiedTellsNamesApartRow.holds Trym.pinned (OpenSpec.ofChange fnQualifiedTellsNamesApartSpec)

/-- ITS FALSE NEIGHBOUR: 'it returns false'. Refute it at one input. -/
def fnQualifiedTellsNamesApartWrong : ChangeSpec := { name := "fnQualifiedTellsNamesApart", fn := fun _ => fun
  | [d1, d2, d3, d4] => { results := [.lit (.bool false)], args := [d1, d2, d3, d4] }
  | _ => none }
def FnQualifiedTellsNamesApartWrongFalsely : Prop := fnQualifiedTellsNamesApartRow.holds Trym.pinned (OpenSpec.ofChange fnQualifiedTellsNamesApartWrong)

/-- 'zzlaws_root_b1.FnSkipMariaBlanksMatchesAutomatonAndShifts': WHATEVER THE INPUT: true; the input reads as it did. -/
def fnSkipMariaBlanksMatchesAutomatonAndShiftsSpec : ChangeSpec := { name := "fnSkipMariaBlanksMatchesAutomatonAndShifts", fn := fun _ => fun
  | [d1, d2, d3] => { results := [.lit (.bool true)], args := [d1, d2, d3] }
  | _ => none }
def fnSkipMariaBlanksMatchesAutomatonAndShiftsRow : OpenClaim := { program := "qxb6615531amods", sum := "e41e4e7a43abde7075a6e707d87c3e7e0636f09b9f43c210111b1c8e02aa9fdf", func := "example.com/quireline/quireline/zzlaws_root_b1.FnSkipMariaBlanksMatchesAutomatonAndShifts", spec := "fnSkipMariaBlanksMatchesAutomatonAndShifts", inPlace := ["internal/bytealg.IndexByteString", "internal/bytealg.IndexString"], named := ["internal/bytealg.MaxLen"], make := .lifted ["publicsums"], apart := false }
def FnSkipMariaBlanksMatchesAutomatonAndShiftsSaid : Prop := fnSkipMariaBlanksMatchesAutomatonAndShiftsRow.holds Trym.pinned (OpenSpec.ofChange fnSkipMariaBlanksMatchesAutomatonAndShiftsSpec)

/-- ITS FALSE NEIGHBOUR: 'it returns false'. Refute it at one input. -/
def fnSkipMariaBlanksMatchesAutomatonAndShiftsWrong : ChangeSpec := { name := "fnSkipMariaBlanksMatchesAutomatonAndShifts", fn := fun _ => fun
  | [d1, d2, d3] => { results := [.lit (.bool false)], args := [d1, d2, d3] }
  | _ => none }
def FnSkipMariaBlanksMatchesAutomatonAndShiftsWrongFalsely : Prop := fnSkipMariaBlanksMatchesAutomatonAndShiftsRow.holds Trym.pinned (OpenSpec.ofChange fnSkipMariaBlanksMatchesAutomatonAndShiftsWrong)

/-- 'zzlaws_root_b1.FnSkipMariaBlanksStopsAtAToken': WHATEVER THE INPUT: true; the input reads as it did. -/
def fnSkipMariaBlanksStopsAtATokenSpec : ChangeSpec := { name := "fnSkipMariaBlanksStopsAtAToken", fn := fun _ => fun
  | [d1, d2] => { results := [.lit (.bool true)], args := [d1, d2] }
  | _ => none }
def fnSkipMariaBlanksStopsAtATokenRow : OpenClaim := { program := "qxb6615531amods", sum := "e41e4e7a43abde7075a6e707d87c3e7e0636f09b9f43c210111b1c8e02aa9fdf", func := "example.com/quireline/quireline/zzlaws_root_b1.FnSkipMariaBlanksStopsAtAToken", spec := "fnSkipMariaBlanksStopsAtAToken", inPlace := ["internal/bytealg.IndexByteString", "internal/bytealg.IndexString"], named := ["internal/bytealg.MaxLen"], make := .lifted ["publicsums"], apart := false }
def FnSkipMariaBlanksStopsAtATokenSaid : Prop := fnSkipMariaBlanksStopsAtATokenRow.holds Trym.pinned (OpenSpec.ofChange fnSkipMariaBlanksStopsAtATokenSpec)

/-- ITS FALSE NEIGHBOUR: 'it returns false'. Refute it at one input. -/
def fnSkipMariaBlanksStopsAtATokenWrong : ChangeSpec := { name := "fnSkipMariaBlanksStopsAtAToken", fn := fun _ => fun
  | [d1, d2] => { results := [.lit (.bool false)], args := [d1, d2] }
  | _ => none }
def FnSkipMariaBlanksStopsAtATokenWrongFalsely : Prop := fnSkipMariaBlanksStopsAtATokenRow.holds Trym.pinned (OpenSpec.ofChange fnSkipMariaBlanksStopsAtATokenWrong)

/-- 'zzlaws_root_b1.FnSetFilterLastWinsAndTouchesNothingElse': WHATEVER THE INPUT: true; the input reads as it did. -/
def fnSetFilterLastWinsAndTouchesNothingElseSpec : ChangeSpec := { name := "fnSetFilterLastWinsAndTouchesNothingElse", fn := fun _ => fun
  | [d1, d2, d3, d4, d5, d6] => { results := [.lit (.bool true)], args := [d1, d2, d3, d4, d5, d6] }
  | _ => none }
def fnSetFilterLastWinsAndTouchesNothingElseRow : OpenClaim := { program := "qxb6615531amods", sum := "e41e4e7a43abde7075a6e707d87c3e7e0636f09b9f43c210111b1c8e02aa9fdf", func := "example.com/quireline/quireline/zzlaws_root_b1.FnSetFilterLastWinsAndTouchesNothingElse", spec := "fnSetFilterLastWinsAndTouchesNothingElse", make := .lifted ["publicsums"], apart := false }
def FnSetFilterLastWinsAndTouchesNothingElseSaid : Prop := fnSetFilterLastWinsAndTouchesNothingElseRow.holds Trym.pinned (OpenSpec.ofChange fnSetFilterLastWinsAndTouchesNothingElseSpec)

/-- ITS FALSE NEIGHBOUR: 'it returns false'. Refute it at one input. -/
def fnSetFilterLastWinsAndTouchesNothingElseWrong : ChangeSpec := { name := "fnSetFilterLastWinsAndTouchesNothingElse", fn := fun _ => fun
  | [d1, d2, d3, d4, d5, d6] => { results := [.lit (.bool false)], args := [d1, d2, d3, d4, d5, d6] }
  | _ => none }
def FnSetFilterLastWinsAndTouchesNothingElseWrongFalsely : Prop := fnSetFilterLastWinsAndTouchesNothingElseRow.holds Trym.pinned (OpenSpec.ofChange fnSetFilterLastWinsAndTouchesNothingElseWrong)

/-- 'zzlaws_root_b1.FnSetFilterCommutesWithSetLockWait': WHATEVER THE INPUT: true; the input reads as it did. -/
def fnSetFilterCommutesWithSetLockWaitSpec : ChangeSpec := { name := "fnSetFilterCommutesWithSetLockWait", fn := fun _ => fun
  | [d1, d2, d3, d4] => { results := [.lit (.bool true)], args := [d1, d2, d3, d4] }
  | _ => none }
def fnSetFilterCommutesWithSetLockWaitRow : OpenClaim := { program := "qxb6615531amods", sum := "e41e4e7a43abde7075a6e707d87c3e7e0636f09b9f43c210111b1c8e02aa9fdf", func := "example.com/quireline/quireline/zzlaws_root_b1.FnSetFilterCommutesWithSetLockWait", spec := "fnSetFilterCommutesWithSetLockWait", make := .lifted ["publicsums"], apart := false }
def FnSetFilterCommutesWithSetLockWaitSaid : Prop := fnSetFilterCommutesWithSetLockWaitRow.holds Trym.pinned (OpenSpec.ofChange fnSetFilterCommutesWithSetLockWaitSpec)

/-- ITS FALSE NEIGHBOUR: 'it returns false'. Refute it at one input. -/
def fnSetFilterCommutesWithSetLockWaitWrong : ChangeSpec := { name := "fnSetFilterCommutesWithSetLockWait", fn := fun _ => fun
  | [d1, d2, d3, d4] => { results := [.lit (.bool false)], args := [d1, d2, d3, d4] }
  | _ => none }
def FnSetFilterCommutesWithSetLockWaitWrongFalsely : Prop := fnSetFilterCommutesWithSetLockWaitRow.holds Trym.pinned (OpenSpec.ofChange fnSetFilterCommutesWithSetLockWaitWrong)

end Rows
end Go.Proofs.Qxb6615531aMods
