/-
  The contracts of the three small functions that all three statements go through: ZZnewGroup (8), Faults (9), Quorum (10).
-/
import Derived.Test.Qxb6615526aModsRows
import Derived.WalkKit
import Derived.ProofKit
import Derived.OpenShut
namespace Go.Proofs.Qxb6615526aMods
open Go.ChangeShapes Go.WideShapes Go.ChangeAt Go.RowKit

/-- ZZnewGroup hands back the struct of its two arguments; one new block. -/
theorem newGroup_any (n f : Int) (w : World) :
    Calls Trym.prog 8 #[.int .i64 n, .int .i64 f] w fun e w' => e = .returned (.agg #[.int .i64 n, .int .i64 f]) ∧ w' = w.alloc (.cells #[.int .i64 n, .int .i64 f] 23) := by
  go_enter Trym.func8, Trym.ntmps8
  go_wp2
  exact bodyPost_ret (v := .agg #[.int .i64 n, .int .i64 f]) (by simp [results, Trym.results8, go_sem]) rfl ⟨rfl, rfl⟩

/-- Faults hands back the second field; the receiver's copy is one new block. -/
theorem faults_any (n f : Int) (w : World) :
    Calls Trym.prog 9 #[.agg #[.int .i64 n, .int .i64 f]] w fun e w' => e = .returned (.int .i64 f) ∧ w' = w.alloc (.cells #[.int .i64 n, .int .i64 f] 23) := by
  go_enter Trym.func9, Trym.ntmps9
  go_wp2
  go_ret
  exact ⟨rfl, rfl⟩

/-- Quorum hands back f + 1 + (n - f) / 2 wherever 0 ≤ f ≤ n and that fits; the receiver's copy is one new block. -/
theorem quorum_any (n f : Int) (w : World) (h0 : 0 ≤ f) (h1 : 3 * f + 1 ≤ n) (h2 : n ≤ 9223372036854775807) :
    Calls Trym.prog 10 #[.agg #[.int .i64 n, .int .i64 f]] w fun e w' => e = .returned (.int .i64 (f + 1 + (n - f) / 2)) ∧ w' = w.alloc (.cells #[.int .i64 n, .int .i64 f] 23) := by
  go_enter Trym.func10, Trym.ntmps10
  go_wp2
  go_ret
  exact ⟨rfl, rfl⟩
end Go.Proofs.Qxb6615526aMods
