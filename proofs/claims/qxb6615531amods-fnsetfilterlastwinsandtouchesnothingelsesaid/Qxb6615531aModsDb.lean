/-
  The contracts of the small functions over a DB: ZZnewDB (19), SetFilter (20), ZZfilterOf (21), ZZengine (23), ZZlockWait (24), SetLockWait (31), ZZsetLockWait (25).
-/
import Derived.Test.Qxb6615531aModsRows
import Derived.WalkKit
import Derived.ProofKit
import Derived.OpenShut
import Derived.Deep.QuietTactic
import Derived.BigQuiet
namespace Go.Proofs.Qxb6615531aMods
open Go.ChangeShapes Go.WideShapes Go.ChangeAt Go.RowKit

/-- ZZnewDB: one new block, the DB. -/
theorem newDB_any (n : Int) (w : World) :
    Calls Trym.prog 19 #[.int .i64 n] w fun e w' => e = .returned (.pointer (some ⟨w.heap.size, 0, none⟩)) ∧ w' = w.alloc (.cells #[.int .i64 n, .pointer none, .int .i64 300000000000, .slice none 0 0, .slice none 0 0] 52) := by
  go_enter Trym.func19, Trym.ntmps19
  go_wp2
  go_ret
  exact ⟨rfl, rfl⟩

theorem setFilter_any (g : Nat) (p q : Option Addr) (n m i j : Nat) (w : World) (c3 c4 : Value) (h3 : w.cell? ⟨g, 3, none⟩ = some c3) (h4 : w.cell? ⟨g, 4, none⟩ = some c4) (f3 : w.frozen? ⟨g, 3, none⟩ = false) (f4 : w.frozen? ⟨g, 4, none⟩ = false) :
    Calls Trym.prog 20 #[.pointer (some ⟨g, 0, none⟩), .agg #[.slice p n i, .slice q m j]] w fun e w' => e = .returned (.tuple #[]) ∧ w' = ((w.setCell ⟨g, 3, none⟩ (.slice p n i)).setCell ⟨g, 4, none⟩ (.slice q m j)).alloc (.cells #[.slice p n i, .slice q m j] 36) := by
  have hg : g < w.heap.size := World.block_lt_of_cell? w _ h3
  go_enter Trym.func20, Trym.ntmps20
  go_wp2
  go_end0
  exact ⟨rfl, rfl⟩

theorem engine_any (g : Nat) (x : Int) (w : World) (h : w.cell? ⟨g, 0, none⟩ = some (.int .i64 x)) :
    Calls Trym.prog 23 #[.pointer (some ⟨g, 0, none⟩)] w fun e w' => e = .returned (.int .i64 x) ∧ w' = w := by
  go_enter Trym.func23, Trym.ntmps23
  go_wp2
  go_ret
  exact ⟨rfl, rfl⟩

theorem lockWait_any (g : Nat) (x : Int) (w : World) (h : w.cell? ⟨g, 2, none⟩ = some (.int .i64 x)) :
    Calls Trym.prog 24 #[.pointer (some ⟨g, 0, none⟩)] w fun e w' => e = .returned (.int .i64 x) ∧ w' = w := by
  go_enter Trym.func24, Trym.ntmps24
  go_wp2
  go_ret
  exact ⟨rfl, rfl⟩

theorem filterOf_any (g : Nat) (p q : Option Addr) (n m i j : Nat) (w : World) (h3 : w.cell? ⟨g, 3, none⟩ = some (.slice p n i)) (h4 : w.cell? ⟨g, 4, none⟩ = some (.slice q m j)) :
    Calls Trym.prog 21 #[.pointer (some ⟨g, 0, none⟩)] w fun e w' => e = .returned (.tuple #[.slice p n i, .slice q m j]) ∧ ∃ k, w' = w.drewN k := by
  go_enter Trym.func21, Trym.ntmps21
  go_wp2
  go_quiet (fail)
  go_wp2
  go_ret2
  exact ⟨rfl, _, rfl⟩

theorem setWait_any (g : Nat) (x c2 : Int) (w : World) (h2 : w.cell? ⟨g, 2, none⟩ = some (.int .i64 c2)) (f2 : w.frozen? ⟨g, 2, none⟩ = false) :
    Calls Trym.prog 25 #[.pointer (some ⟨g, 0, none⟩), .int .i64 x] w fun e w' => e = .returned (.tuple #[]) ∧ w' = w.setCell ⟨g, 2, none⟩ (.int .i64 (if x < 0 then 0 else x)) := by
  by_cases hx : x < 0
  · rw [if_pos hx]
    go_enter Trym.func25, Trym.ntmps25
    go_wp2
    go_end0
    go_wp2
    go_end0
    exact ⟨rfl, rfl⟩
  · rw [if_neg hx]
    go_enter Trym.func25, Trym.ntmps25
    go_wp2
    go_end0
    go_wp2
    go_end0
    exact ⟨rfl, rfl⟩
end Go.Proofs.Qxb6615531aMods
