/-
  A slice of strings as the walks know it (SS), and the contracts of the functions that read one: stringsBudget (17), sameStrings (22).
-/
import Derived.Test.Qxb6615531aModsRows
import Derived.WalkKit
import Derived.ProofKit
import Derived.OpenShut
import Derived.Below
import Derived.Deep.QuietTactic
import Derived.BigQuiet
import Derived.WalkSpells
import Derived.WalkLawsBesides
namespace Go.Proofs.Qxb6615531aMods
open Go.ChangeShapes Go.WideShapes Go.ChangeAt Go.RowKit

/-- The slice of length n at p holds the strings S 0, .., S (n-1); a nil one has none. -/
def SS (w : World) (p : Option Addr) (n : Nat) (S : Nat → ByteArray) : Prop :=
  (p = none → n = 0) ∧ (0 < n → ∃ b off, p = some ⟨b, off, none⟩ ∧ ∀ i, i < n → w.cell? ⟨b, off + i, none⟩ = some (.string (S i)) ∧ (S i).size ≤ 9223372036854775807)

set_option maxHeartbeats 400000 in
theorem budget_any (p : Option Addr) (n cap : Nat) (S : Nat → ByteArray) (left : Int) (w : World) (h : SS w p n S) (hn : n ≤ 9223372036854775807) (h0 : 0 ≤ left) (h1 : left ≤ 1048576) :
    Calls Trym.prog 17 #[.slice p n cap, .int .i64 left] w fun e w' => (∃ r : Int, e = .returned (.int .i64 r) ∧ r ≤ 1048576) ∧ w' = w := by
  obtain ⟨-, hs⟩ := h
  by_cases hbig : left / 16 < n
  · clear hs
    go_enter Trym.func17, Trym.ntmps17
    go_wp2
    go_ret
    exact ⟨⟨_, rfl, by omega⟩, rfl⟩
  go_enter Trym.func17, Trym.ntmps17
  go_wp2
  go_loop [1, 5] (fun l i => ∃ (k : Nat) (x : Int), k ≤ n ∧ i = .int .i64 k ∧ 0 ≤ x ∧ x ≤ 1048576 ∧ l = .int .i64 x) (fun _ i => n - (intOf i).toNat)
  case atStart => exact ⟨0, _, Nat.zero_le _, rfl, by omega, by omega, rfl⟩
  case round =>
    obtain ⟨k, x, hk, rfl, hx0, hx1, rfl⟩ := hrel
    by_cases hlt : k < n
    · obtain ⟨b, off, rfl, hc⟩ := hs (by omega)
      obtain ⟨hc1, hc2⟩ := hc k hlt
      clear hc hs
      go_wp2
      · go_ret
        exact ⟨⟨_, rfl, by omega⟩, rfl⟩
      · go_round
        case rel => exact ⟨k + 1, _, by omega, by go_num, by omega, by omega, rfl⟩
        case measure => simp [intOf]; omega
    · clear hs
      go_wp2
      go_ret
      exact ⟨⟨_, rfl, by omega⟩, rfl⟩

theorem eql_nil (a : Option Addr) (n c : Nat) (w : World) : (binOp .eql 28 (.slice a n c) (.slice none 0 0)).run Trym.prog w = .ok (.bool a.isNone) w :=
  Lib.run_eql_slice_nil w 28 9 a n c 0 0 Trym.underlying28

set_option maxHeartbeats 400000 in
theorem same_none (i j : Nat) (w : World) :
    Calls Trym.prog 22 #[.slice none 0 i, .slice none 0 j] w fun e w' => e = .returned (.bool true) ∧ ∃ k, w' = w.drewN k := by
  have hnil := eql_nil
  go_enter Trym.func22, Trym.ntmps22
  go_wp2
  go_loop [5] (fun i => i = .int .i64 0) (fun _ => 0)
  case atStart => rfl
  case round =>
    subst hrel
    go_wp2
    go_ret
    exact ⟨rfl, 0, rfl⟩

set_option maxHeartbeats 400000 in
theorem same_some (p q : Addr) (n i j : Nat) (S : Nat → ByteArray) (w : World) (hn : n ≤ 9223372036854775807)
    (hs : 0 < n → ∃ b off, some p = some ⟨b, off, none⟩ ∧ ∀ i, i < n → w.cell? ⟨b, off + i, none⟩ = some (.string (S i)) ∧ (S i).size ≤ 9223372036854775807)
    (hs' : 0 < n → ∃ b off, some q = some ⟨b, off, none⟩ ∧ ∀ i, i < n → w.cell? ⟨b, off + i, none⟩ = some (.string (S i)) ∧ (S i).size ≤ 9223372036854775807) :
    Calls Trym.prog 22 #[.slice (some p) n i, .slice (some q) n j] w fun e w' => e = .returned (.bool true) ∧ ∃ k, w' = w.drewN k := by
  have hnil := eql_nil
  go_enter Trym.func22, Trym.ntmps22
  go_wp2
  go_loopw [5] (fun i wr => ∃ k m : Nat, k ≤ n ∧ i = .int .i64 k ∧ wr = w.drewN m) (fun i _ => n - (intOf i).toNat)
  case atStart => exact ⟨0, 0, Nat.zero_le _, rfl, rfl⟩
  case round =>
    obtain ⟨k, m, hk, rfl, rfl⟩ := hrel
    by_cases hlt : k < n
    · obtain ⟨b, off, e1, hc⟩ := hs (by omega)
      obtain ⟨b', off', e2, hc'⟩ := hs' (by omega)
      cases e1
      cases e2
      obtain ⟨hc1, -⟩ := hc k hlt
      obtain ⟨hc2, -⟩ := hc' k hlt
      clear hc hs hc' hs'
      have hi0 : (0 : Int) ≤ (k : Int) := by omega
      have hi1 : (k : Int) < (n : Int) := by omega
      go_wp2
      go_quiet (fail)
      go_wp2
      go_roundw
      case rel => exact ⟨k + 1, _, by omega, by go_num, rfl⟩
      case measure => simp [intOf]; omega
    · clear hs hs'
      go_wp2
      go_ret
      exact ⟨rfl, _, rfl⟩

theorem same_any (p q : Option Addr) (n i j : Nat) (S : Nat → ByteArray) (w : World) (h : SS w p n S) (h' : SS w q n S) (hn : n ≤ 9223372036854775807) (hpq : p = none ↔ q = none) :
    Calls Trym.prog 22 #[.slice p n i, .slice q n j] w fun e w' => e = .returned (.bool true) ∧ ∃ k, w' = w.drewN k := by
  obtain ⟨h0, hs⟩ := h
  obtain ⟨-, hs'⟩ := h'
  rcases p with _ | a
  · obtain rfl := hpq.1 rfl
    obtain rfl := h0 rfl
    exact same_none i j w
  · rcases q with _ | b
    · simp at hpq
    · exact same_some a b n i j S w hn hs hs'

/-- A bool was handed back. -/
def IsB (e : Ending) : Prop := ∃ b : Bool, e = .returned (.bool b)
theorem isB_mk (b : Bool) : IsB (.returned (.bool b)) := ⟨b, rfl⟩

/-- zzBytes over two slices hands back some bool and leaves the world as it was. -/
theorem bytes2_any (x y : Int) (p q : Option Addr) (n m i j : Nat) (S T : Nat → ByteArray) (w : World) (h : SS w p n S) (h' : SS w q m T) (hn : n ≤ 9223372036854775807) (hm : m ≤ 9223372036854775807) :
    Calls Trym.prog 26 #[.int .i64 x, .int .i64 y, .slice p n i, .slice q m j] w fun e w' => IsB e ∧ w' = w := by
  obtain ⟨-, hs⟩ := h
  obtain ⟨-, hs'⟩ := h'
  by_cases hbig : 1048576 < n
  · clear hs hs'
    go_enter Trym.func26, Trym.ntmps26
    go_wp2
    go_ret
    exact ⟨isB_mk _, rfl⟩
  go_enter Trym.func26, Trym.ntmps26
  go_wp2
  go_loop [9, 10] (fun z i => ∃ (k : Nat) (c : Int), k ≤ n ∧ i = .int .i64 k ∧ 0 ≤ c ∧ c ≤ 1048576 ∧ z = .int .i64 c) (fun _ i => n - (intOf i).toNat)
  case atStart => exact ⟨0, _, Nat.zero_le _, rfl, by omega, by omega, rfl⟩
  case round =>
    obtain ⟨k, c, hk, rfl, hc0, hc1, rfl⟩ := hrel
    by_cases hlt : k < n
    · obtain ⟨b, off, rfl, hc⟩ := hs (by omega)
      obtain ⟨hcc, hcl⟩ := hc k hlt
      clear hc hs hs'
      go_wp2
      · go_ret
        exact ⟨isB_mk _, rfl⟩
      · go_ret
        exact ⟨isB_mk _, rfl⟩
      · go_round
        case rel => exact ⟨k + 1, _, by omega, by go_num, by omega, by omega, rfl⟩
        case measure => simp [intOf]; omega
    · clear hs
      by_cases hbig2 : 1048576 < m
      · clear hs'
        go_wp2
        go_ret
        exact ⟨isB_mk _, rfl⟩
      by_cases hbig3 : 1048576 < c + m
      · clear hs'
        go_wp2
        go_ret
        exact ⟨isB_mk _, rfl⟩
      go_wp2
      go_loop [9, 11] (fun z i => ∃ (k : Nat) (c : Int), k ≤ m ∧ i = .int .i64 k ∧ 0 ≤ c ∧ c ≤ 1048576 ∧ z = .int .i64 c) (fun _ i => m - (intOf i).toNat)
      case atStart => exact ⟨0, _, Nat.zero_le _, rfl, by omega, by omega, rfl⟩
      case round =>
        obtain ⟨k', c', hk', rfl, hc0', hc1', rfl⟩ := hrel
        by_cases hlt' : k' < m
        · obtain ⟨b, off, rfl, hc⟩ := hs' (by omega)
          obtain ⟨hcc, hcl⟩ := hc k' hlt'
          clear hc hs'
          go_wp2
          · go_ret
            exact ⟨isB_mk _, rfl⟩
          · go_ret
            exact ⟨isB_mk _, rfl⟩
          · go_round
            case rel => exact ⟨k' + 1, _, by omega, by go_num, by omega, by omega, rfl⟩
            case measure => simp [intOf]; omega
        · clear hs'
          go_wp2
          go_ret
          exact ⟨isB_mk _, rfl⟩
end Go.Proofs.Qxb6615531aMods
