/-
  zzBytes over four slices (16) hands back some bool and leaves the world as it was. Written by a small program of this seat (wip/gen).
-/
import Derived.Test.Qxb6615531aModsStrs
namespace Go.Proofs.Qxb6615531aMods
open Go.ChangeShapes Go.WideShapes Go.ChangeAt Go.RowKit

set_option maxHeartbeats 2000000 in
theorem bytes4_any (x y : Int) (p q p2 q2 : Option Addr) (n m n2 m2 i j i2 j2 : Nat) (S T S2 T2 : Nat → ByteArray) (w : World) (h1 : SS w p n S) (h2 : SS w q m T) (h3 : SS w p2 n2 S2) (h4 : SS w q2 m2 T2)
    (hn1 : n ≤ 9223372036854775807) (hn2 : m ≤ 9223372036854775807) (hn3 : n2 ≤ 9223372036854775807) (hn4 : m2 ≤ 9223372036854775807) :
    Calls Trym.prog 16 #[.int .i64 x, .int .i64 y, .slice p n i, .slice q m j, .slice p2 n2 i2, .slice q2 m2 j2] w fun e w' => IsB e ∧ w' = w := by
  go_enter Trym.func16, Trym.ntmps16
  by_cases big0 : 1048576 < n
  · go_wp2
    go_ret
    exact ⟨isB_mk _, rfl⟩
  go_wp2
  go_loop [13, 14] (fun z i => ∃ (k : Nat) (c : Int), k ≤ n ∧ i = .int .i64 k ∧ 0 ≤ c ∧ c ≤ 1048576 ∧ z = .int .i64 c) (fun _ i => n - (intOf i).toNat)
  case atStart => exact ⟨0, _, Nat.zero_le _, rfl, by omega, by omega, rfl⟩
  case round =>
    obtain ⟨k0, c0, hk0, rfl, hc0, hd0, rfl⟩ := hrel
    by_cases hlt0 : k0 < n
    · obtain ⟨b, off, rfl, hc⟩ := h1.2 (by omega)
      obtain ⟨hcc, hcl⟩ := hc k0 hlt0
      clear hc h1 h2 h3 h4
      go_wp2
      · go_ret
        exact ⟨isB_mk _, rfl⟩
      · go_ret
        exact ⟨isB_mk _, rfl⟩
      · go_round
        case rel => exact ⟨k0 + 1, _, by omega, by go_num, by omega, by omega, rfl⟩
        case measure => simp [intOf]; omega
    clear h1
    by_cases big1 : 1048576 < m
    · go_wp2
      go_ret
      exact ⟨isB_mk _, rfl⟩
    by_cases sum1 : 1048576 < c0 + m
    · go_wp2
      go_ret
      exact ⟨isB_mk _, rfl⟩
    go_wp2
    go_loop [13, 15] (fun z i => ∃ (k : Nat) (c : Int), k ≤ m ∧ i = .int .i64 k ∧ 0 ≤ c ∧ c ≤ 1048576 ∧ z = .int .i64 c) (fun _ i => m - (intOf i).toNat)
    case atStart => exact ⟨0, _, Nat.zero_le _, rfl, by omega, by omega, rfl⟩
    case round =>
      obtain ⟨k1, c1, hk1, rfl, hc1, hd1, rfl⟩ := hrel
      by_cases hlt1 : k1 < m
      · obtain ⟨b, off, rfl, hc⟩ := h2.2 (by omega)
        obtain ⟨hcc, hcl⟩ := hc k1 hlt1
        clear hc h2 h3 h4
        go_wp2
        · go_ret
          exact ⟨isB_mk _, rfl⟩
        · go_ret
          exact ⟨isB_mk _, rfl⟩
        · go_round
          case rel => exact ⟨k1 + 1, _, by omega, by go_num, by omega, by omega, rfl⟩
          case measure => simp [intOf]; omega
      clear h2
      by_cases big2 : 1048576 < n2
      · go_wp2
        go_ret
        exact ⟨isB_mk _, rfl⟩
      by_cases sum2 : 1048576 < c1 + n2
      · go_wp2
        go_ret
        exact ⟨isB_mk _, rfl⟩
      go_wp2
      go_loop [13, 16] (fun z i => ∃ (k : Nat) (c : Int), k ≤ n2 ∧ i = .int .i64 k ∧ 0 ≤ c ∧ c ≤ 1048576 ∧ z = .int .i64 c) (fun _ i => n2 - (intOf i).toNat)
      case atStart => exact ⟨0, _, Nat.zero_le _, rfl, by omega, by omega, rfl⟩
      case round =>
        obtain ⟨k2, c2, hk2, rfl, hc2, hd2, rfl⟩ := hrel
        by_cases hlt2 : k2 < n2
        · obtain ⟨b, off, rfl, hc⟩ := h3.2 (by omega)
          obtain ⟨hcc, hcl⟩ := hc k2 hlt2
          clear hc h3 h4
          go_wp2
          · go_ret
            exact ⟨isB_mk _, rfl⟩
          · go_ret
            exact ⟨isB_mk _, rfl⟩
          · go_round
            case rel => exact ⟨k2 + 1, _, by omega, by go_num, by omega, by omega, rfl⟩
            case measure => simp [intOf]; omega
        clear h3
        by_cases big3 : 1048576 < m2
        · go_wp2
          go_ret
          exact ⟨isB_mk _, rfl⟩
        by_cases sum3 : 1048576 < c2 + m2
        · go_wp2
          go_ret
          exact ⟨isB_mk _, rfl⟩
        go_wp2
        go_loop [13, 17] (fun z i => ∃ (k : Nat) (c : Int), k ≤ m2 ∧ i = .int .i64 k ∧ 0 ≤ c ∧ c ≤ 1048576 ∧ z = .int .i64 c) (fun _ i => m2 - (intOf i).toNat)
        case atStart => exact ⟨0, _, Nat.zero_le _, rfl, by omega, by omega, rfl⟩
        case round =>
          obtain ⟨k3, c3, hk3, rfl, hc3, hd3, rfl⟩ := hrel
          by_cases hlt3 : k3 < m2
          · obtain ⟨b, off, rfl, hc⟩ := h4.2 (by omega)
            obtain ⟨hcc, hcl⟩ := hc k3 hlt3
            clear hc h4
            go_wp2
            · go_ret
              exact ⟨isB_mk _, rfl⟩
            · go_ret
              exact ⟨isB_mk _, rfl⟩
            · go_round
              case rel => exact ⟨k3 + 1, _, by omega, by go_num, by omega, by omega, rfl⟩
              case measure => simp [intOf]; omega
          clear h4
          go_wp2
          go_ret
          exact ⟨isB_mk _, rfl⟩
end Go.Proofs.Qxb6615531aMods
