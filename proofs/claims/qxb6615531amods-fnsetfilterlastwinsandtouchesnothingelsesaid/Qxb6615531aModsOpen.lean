/-
  A slice of strings among the arguments, opened as SS.
-/
import Derived.Test.Qxb6615531aModsStrs
import Derived.Deep.Strs
namespace Go.Proofs.Qxb6615531aMods
open Go.ChangeShapes Go.WideShapes Go.ChangeAt Go.RowKit Go.Deep

theorem ss_open {H : Type} {enc : TypeId × Value → H} {W : World} {base fuel : Nat} {a : Option Addr} {len cap : Nat} {held : Bool} {x : DataW H × List MemPlace}
    (hf : DataW.trod enc Trym.prog W base (fun _ => true) held fuel 28 (Value.slice a len cap).cells.toList = some x) : ∃ S, SS W a len S ∧ len ≤ 9223372036854775807 := by
  rcases open_strs Trym.underlying28 Trym.underlying9 (by kernel_rfl) hf with ⟨hcs, _⟩ | ⟨y, l, c, m, Sx, hcs, _, hl, hm, hmm, _, hcell⟩
  · simp [Value.cells] at hcs
    obtain ⟨rfl, rfl, rfl⟩ := hcs
    exact ⟨fun _ => ByteArray.empty, ⟨fun _ => rfl, fun h0 => absurd h0 (by omega)⟩, by omega⟩
  · simp [Value.cells] at hcs
    obtain ⟨rfl, rfl, rfl⟩ := hcs
    simp at hmm
    subst hmm
    unfold maxLen at hm
    refine ⟨Sx, ⟨fun h0 => (by cases h0), fun h0 => ?_⟩, by omega⟩
    obtain ⟨b, off, spot⟩ := y
    have h1 := (hcell 0 (by omega)).1
    have hspot : spot = none := by simpa [Addr.add] using World.cell?_spot h1
    subst hspot
    refine ⟨b, off, rfl, fun i hi => ?_⟩
    obtain ⟨h2, h3⟩ := hcell i (by omega)
    rw [add_plain] at h2
    unfold maxLen at h3
    exact ⟨h2, by omega⟩
end Go.Proofs.Qxb6615531aMods
