/-
  cloneStrings (18): a nil slice gives nil; another a new row of the same strings.
-/
import Derived.Test.Qxb6615531aModsStrs
import Derived.OwnWalk
import Derived.Laws.CopyOwn
namespace Go.Proofs.Qxb6615531aMods
open Go.ChangeShapes Go.WideShapes Go.ChangeAt Go.RowKit

theorem info9 : (Trym.prog.info? 9).map (fun i => (i.zero, i.size, i.bytes)) = some (some (.string ByteArray.empty), 1, 16) := by kernel_rfl

/-- 'make([]T, n)', the element of one cell: the world behind it written out. -/
theorem wpList_make_exact {P : Program} (w : World) {ops : Array Oper} {rest : List Oper} {o : Oper} {a : Act} {Q : Exit → Act → World → Prop}
    (hg : o.guard = none) (l c : Operand) (t : TypeId) (hop : o.op = Op.makeSlice t l c)
    (e : TypeId) (i : TypeInfo) (z : Value) (h1 : P.underlying t = some (.slice e)) (h2 : P.info? e = some i) (h3 : i.zero = some z) (h4 : i.size = 1) (hz : z.cells = #[z])
    (kl kc : IntKind) (n : Nat) (hl : a.eval l = .int kl (n : Int)) (hc : a.eval c = .int kc (n : Int)) (b2 : i.bytes * n ≤ 281474976710656) (b3 : n ≤ 9223372036854775807)
    (hK : wpList P ops Q rest (a.put o.dst (.slice (some ⟨w.heap.size, 0, none⟩) n n)) (w.alloc (.cells (List.replicate n z).toArray e))) :
    wpList P ops Q (o :: rest) a w := by
  refine wpList_plain hg fun K hK' => ?_
  have hb' : (i.bytes : Int) * (n : Int) ≤ 281474976710656 := by
    have h : ((i.bytes * n : Nat) : Int) ≤ 281474976710656 := by omega
    rwa [Int.natCast_mul] at h
  have hrun := run_make (P := P) w t e i z h1 h2 h3 kl kc n n (by omega) (Int.le_refl _) hb' (by omega)
  have hm : madeCells z.cells (n * i.size) = (List.replicate n z).toArray := by
    rw [h4, hz, Nat.mul_one]
    apply Array.toList_inj.1
    rw [toList_madeCells_one]
  simp only [Int.toNat_natCast, hm] at hrun
  unfold Oper.wp
  simp [execOp, hop, hl, hc, hrun, Result.andThen]
  exact hK' _ _ hK

theorem splice_all {α : Type} (L cs : List α) (h : cs.length = L.length) : splice L 0 cs = cs := by
  simp [splice, h]

theorem clone_none (w : World) (i : Nat) :
    Calls Trym.prog 18 #[.slice none 0 i] w fun e w' => e = .returned (.slice none 0 0) ∧ w' = w := by
  have hnil := eql_nil
  go_enter Trym.func18, Trym.ntmps18
  go_wp2
  go_ret
  exact ⟨rfl, rfl⟩

set_option maxHeartbeats 400000 in
set_option maxRecDepth 100000 in
theorem clone_some (p : Addr) (n i : Nat) (S : Nat → ByteArray) (w : World) (hn : n ≤ 65536)
    (hs : 0 < n → ∃ b off, some p = some ⟨b, off, none⟩ ∧ ∀ i, i < n → w.cell? ⟨b, off + i, none⟩ = some (.string (S i)) ∧ (S i).size ≤ 9223372036854775807) :
    Calls Trym.prog 18 #[.slice (some p) n i] w fun e w' => e = .returned (.slice (some ⟨w.heap.size, 0, none⟩) n n) ∧ w'.heap[w.heap.size]? = some (.cells ((List.range n).map fun i => Value.string (S i)).toArray 9 (0, 0)) ∧ Below w.heap.size w w' := by
  have hnil := eql_nil
  obtain ⟨i0, hi, hz0, hz1, hz2⟩ := info_parts info9
  obtain ⟨cs, hcs⟩ : ∃ cs : List Value, cs = (List.range n).map fun i => Value.string (S i) := ⟨_, rfl⟩
  have HL : Hid (cs.length = n) := by show cs.length = n; simp [hcs]
  have HO : Hid (∀ v ∈ cs, v.oneCell' = true) := by
    show ∀ v ∈ cs, v.oneCell' = true
    subst hcs; intro v hv; simp at hv; obtain ⟨j, -, rfl⟩ := hv; rfl
  have HP : Hid (0 < cs.length → ∃ ad, some p = some ad ∧ ∀ j v, cs[j]? = some v → w.cell? (ad.add j) = some v) := by
    show 0 < cs.length → _
    intro h0
    rw [HL.out] at h0
    obtain ⟨b, off, hp, hc⟩ := hs h0
    refine ⟨_, hp, fun j v hj => ?_⟩
    have hjn : j < n := by
      have := (List.getElem?_eq_some_iff.1 hj).1
      rw [HL.out] at this; exact this
    subst hcs
    simp [hjn] at hj
    subst hj
    rw [add_plain]; exact (hc j hjn).1
  have HC : Hid (cs = (List.range n).map fun i => Value.string (S i)) := hcs
  clear hcs hs
  go_enter Trym.func18, Trym.ntmps18
  go_wp2_with (first
    | (at_make; refine wpList_make_exact _ rfl _ _ 28 rfl 9 i0 (.string ByteArray.empty) Trym.underlying28 hi hz0 hz1 rfl .i64 .i64 n rfl rfl (by rw [hz2]; omega) (by omega) ?_)
    | (with_reducible show wpList _ _ _ (Oper.mk (some 11) _ _ _ _ _ :: _) _ _; refine wpList_copy_splice rfl (.tmp 9) (.tmp 10) 28 28 rfl 9 Trym.underlying28 ?c1 _ _ _ _ _ _ rfl rfl w.heap.size 0 (List.replicate n (.string ByteArray.empty)) 9 ?c2 cs ?c3 ?c4 ?c5 HO.out w.heap.size w ?c6 (Nat.le_refl _) ?_))
  case c1 => rw [hi]; simp [hz1]
  case c2 => simpa using heap_alloc_new w (.cells (Array.replicate n (Value.string ByteArray.empty)) 9)
  case c3 => rw [HL.out]; simp
  case c4 =>
    intro h0
    obtain ⟨ad, had, hcc⟩ := HP.out h0
    cases had
    exact fun j v hj => cell_later ((Below.refl _ _).alloc (Nat.le_refl _) _) (hcc j v hj)
  case c5 => rw [HL.out]; simp
  case c6 => exact (Below.refl _ _).alloc (Nat.le_refl _) _
  intro w2 hg2 hb2
  go_wp2
  go_ret
  refine ⟨rfl, ?_, hb2⟩
  have h2 := hg2.out
  rw [splice_all _ _ (by rw [HL.out]; simp), HC.out] at h2
  exact h2
end Go.Proofs.Qxb6615531aMods
