/-
  The contracts in the form that the two laws use: what a DB's block holds (DBo), what a slice of strings holds (SS), what each call leaves alone.
-/
import Derived.Test.Qxb6615531aModsDb
import Derived.Test.Qxb6615531aModsStrs
import Derived.Test.Qxb6615531aModsClone
import Derived.WalkSmall
namespace Go.Proofs.Qxb6615531aMods
open Go.ChangeShapes Go.WideShapes Go.ChangeAt Go.RowKit

/-- Every block that was there, but for block g, is as it was. -/
structure Ex (g : Nat) (w w' : World) : Prop where
  os : w'.os = w.os
  tape : w'.tape = w.tape
  output : w'.output = w.output
  size : w.heap.size ≤ w'.heap.size
  block : ∀ k, k < w.heap.size → k ≠ g → w'.heap[k]? = w.heap[k]?

/-- The slice at p does not lie in block g. -/
def Away (p : Option Addr) (g : Nat) : Prop := ∀ a, p = some a → a.block ≠ g

/-- The slice at p lies in a block from lo on, below hi. -/
def Blk (p : Option Addr) (lo hi : Nat) : Prop := ∀ a, p = some a → lo ≤ a.block ∧ a.block < hi
theorem Blk.up {p : Option Addr} {lo hi hi' : Nat} (h : Blk p lo hi) (hh : hi ≤ hi') : Blk p lo hi' := fun a ha => ⟨(h a ha).1, Nat.lt_of_lt_of_le (h a ha).2 hh⟩
theorem Blk.away_lt {p : Option Addr} {lo hi g : Nat} (h : Blk p lo hi) (hg : hi ≤ g) : Away p g := fun a ha => by have := h a ha; omega
theorem Blk.away_ge {p : Option Addr} {lo hi g : Nat} (h : Blk p lo hi) (hg : g < lo) : Away p g := fun a ha => by have := h a ha; omega

/-- The one is nil as the other is. -/
def NilAs (p q : Option Addr) : Prop := p = none ↔ q = none

/-- Block g is a DB: its engine, its wait, its filter's two slices. -/
def DBo (w : World) (g : Nat) (e t : Int) (c l : Value) : Prop := w.heap[g]? = some (.cells #[.int .i64 e, .pointer none, .int .i64 t, c, l] 52 (0, 0))

theorem Ex.below {g B : Nat} {w w' : World} (h : Ex g w w') (hg : B ≤ g) (hB : B ≤ w.heap.size) : Below B w w' :=
  ⟨h.os, h.tape, h.output, h.size, fun k hk => h.block k (by omega) (by omega)⟩

theorem SS.later {w w' : World} {p : Option Addr} {n : Nat} {S : Nat → ByteArray} (h : SS w p n S) (hb : Below w.heap.size w w') : SS w' p n S := by
  refine ⟨h.1, fun h0 => ?_⟩
  obtain ⟨b, off, hp, hc⟩ := h.2 h0
  exact ⟨b, off, hp, fun i hi => ⟨cell_later hb (hc i hi).1, (hc i hi).2⟩⟩

theorem SS.ex {w w' : World} {p : Option Addr} {n g : Nat} {S : Nat → ByteArray} (h : SS w p n S) (hx : Ex g w w') (ha : Away p g) : SS w' p n S := by
  refine ⟨h.1, fun h0 => ?_⟩
  obtain ⟨b, off, hp, hc⟩ := h.2 h0
  refine ⟨b, off, hp, fun i hi => ⟨?_, (hc i hi).2⟩⟩
  have hlt := World.block_lt_of_cell? w _ (hc i hi).1
  rw [World.cell?_of_block (w := w) (hx.block b hlt (ha _ hp))]
  exact (hc i hi).1

theorem DBo.lt {w : World} {g : Nat} {e t : Int} {c l : Value} (h : DBo w g e t c l) : g < w.heap.size := by
  unfold DBo at h
  exact (Array.getElem?_eq_some_iff.1 h).1

theorem DBo.later {w w' : World} {g : Nat} {e t : Int} {c l : Value} (h : DBo w g e t c l) (hb : Below w.heap.size w w') : DBo w' g e t c l := by
  unfold DBo
  rw [hb.block g h.lt]; exact h

theorem DBo.ex {w w' : World} {g k : Nat} {e t : Int} {c l : Value} (h : DBo w g e t c l) (hx : Ex k w w') (hne : g ≠ k) : DBo w' g e t c l := by
  unfold DBo
  rw [hx.block g h.lt hne]; exact h

theorem DBo.cells {w : World} {g : Nat} {e t : Int} {c l : Value} (h : DBo w g e t c l) :
    w.cell? ⟨g, 0, none⟩ = some (.int .i64 e) ∧ w.cell? ⟨g, 2, none⟩ = some (.int .i64 t) ∧ w.cell? ⟨g, 3, none⟩ = some c ∧ w.cell? ⟨g, 4, none⟩ = some l ∧
      w.frozen? ⟨g, 2, none⟩ = false ∧ w.frozen? ⟨g, 3, none⟩ = false ∧ w.frozen? ⟨g, 4, none⟩ = false := by
  unfold DBo at h
  simp [World.cell?, World.frozen?, h]

theorem heap_setCell_same {w : World} {g k : Nat} {v : Value} {cs : Array Value} {t : TypeId} (h : w.heap[g]? = some (.cells cs t (0, 0))) : (w.setCell ⟨g, k, none⟩ v).heap[g]? = some (.cells (cs.setIfInBounds k v) t (0, 0)) := by
  simp [World.setCell, Array.getElem?_modify, h]

theorem Ex.setCell (g k : Nat) (v : Value) (w : World) : Ex g w (w.setCell ⟨g, k, none⟩ v) :=
  ⟨rfl, rfl, rfl, by simp [World.setCell], fun j _ hj => Below.heap_setCell _ _ _ _ hj⟩

theorem Ex.trans {g : Nat} {a b c : World} (h : Ex g a b) (k : Ex g b c) : Ex g a c :=
  ⟨k.os.trans h.os, k.tape.trans h.tape, k.output.trans h.output, Nat.le_trans h.size k.size, fun j hj hne => (k.block j (Nat.lt_of_lt_of_le hj h.size) hne).trans (h.block j hj hne)⟩

theorem Ex.alloc (g : Nat) (w : World) (o : Obj) : Ex g w (w.alloc o) :=
  ⟨rfl, rfl, rfl, by simp, fun _ hj _ => Below.heap_alloc _ _ _ hj⟩

theorem clone_law (p : Option Addr) (n i : Nat) (S : Nat → ByteArray) (w : World) (h : SS w p n S) (hn : n ≤ 65536) :
    Calls Trym.prog 18 #[.slice p n i] w fun e w' => ∃ p' i', e = .returned (.slice p' n i') ∧ SS w' p' n S ∧ NilAs p' p ∧ Blk p' w.heap.size w'.heap.size ∧ Below w.heap.size w w' := by
  rcases p with _ | a
  · obtain rfl := h.1 rfl
    refine (clone_none w i).mono ?_
    rintro e w' ⟨rfl, rfl⟩
    exact ⟨none, 0, rfl, ⟨fun _ => rfl, fun h0 => absurd h0 (by omega)⟩, Iff.rfl, fun a ha => (by cases ha), Below.refl _ _⟩
  · refine (clone_some a n i S w hn h.2).mono ?_
    rintro e w' ⟨rfl, hrow, hb⟩
    refine ⟨_, _, rfl, ⟨fun h0 => (by cases h0), fun _ => ⟨_, _, rfl, fun k hk => ⟨?_, ?_⟩⟩⟩, ⟨fun h0 => (by cases h0), fun h0 => (by cases h0)⟩, fun x hx => ?_, hb⟩
    · simp [World.cell?, hrow, hk]
    · obtain ⟨b, off, -, hc⟩ := h.2 (by omega)
      exact (hc k hk).2
    · cases hx
      exact ⟨Nat.le_refl _, (Array.getElem?_eq_some_iff.1 hrow).1⟩

theorem newDB_law (n : Int) (w : World) :
    Calls Trym.prog 19 #[.int .i64 n] w fun e w' => ∃ g : Nat, e = .returned (.pointer (some ⟨g, 0, none⟩)) ∧ DBo w' g n 300000000000 (.slice none 0 0) (.slice none 0 0) ∧ w.heap.size ≤ g ∧ Below w.heap.size w w' := by
  refine (newDB_any n w).mono ?_
  rintro e w' ⟨rfl, rfl⟩
  exact ⟨_, rfl, heap_alloc_new _ _, Nat.le_refl _, (Below.refl _ _).alloc (Nat.le_refl _) _⟩

theorem setFilter_law (g : Nat) (p q : Option Addr) (n m i j : Nat) (e t : Int) (c l : Value) (w : World) (h : DBo w g e t c l) :
    Calls Trym.prog 20 #[.pointer (some ⟨g, 0, none⟩), .agg #[.slice p n i, .slice q m j]] w fun r w' => r = .returned (.tuple #[]) ∧ DBo w' g e t (.slice p n i) (.slice q m j) ∧ Ex g w w' := by
  obtain ⟨-, -, h3, h4, -, f3, f4⟩ := h.cells
  refine (setFilter_any g p q n m i j w c l h3 h4 f3 f4).mono ?_
  rintro r w' ⟨rfl, rfl⟩
  refine ⟨rfl, ?_, ((Ex.setCell g 3 _ w).trans (Ex.setCell g 4 _ _)).trans (Ex.alloc g _ _)⟩
  unfold DBo at h ⊢
  rw [Below.heap_alloc _ _ _ (by have := (Array.getElem?_eq_some_iff.1 h).1; simpa [World.setCell] using this)]
  rw [heap_setCell_same (heap_setCell_same h)]
  rfl

theorem setWait_law (g : Nat) (x y : Int) (e t : Int) (c l : Value) (w : World) (h : DBo w g e t c l) (hy : y = if x < 0 then 0 else x) :
    Calls Trym.prog 25 #[.pointer (some ⟨g, 0, none⟩), .int .i64 x] w fun r w' => r = .returned (.tuple #[]) ∧ DBo w' g e y c l ∧ Ex g w w' := by
  obtain ⟨-, h2, -, -, f2, -, -⟩ := h.cells
  refine (setWait_any g x t w h2 f2).mono ?_
  rintro r w' ⟨rfl, rfl⟩
  rw [← hy]
  refine ⟨rfl, ?_, Ex.setCell g 2 _ w⟩
  unfold DBo at h ⊢
  rw [heap_setCell_same h]
  rfl

theorem filterOf_law (g : Nat) (p q : Option Addr) (n m i j : Nat) (e t : Int) (w : World) (h : DBo w g e t (.slice p n i) (.slice q m j)) :
    Calls Trym.prog 21 #[.pointer (some ⟨g, 0, none⟩)] w fun r w' => r = .returned (.tuple #[.slice p n i, .slice q m j]) ∧ Below w.heap.size w w' := by
  obtain ⟨-, -, h3, h4, -, -, -⟩ := h.cells
  refine (filterOf_any g p q n m i j w h3 h4).mono ?_
  rintro r w' ⟨rfl, k, rfl⟩
  exact ⟨rfl, below_drewN (Below.refl _ _) k⟩

theorem same_law (p q : Option Addr) (n i j : Nat) (S : Nat → ByteArray) (w : World) (h : SS w p n S) (h' : SS w q n S) (hn : n ≤ 65536) (hpq : NilAs p q) :
    Calls Trym.prog 22 #[.slice p n i, .slice q n j] w fun e w' => e = .returned (.bool true) ∧ Below w.heap.size w w' := by
  refine (same_any p q n i j S w h h' (by omega) hpq).mono ?_
  rintro r w' ⟨rfl, k, rfl⟩
  exact ⟨rfl, below_drewN (Below.refl _ _) k⟩

theorem engine_law (g : Nat) (e t : Int) (c l : Value) (w : World) (h : DBo w g e t c l) :
    Calls Trym.prog 23 #[.pointer (some ⟨g, 0, none⟩)] w fun r w' => r = .returned (.int .i64 e) ∧ w' = w := engine_any g e w h.cells.1

theorem lockWait_law (g : Nat) (e t : Int) (c l : Value) (w : World) (h : DBo w g e t c l) :
    Calls Trym.prog 24 #[.pointer (some ⟨g, 0, none⟩)] w fun r w' => r = .returned (.int .i64 t) ∧ w' = w := lockWait_any g t w h.cells.2.1

end Go.Proofs.Qxb6615531aMods
