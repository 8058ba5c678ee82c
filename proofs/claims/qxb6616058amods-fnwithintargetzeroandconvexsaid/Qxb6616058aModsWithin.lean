/-
  PLAIN MATHEMATICS OF float64: what 'within' answers, and the two laws on it.
-/
import Derived.Test.Qxb6616058aModsSum
namespace Go.Proofs.Qxb6616058aMods.Fl
open Ieee

/-- The word of 1. -/
def one : Nat := 4607182418800017408
/-- The word of positive infinity. -/
def inf : Nat := 9218868437227405312

theorem read_one : double.read one = .number false 4503599627370496 (-52) := by decide +kernel
theorem read_inf : double.read inf = .infinity false := by decide +kernel
theorem fine_one : fine (double.read one) := read_fine one (by rw [read_one]; rfl)
theorem fine_inf : fine (double.read inf) := by rw [read_inf]; trivial

/-- The value of 1 + b. -/
def plusV : Datum → Int
  | .number s m e => rnd (dval (double.read one) + dval (.number s m e))
  | .infinity s => dval (.infinity s)
  | .nan .. => 0

theorem plus_fine (b : Datum) (h : fine b) : ∃ r, ((double.read one).sum b).map double.write = some r ∧ fine (double.read r) ∧ dval (double.read r) = plusV b := by
  cases b with
  | number s m e =>
    have := sum_number false s 4503599627370496 m (-52) e (by omega) h.1
    rw [← read_one] at this
    exact this
  | infinity s =>
    rw [read_one]
    exact ⟨_, rfl, write_inf s⟩
  | nan s f => exact h.elim

theorem opp_fine (b : Datum) (h : fine b) : fine b.opposite ∧ dval b.opposite = -dval b := by
  cases b with
  | number s m e =>
    refine ⟨h, ?_⟩
    show dval (.number (!s) m e) = _
    rw [dval_number, dval_number]
    cases s <;> simp
  | infinity s =>
    refine ⟨trivial, ?_⟩
    show dval (.infinity (!s)) = _
    rw [dval_inf, dval_inf]
    cases s <;> simp
  | nan s f => exact h.elim

theorem plusV_bound {b : Datum} (h : fine b) : -(infVal : Int) ≤ plusV b ∧ plusV b ≤ infVal := by
  cases b with
  | number s m e => exact rnd_bound _
  | infinity s => exact dval_bound (d := .infinity s) trivial
  | nan s f => exact h.elim

theorem plusV_mono {b b' : Datum} (h : fine b) (h' : fine b') (hle : dval b ≤ dval b') : plusV b ≤ plusV b' := by
  have hp := infVal_pos
  have hb := plusV_bound h
  have hb' := plusV_bound h'
  cases b with
  | nan s f => exact h.elim
  | infinity s =>
    cases s
    · have e : dval (.infinity false) = infVal := rfl
      cases b' with
      | nan s f => exact h'.elim
      | infinity t => exact hle
      | number t n j => have := dval_lt h'; omega
    · have e : plusV (.infinity true) = -(infVal : Int) := rfl
      omega
  | number s m i =>
    cases b' with
    | nan s f => exact h'.elim
    | infinity t =>
      cases t
      · have e : plusV (.infinity false) = (infVal : Int) := rfl
        omega
      · have e : dval (.infinity true) = -(infVal : Int) := rfl
        have := dval_lt h; omega
    | number t n j => exact rnd_mono (by omega)

/-- 1 + 0 = 1. -/
theorem plusV_zero : plusV (.number false 0 (-1074)) = dval (double.read one) := by
  obtain ⟨r, h1, -, h3⟩ := plus_fine (.number false 0 (-1074)) ⟨by omega, by have := infVal_pos; simpa using this⟩
  have e : ((double.read one).sum (.number false 0 (-1074))).map double.write = some one := by decide +kernel
  rw [e] at h1
  cases h1
  exact h3.symm

theorem fine_zero : fine (.number false 0 (-1074)) := ⟨by omega, by have := infVal_pos; simpa using this⟩
theorem dval_zero : dval (.number false 0 (-1074)) = 0 := rfl

/-- 'x <= y' of two words. -/
def le (x y : Nat) : Bool := double.order x y == some .lt || double.order x y == some .eq

theorem le_iff {x y : Nat} (hx : fine (double.read x)) (hy : fine (double.read y)) : le x y = true ↔ dval (double.read x) ≤ dval (double.read y) := by
  unfold le Format.order
  rw [order_fine hx hy, compare_int]
  by_cases h : dval (double.read x) < dval (double.read y)
  · rw [if_pos h]; simp; omega
  · rw [if_neg h]
    by_cases e : dval (double.read x) = dval (double.read y)
    · rw [if_pos e]; simp; omega
    · rw [if_neg e]; simp; omega

theorem lt_iff {x y : Nat} (hx : fine (double.read x)) (hy : fine (double.read y)) : (double.order x y == some .lt) = true ↔ dval (double.read x) < dval (double.read y) := by
  unfold Format.order
  rw [order_fine hx hy, compare_int]
  by_cases h : dval (double.read x) < dval (double.read y)
  · rw [if_pos h]; simp [h]
  · rw [if_neg h]
    by_cases e : dval (double.read x) = dval (double.read y)
    · rw [if_pos e]; simp; omega
    · rw [if_neg e]; simp; omega

theorem eq_iff {x y : Nat} (hx : fine (double.read x)) (hy : fine (double.read y)) : (double.order x y == some .eq) = true ↔ dval (double.read x) = dval (double.read y) := by
  unfold Format.order
  rw [order_fine hx hy, compare_int]
  by_cases h : dval (double.read x) < dval (double.read y)
  · rw [if_pos h]; simp; omega
  · rw [if_neg h]
    by_cases e : dval (double.read x) = dval (double.read y)
    · rw [if_pos e]; simp [e]
    · rw [if_neg e]; simp; omega

/-- What 'within' answers. -/
def wth (d u r : Nat) : Bool :=
  match double.sub one d, double.add one u with
  | some a, some b => le a r && le r b
  | _, _ => false

theorem sub_one {d : Nat} (h : fine (double.read d)) : ∃ a, double.sub one d = some a ∧ fine (double.read a) ∧ dval (double.read a) = plusV (double.read d).opposite :=
  plus_fine _ (opp_fine _ h).1
theorem add_one {u : Nat} (h : fine (double.read u)) : ∃ b, double.add one u = some b ∧ fine (double.read b) ∧ dval (double.read b) = plusV (double.read u) :=
  plus_fine _ h

/-- 'within' by values. -/
theorem wth_iff {d u r : Nat} (hd : fine (double.read d)) (hu : fine (double.read u)) (hr : fine (double.read r)) :
    wth d u r = true ↔ plusV (double.read d).opposite ≤ dval (double.read r) ∧ dval (double.read r) ≤ plusV (double.read u) := by
  obtain ⟨a, e1, f1, v1⟩ := sub_one hd
  obtain ⟨b, e2, f2, v2⟩ := add_one hu
  unfold wth
  rw [e1, e2]
  simp only [Bool.and_eq_true]
  rw [le_iff f1 hr, le_iff hr f2, v1, v2]

theorem minus_inf : plusV (double.read inf).opposite = -(infVal : Int) := by rw [read_inf]; rfl
theorem plus_inf : plusV (double.read inf) = (infVal : Int) := by rw [read_inf]; rfl

/-- THE FIRST LAW. -/
theorem sides {d u r d2 u2 : Nat} (hd : fine (double.read d)) (hu : fine (double.read u)) (hr : fine (double.read r)) (hd2 : fine (double.read d2)) (hu2 : fine (double.read u2))
    (l1 : (double.order d2 d == some .lt) = false) (l2 : (double.order u2 u == some .lt) = false) :
    wth inf inf r = true ∧ wth d u r = (wth d inf r && wth inf u r) ∧ (wth d u r = true → wth d2 u2 r = true) := by
  have br := dval_bound hr
  have m1 : dval (double.read d) ≤ dval (double.read d2) := by
    have := lt_iff hd2 hd
    rw [l1] at this
    simp at this; omega
  have m2 : dval (double.read u) ≤ dval (double.read u2) := by
    have := lt_iff hu2 hu
    rw [l2] at this
    simp at this; omega
  refine ⟨?_, ?_, ?_⟩
  · rw [wth_iff fine_inf fine_inf hr, minus_inf, plus_inf]; exact br
  · rw [Bool.eq_iff_iff, Bool.and_eq_true, wth_iff hd hu hr, wth_iff hd fine_inf hr, wth_iff fine_inf hu hr, minus_inf, plus_inf]
    constructor
    · intro h; exact ⟨⟨h.1, br.2⟩, br.1, h.2⟩
    · intro h; exact ⟨h.1.1, h.2.2⟩
  · rw [wth_iff hd hu hr, wth_iff hd2 hu2 hr]
    intro h
    have p1 := plusV_mono (opp_fine _ hd2).1 (opp_fine _ hd).1 (by rw [(opp_fine _ hd).2, (opp_fine _ hd2).2]; omega)
    have p2 := plusV_mono hu hu2 m2
    omega

/-- Zero accepts 1 alone. -/
theorem zero_is_one {r : Nat} (hr : fine (double.read r)) : wth 0 0 r = (double.order r one == some .eq) := by
  have e0 : double.read 0 = .number false 0 (-1074) := by decide +kernel
  have f0 : fine (double.read 0) := by rw [e0]; exact fine_zero
  have e1 : plusV (double.read 0) = dval (double.read one) := by rw [e0]; exact plusV_zero
  have e2 : plusV (double.read 0).opposite = dval (double.read one) := by
    have v0 : dval (double.read 0) = 0 := by rw [e0, dval_zero]
    have v1 : dval (double.read 0).opposite = 0 := by rw [(opp_fine _ f0).2, v0]; rfl
    have a := plusV_mono (opp_fine _ f0).1 f0 (by omega)
    have b := plusV_mono f0 (opp_fine _ f0).1 (by omega)
    omega
  rw [Bool.eq_iff_iff, wth_iff f0 f0 hr, eq_iff hr fine_one, e1, e2]
  omega

/-- A tolerance that is not negative accepts 1. -/
theorem target {d u : Nat} (hd : fine (double.read d)) (hu : fine (double.read u)) (l1 : (double.order d 0 == some .lt) = false) (l2 : (double.order u 0 == some .lt) = false) : wth d u one = true := by
  have e0 : double.read 0 = .number false 0 (-1074) := by decide +kernel
  have f0 : fine (double.read 0) := by rw [e0]; exact fine_zero
  have m1 : 0 ≤ dval (double.read d) := by
    have := lt_iff hd f0
    rw [l1, e0, dval_zero] at this
    simp at this; omega
  have m2 : 0 ≤ dval (double.read u) := by
    have := lt_iff hu f0
    rw [l2, e0, dval_zero] at this
    simp at this; omega
  rw [wth_iff hd hu fine_one]
  have a := plusV_mono (opp_fine _ hd).1 fine_zero (by rw [(opp_fine _ hd).2, dval_zero]; omega)
  have b := plusV_mono fine_zero hu (by rw [dval_zero]; omega)
  rw [plusV_zero] at a b
  exact ⟨a, b⟩

/-- What is accepted is an interval. -/
theorem convex {d u a b c : Nat} (hd : fine (double.read d)) (hu : fine (double.read u)) (ha : fine (double.read a)) (hb : fine (double.read b)) (hc : fine (double.read c))
    (l1 : (double.order a b == some .gt) = false) (l2 : (double.order b c == some .gt) = false) (h1 : wth d u a = true) (h2 : wth d u c = true) : wth d u b = true := by
  have gt_iff : ∀ {x y : Nat}, fine (double.read x) → fine (double.read y) → (double.order x y == some .gt) = false → dval (double.read x) ≤ dval (double.read y) := by
    intro x y hx hy h
    unfold Format.order at h
    rw [order_fine hx hy, compare_int] at h
    by_cases h' : dval (double.read x) < dval (double.read y)
    · omega
    · rw [if_neg h'] at h
      by_cases e : dval (double.read x) = dval (double.read y)
      · omega
      · rw [if_neg e] at h; simp at h
  have g1 := gt_iff ha hb l1
  have g2 := gt_iff hb hc l2
  rw [wth_iff hd hu ha] at h1
  rw [wth_iff hd hu hc] at h2
  rw [wth_iff hd hu hb]
  omega
end Go.Proofs.Qxb6616058aMods.Fl
