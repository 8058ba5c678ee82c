/-
  PLAIN MATHEMATICS OF float64, over the model's own core (Ieee): no Go in sight.
  The value of a word in units of the least subnormal number, an infinity as a number beyond all of them; the order of two words is the order of their values; rounding is monotone; so 1 + u and 1 - d are monotone.
-/
import Ieee.Arith
namespace Go.Proofs.Qxb6616058aMods.Fl
open Ieee

def bigE : Nat := 2100
def topE : Nat := 2045
/-- The value of an infinity: beyond every finite number. -/
def infVal : Nat := 2 ^ bigE
theorem infVal_pos : 0 < infVal := Nat.two_pow_pos _
/-- Every finite number has at most 53 digits and at most 2045 places behind them. -/
theorem infVal_big (k : Nat) (h : k ≤ topE) : 9007199254740992 * 2 ^ k ≤ infVal := by
  have e : (9007199254740992 : Nat) = 2 ^ 53 := by decide
  rw [e, ← Nat.pow_add]
  exact Nat.pow_le_pow_right (by omega) (by unfold topE at h; unfold bigE; omega)

theorem binade_d : double.binade = 4503599627370496 := by decide +kernel
theorem infRung_d : double.infRung = 9218868437227405312 := by decide +kernel
theorem signWeight_d : double.signWeight = 9223372036854775808 := by decide +kernel
theorem leastPlace_d : double.leastPlace = -1074 := by decide +kernel
theorem fractionBits_d : double.fractionBits = 52 := rfl

/-- The value of a datum, in units of 2 ^ -1074. -/
def dval : Datum → Int
  | .number s m e => signed s m (e + 1074).toNat
  | .infinity s => if s then -(infVal : Int) else infVal
  | .nan .. => 0

/-- What a word that is no NaN stands for. -/
def fine : Datum → Prop
  | .number _ m e => -1074 ≤ e ∧ m * 2 ^ (e + 1074).toNat < infVal
  | .infinity _ => True
  | .nan .. => False

theorem signed_eq (s : Bool) (m u : Nat) : signed s m u = if s then -((m * 2 ^ u : Nat) : Int) else ((m * 2 ^ u : Nat) : Int) := by
  unfold signed
  rw [Nat.shiftLeft_eq]

theorem signed_scale (s : Bool) (m u k : Nat) : signed s m (u + k) = signed s m u * ((2 ^ k : Nat) : Int) := by
  rw [signed_eq, signed_eq, Nat.pow_add, ← Nat.mul_assoc]
  cases s <;> simp [Int.natCast_mul, Int.neg_mul]

theorem compare_int (x y : Int) : compare x y = if x < y then .lt else if x = y then .eq else .gt := rfl

theorem compare_scale (x y : Int) (k : Nat) : compare (x * ((2 ^ k : Nat) : Int)) (y * ((2 ^ k : Nat) : Int)) = compare x y := by
  have hp : (0 : Int) < ((2 ^ k : Nat) : Int) := by have := Nat.two_pow_pos k; omega
  rw [compare_int, compare_int]
  by_cases h : x < y
  · rw [if_pos h, if_pos (Int.mul_lt_mul_of_pos_right h hp)]
  · rw [if_neg h, if_neg (fun h' => h (Int.lt_of_mul_lt_mul_right h' (Int.le_of_lt hp)))]
    by_cases e : x = y
    · subst e; simp
    · rw [if_neg e, if_neg (fun h' => e (Int.eq_of_mul_eq_mul_right (by omega) h'))]

theorem dval_number (s : Bool) (m : Nat) (e : Int) : dval (.number s m e) = if s then -((m * 2 ^ (e + 1074).toNat : Nat) : Int) else ((m * 2 ^ (e + 1074).toNat : Nat) : Int) := signed_eq s m _
theorem dval_inf (s : Bool) : dval (.infinity s) = if s then -(infVal : Int) else infVal := rfl

theorem dval_lt {s : Bool} {m : Nat} {e : Int} (h : fine (.number s m e)) : -(infVal : Int) < dval (.number s m e) ∧ dval (.number s m e) < infVal := by
  have h2 : m * 2 ^ (e + 1074).toNat < infVal := h.2
  rw [dval_number]
  generalize m * 2 ^ (e + 1074).toNat = v at h2
  generalize infVal = I at *
  cases s <;> simp <;> omega

theorem dval_bound {d : Datum} (h : fine d) : -(infVal : Int) ≤ dval d ∧ dval d ≤ infVal := by
  have hp := infVal_pos
  cases d with
  | number s m e => have := dval_lt h; omega
  | infinity s => rw [dval_inf]; cases s <;> simp <;> omega
  | nan s f => exact h.elim

theorem compare_lt {x y : Int} (h : x < y) : compare x y = .lt := by rw [compare_int, if_pos h]
theorem compare_gt {x y : Int} (h : y < x) : compare x y = .gt := by rw [compare_int, if_neg (Int.not_lt.2 (Int.le_of_lt h)), if_neg (Ne.symm (Int.ne_of_lt h))]
theorem compare_eq (x : Int) : compare x x = .eq := by rw [compare_int, if_neg (Int.lt_irrefl x), if_pos rfl]

theorem order_fine {a b : Datum} (ha : fine a) (hb : fine b) : a.order b = some (compare (dval a) (dval b)) := by
  have hi := infVal_pos
  cases a with
  | nan s f => exact ha.elim
  | infinity s =>
    cases b with
    | nan t f => exact hb.elim
    | infinity t =>
      rw [dval_inf, dval_inf]
      cases s <;> cases t
      · simp only [Bool.false_eq_true, if_false, compare_eq]; rfl
      · simp only [Bool.false_eq_true, if_false, if_true]; rw [compare_gt (by omega)]; rfl
      · simp only [Bool.false_eq_true, if_false, if_true]; rw [compare_lt (by omega)]; rfl
      · simp only [if_true, compare_eq]; rfl
    | number t n j =>
      have := dval_lt hb
      rw [dval_inf]
      cases s
      · simp only [Bool.false_eq_true, if_false]; rw [compare_gt this.2]; rfl
      · simp only [if_true]; rw [compare_lt this.1]; rfl
  | number s m i =>
    cases b with
    | nan t f => exact hb.elim
    | infinity t =>
      have := dval_lt ha
      rw [dval_inf]
      cases t
      · simp only [Bool.false_eq_true, if_false]; rw [compare_lt this.2]; rfl
      · simp only [if_true]; rw [compare_gt this.1]; rfl
    | number t n j =>
      have h1 : -1074 ≤ i := ha.1
      have h2 : -1074 ≤ j := hb.1
      have e1 : (i + 1074).toNat = (i - min i j).toNat + (min i j + 1074).toNat := by omega
      have e2 : (j + 1074).toNat = (j - min i j).toNat + (min i j + 1074).toNat := by omega
      show some (compare (signed s m (i - min i j).toNat) (signed t n (j - min i j).toNat)) = some (compare (signed s m (i + 1074).toNat) (signed t n (j + 1074).toNat))
      rw [e1, e2, signed_scale, signed_scale, compare_scale]

/-! ### Reading a word -/
theorem read_fine (x : Nat) (h : (double.read x).isNaN = false) : fine (double.read x) := by
  unfold Format.read at h ⊢
  simp only [binade_d, infRung_d, signWeight_d, leastPlace_d] at h ⊢
  generalize (x / 9223372036854775808 % 2 == 1) = ng at h ⊢
  generalize x % 9223372036854775808 = r at h ⊢
  by_cases h1 : r < 4503599627370496
  · rw [if_pos h1]
    refine ⟨by omega, ?_⟩
    have := infVal_big 0 (by unfold topE; omega)
    simp at this ⊢
    omega
  · rw [if_neg h1] at h ⊢
    by_cases h2 : r < 9218868437227405312
    · rw [if_pos h2]
      refine ⟨by omega, ?_⟩
      have e : (-1074 + ((r / 4503599627370496 - 1 : Nat) : Int) + 1074).toNat = r / 4503599627370496 - 1 := by omega
      rw [e]
      have hk : r / 4503599627370496 - 1 ≤ topE := by unfold topE; omega
      refine Nat.lt_of_lt_of_le ?_ (infVal_big _ hk)
      exact Nat.mul_lt_mul_of_pos_right (by omega) (Nat.two_pow_pos _)
    · rw [if_neg h2] at h ⊢
      by_cases h3 : r = 9218868437227405312
      · rw [if_pos h3]; trivial
      · rw [if_neg h3] at h; simp [Datum.isNaN] at h

theorem fine_or_nan (x : Nat) : fine (double.read x) ∨ (double.read x).isNaN = true := by
  cases h : (double.read x).isNaN
  · exact .inl (read_fine x h)
  · exact .inr rfl

theorem order_nan {a b : Datum} (h : a.isNaN = true) : a.order b = none := by
  cases a with
  | nan s f => cases b <;> rfl
  | number s m e => simp [Datum.isNaN] at h
  | infinity s => simp [Datum.isNaN] at h

/-- 'x != x' is false: x is no NaN. -/
theorem fine_of_self {x : Nat} (h : (double.order x x != some .eq) = false) : fine (double.read x) := by
  rcases fine_or_nan x with h' | h'
  · exact h'
  · unfold Format.order at h
    rw [order_nan h'] at h
    simp at h

theorem self_of_fine {x : Nat} (h : fine (double.read x)) : (double.order x x != some .eq) = false := by
  unfold Format.order
  rw [order_fine h h, compare_eq]; rfl
end Go.Proofs.Qxb6616058aMods.Fl
