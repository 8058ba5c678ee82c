/-
  PLAIN MATHEMATICS OF float64: rounding to the nearest is monotone.
-/
import Derived.Test.Qxb6616058aModsFloat
namespace Go.Proofs.Qxb6616058aMods.Fl
open Ieee

/-! ### The magnitude of a rung -/
/-- The value of the magnitude number r, in units of the least one. -/
def magOf (r : Nat) : Nat := if r < 4503599627370496 then r else if r < 9218868437227405312 then (4503599627370496 + r % 4503599627370496) * 2 ^ (r / 4503599627370496 - 1) else infVal

theorem magOf_le (r : Nat) : magOf r ≤ infVal := by
  unfold magOf
  split
  · have := infVal_big 0 (by unfold topE; omega)
    simp at this
    omega
  · split
    · have hk : r / 4503599627370496 - 1 ≤ topE := by unfold topE; omega
      refine Nat.le_trans ?_ (infVal_big _ hk)
      exact Nat.mul_le_mul_right _ (by omega)
    · exact Nat.le_refl _

theorem magOf_mono {r r' : Nat} (h : r ≤ r') : magOf r ≤ magOf r' := by
  by_cases h3 : r' < 9218868437227405312
  · by_cases h1 : r < 4503599627370496
    · by_cases h2 : r' < 4503599627370496
      · simp only [magOf, if_pos h1, if_pos h2]; exact h
      · simp only [magOf, if_pos h1, if_neg h2, if_pos h3]
        have := Nat.mul_le_mul (show r ≤ 4503599627370496 + r' % 4503599627370496 by omega) (Nat.two_pow_pos (r' / 4503599627370496 - 1))
        rw [Nat.mul_one] at this
        exact this
    · have h2 : ¬ r' < 4503599627370496 := by omega
      have h4 : r < 9218868437227405312 := by omega
      simp only [magOf, if_neg h1, if_neg h2, if_pos h3, if_pos h4]
      by_cases hq : r / 4503599627370496 = r' / 4503599627370496
      · rw [hq]
        exact Nat.mul_le_mul_right _ (by omega)
      · have hlt : r / 4503599627370496 < r' / 4503599627370496 := by omega
        have e : r' / 4503599627370496 - 1 = (r / 4503599627370496 - 1) + (r' / 4503599627370496 - r / 4503599627370496) := by omega
        have hp : 2 ≤ 2 ^ (r' / 4503599627370496 - r / 4503599627370496) := by
          have := Nat.pow_le_pow_right (n := 2) (by omega) (show 1 ≤ r' / 4503599627370496 - r / 4503599627370496 by omega)
          simpa using this
        rw [e, Nat.pow_add]
        generalize 2 ^ (r / 4503599627370496 - 1) = A
        generalize 2 ^ (r' / 4503599627370496 - r / 4503599627370496) = C at hp
        calc (4503599627370496 + r % 4503599627370496) * A ≤ (4503599627370496 * 2) * A := Nat.mul_le_mul_right _ (by omega)
          _ = 4503599627370496 * (A * 2) := by rw [Nat.mul_assoc, Nat.mul_comm 2 A]
          _ ≤ (4503599627370496 + r' % 4503599627370496) * (A * C) := Nat.mul_le_mul (by omega) (Nat.mul_le_mul_left _ hp)
  · have e : magOf r' = infVal := by simp only [magOf, if_neg h3, if_neg (show ¬ r' < 4503599627370496 by omega)]
    rw [e]
    exact magOf_le r

/-- A word read back. -/
theorem read_word (ng : Bool) (r : Nat) (h : r ≤ 9218868437227405312) :
    fine (double.read (double.word ng r)) ∧ dval (double.read (double.word ng r)) = if ng then -(magOf r : Int) else magOf r := by
  have e1 : (double.word ng r / 9223372036854775808 % 2 == 1) = ng := by
    unfold Format.word
    rw [signWeight_d]
    cases ng
    · simp; omega
    · simp; omega
  have e2 : double.word ng r % 9223372036854775808 = r := by
    unfold Format.word
    rw [signWeight_d]
    cases ng
    · simp; omega
    · simp; omega
  have e3 : double.read (double.word ng r) = if r < 4503599627370496 then .number ng r (-1074) else if r < 9218868437227405312 then .number ng (4503599627370496 + r % 4503599627370496) (-1074 + ((r / 4503599627370496 - 1 : Nat) : Int)) else .infinity ng := by
    unfold Format.read
    simp only [binade_d, infRung_d, signWeight_d, leastPlace_d, e1, e2]
    by_cases h1 : r < 4503599627370496
    · rw [if_pos h1, if_pos h1]
    · rw [if_neg h1, if_neg h1]
      by_cases h2 : r < 9218868437227405312
      · rw [if_pos h2, if_pos h2]
      · rw [if_neg h2, if_neg h2, if_pos (by omega)]
  refine ⟨read_fine _ ?_, ?_⟩
  · rw [e3]; split
    · rfl
    · split <;> rfl
  · rw [e3]
    unfold magOf
    by_cases h1 : r < 4503599627370496
    · rw [if_pos h1, if_pos h1, dval_number]
      simp
    · rw [if_neg h1, if_neg h1]
      by_cases h2 : r < 9218868437227405312
      · rw [if_pos h2, if_pos h2, dval_number]
        have e : (-1074 + ((r / 4503599627370496 - 1 : Nat) : Int) + 1074).toNat = r / 4503599627370496 - 1 := by omega
        rw [e]
      · rw [if_neg h2, if_neg h2, dval_inf]

/-! ### Rounding a whole number of units -/
/-- n / g to the nearest, ties to even. -/
def rne (n g : Nat) : Nat := n / g + (if g < 2 * (n % g) ∨ (g = 2 * (n % g) ∧ n / g % 2 = 1) then 1 else 0)

theorem rne_le (n g : Nat) : rne n g ≤ n / g + 1 := by unfold rne; split <;> omega
theorem le_rne (n g : Nat) : n / g ≤ rne n g := by unfold rne; omega

theorem rne_mono {n n' g : Nat} (h : n ≤ n') : rne n g ≤ rne n' g := by
  have hq : n / g ≤ n' / g := Nat.div_le_div_right h
  by_cases he : n / g = n' / g
  · have hr : n % g ≤ n' % g := by
      have h1 := Nat.div_add_mod n g
      have h2 := Nat.div_add_mod n' g
      rw [he] at h1
      omega
    unfold rne
    rw [he]
    generalize n' / g = q
    generalize n % g = a at *
    generalize n' % g = b at *
    split <;> split <;> omega
  · have := rne_le n g
    have := le_rne n' g
    omega

/-- The rung to which V units are rounded. -/
def rungOf (V : Nat) : Nat := min ((V.log2 - 52) * 4503599627370496 + rne V (2 ^ (V.log2 - 52))) 9218868437227405312

theorem rungOf_le (V : Nat) : rungOf V ≤ 9218868437227405312 := Nat.min_le_right _ _

theorem p53 (e : Nat) : (2 : Nat) ^ (e + 53) = 9007199254740992 * 2 ^ e := by
  rw [Nat.pow_add, Nat.mul_comm]
theorem p52 (e : Nat) : (2 : Nat) ^ (e + 52) = 4503599627370496 * 2 ^ e := by
  rw [Nat.pow_add, Nat.mul_comm]

theorem kept_le (V : Nat) : rne V (2 ^ (V.log2 - 52)) ≤ 9007199254740992 := by
  have hlt : V < 2 ^ (V.log2 - 52 + 53) := by
    refine Nat.lt_of_lt_of_le (Nat.lt_log2_self (n := V)) (Nat.pow_le_pow_right (by omega) (by omega))
  rw [p53] at hlt
  have : V / 2 ^ (V.log2 - 52) < 9007199254740992 := (Nat.div_lt_iff_lt_mul (Nat.two_pow_pos _)).2 hlt
  have := rne_le V (2 ^ (V.log2 - 52))
  omega

theorem kept_ge (V : Nat) (h : 52 ≤ V.log2) : 4503599627370496 ≤ rne V (2 ^ (V.log2 - 52)) := by
  have hne : V ≠ 0 := by intro h0; subst h0; simp at h
  have hge : 2 ^ (V.log2 - 52 + 52) ≤ V := by
    have e : V.log2 - 52 + 52 = V.log2 := by omega
    rw [e]
    exact Nat.log2_self_le hne
  rw [p52] at hge
  have : 4503599627370496 ≤ V / 2 ^ (V.log2 - 52) := (Nat.le_div_iff_mul_le (Nat.two_pow_pos _)).2 hge
  have := le_rne V (2 ^ (V.log2 - 52))
  omega

theorem log2_mono {a b : Nat} (h : a ≤ b) : a.log2 ≤ b.log2 := by
  by_cases h0 : a = 0
  · subst h0; simp
  · have hb : b ≠ 0 := by omega
    exact (Nat.le_log2 hb).2 (Nat.le_trans (Nat.log2_self_le h0) h)

theorem rungOf_mono {V V' : Nat} (h : V ≤ V') : rungOf V ≤ rungOf V' := by
  have hl := log2_mono h
  have key : (V.log2 - 52) * 4503599627370496 + rne V (2 ^ (V.log2 - 52)) ≤ (V'.log2 - 52) * 4503599627370496 + rne V' (2 ^ (V'.log2 - 52)) := by
    by_cases he : V.log2 - 52 = V'.log2 - 52
    · rw [← he]
      exact Nat.add_le_add_left (rne_mono h) _
    · have h1 := kept_le V
      have h2 := kept_ge V' (by omega)
      generalize rne V (2 ^ (V.log2 - 52)) = A at *
      generalize rne V' (2 ^ (V'.log2 - 52)) = B at *
      omega
  unfold rungOf
  omega
end Go.Proofs.Qxb6616058aMods.Fl
