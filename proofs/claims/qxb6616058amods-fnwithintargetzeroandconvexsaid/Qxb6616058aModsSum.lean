/-
  PLAIN MATHEMATICS OF float64: 1 + u and 1 - d: never a NaN where u, d are none; monotone.
-/
import Derived.Test.Qxb6616058aModsRound
namespace Go.Proofs.Qxb6616058aMods.Fl
open Ieee

theorem rungOf_zero : rungOf 0 = 0 := by decide +kernel

theorem log2_shift (m t : Nat) (h : m ≠ 0) : (m * 2 ^ t).log2 = m.log2 + t := by
  have hp : m * 2 ^ t ≠ 0 := Nat.mul_ne_zero h (Nat.ne_of_gt (Nat.two_pow_pos t))
  refine Nat.le_antisymm ?_ ?_
  · have h1 : m * 2 ^ t < 2 ^ (m.log2 + t + 1) := by
      have := Nat.lt_log2_self (n := m)
      have e : (2 : Nat) ^ (m.log2 + t + 1) = 2 ^ (m.log2 + 1) * 2 ^ t := by rw [← Nat.pow_add]; congr 1; omega
      rw [e]
      exact Nat.mul_lt_mul_of_pos_right this (Nat.two_pow_pos t)
    have := (Nat.log2_lt hp).2 h1
    omega
  · refine (Nat.le_log2 hp).2 ?_
    rw [Nat.pow_add]
    exact Nat.mul_le_mul_right _ (Nat.log2_self_le h)

/-- What the model cuts, where no more digits are dropped than there are. -/
theorem cut_even (ng : Bool) (n d : Nat) (h : d ≤ n.log2 + 2) : Toward.even.cut ng n d = rne n (2 ^ d) := by
  unfold Toward.cut
  have e : min d (n.log2 + 2) = d := by omega
  simp only [e, Nat.one_shiftLeft]
  unfold rne
  congr 1
  by_cases h1 : 2 ^ d < 2 * (n % 2 ^ d)
  · simp [h1]
  · by_cases h2 : 2 ^ d = 2 * (n % 2 ^ d) ∧ n / 2 ^ d % 2 = 1
    · rw [if_pos (.inr h2)]
      simp [← h2.1, h2.2]
    · rw [if_neg (fun h3 => h3.elim h1 h2)]
      have h1' : decide (2 ^ d < 2 * (n % 2 ^ d)) = false := by simpa using h1
      rw [h1', Bool.false_or]
      by_cases h3 : 2 ^ d = 2 * (n % 2 ^ d)
      · have h4 : ¬ n / 2 ^ d % 2 = 1 := fun h4 => h2 ⟨h3, h4⟩
        have h5 : (n / 2 ^ d % 2 == 1) = false := by simpa using h4
        rw [h5, Bool.and_false]; rfl
      · have h5 : (2 ^ d == 2 * (n % 2 ^ d)) = false := by simpa using h3
        rw [h5, Bool.false_and]; rfl

theorem rne_exact (n k : Nat) : rne (n * 2 ^ k) (2 ^ k) = n := by
  unfold rne
  rw [Nat.mul_div_cancel _ (Nat.two_pow_pos k), Nat.mul_mod_left]
  have := Nat.two_pow_pos k
  rw [if_neg (by omega)]
  rfl

theorem rne_scale (n a t : Nat) : rne (n * 2 ^ t) (2 ^ (a + t)) = rne n (2 ^ a) := by
  unfold rne
  have hp := Nat.two_pow_pos t
  rw [Nat.pow_add, Nat.mul_div_mul_right _ _ hp, Nat.mul_mod_mul_right]
  have e1 : 2 * (n % 2 ^ a * 2 ^ t) = 2 * (n % 2 ^ a) * 2 ^ t := by rw [Nat.mul_assoc]
  rw [e1]
  congr 1
  have i1 : 2 ^ a * 2 ^ t < 2 * (n % 2 ^ a) * 2 ^ t ↔ 2 ^ a < 2 * (n % 2 ^ a) := Nat.mul_lt_mul_right hp
  have i2 : 2 ^ a * 2 ^ t = 2 * (n % 2 ^ a) * 2 ^ t ↔ 2 ^ a = 2 * (n % 2 ^ a) := Nat.mul_right_cancel_iff hp
  simp only [i1, i2]

/-- The model's own rounding, at a place not below the least one. -/
theorem nearest_eq (ng : Bool) (m : Nat) (place : Int) (h : -1074 ≤ place) : double.nearest ng m place = double.word ng (rungOf (m * 2 ^ (place + 1074).toNat)) := by
  unfold Format.nearest
  by_cases h0 : m = 0
  · rw [if_pos h0, h0, Nat.zero_mul, rungOf_zero]
  rw [if_neg h0]
  obtain ⟨t, rfl⟩ : ∃ t : Nat, place = (t : Int) - 1074 := ⟨(place + 1074).toNat, by omega⟩
  have et : ((t : Int) - 1074 + 1074).toNat = t := by omega
  rw [et]
  simp only [binade_d, infRung_d, leastPlace_d, fractionBits_d]
  unfold rungOf
  rw [log2_shift m t h0]
  have e1 : (max ((t : Int) - 1074 + (m.log2 : Int) - ((52 : Nat) : Int)) (-1074) - -1074).toNat = m.log2 + t - 52 := by omega
  have e2 : ((t : Int) - 1074 - max ((t : Int) - 1074 + (m.log2 : Int) - ((52 : Nat) : Int)) (-1074)).toNat = t - (m.log2 + t - 52) := by omega
  have e3 : (max ((t : Int) - 1074 + (m.log2 : Int) - ((52 : Nat) : Int)) (-1074) - ((t : Int) - 1074)).toNat = (m.log2 + t - 52) - t := by omega
  rw [e1, e2, e3, Nat.shiftLeft_eq]
  have key : Toward.even.cut ng (m * 2 ^ (t - (m.log2 + t - 52))) (m.log2 + t - 52 - t) = rne (m * 2 ^ t) (2 ^ (m.log2 + t - 52)) := by
    by_cases hle : m.log2 + t - 52 ≤ t
    · have e4 : m.log2 + t - 52 - t = 0 := by omega
      rw [e4, cut_even _ _ _ (by omega)]
      have e5 : m * 2 ^ t = m * 2 ^ (t - (m.log2 + t - 52)) * 2 ^ (m.log2 + t - 52) := by
        rw [Nat.mul_assoc, ← Nat.pow_add]; congr 2; omega
      rw [e5, rne_exact]
      have := rne_exact (m * 2 ^ (t - (m.log2 + t - 52))) 0
      rwa [Nat.pow_zero, Nat.mul_one] at this
    · have e4 : t - (m.log2 + t - 52) = 0 := by omega
      rw [e4, Nat.pow_zero, Nat.mul_one, cut_even _ _ _ (by omega)]
      have e5 : m.log2 + t - 52 = (m.log2 + t - 52 - t) + t := by omega
      conv => rhs; rw [e5]
      rw [rne_scale]
  rw [key]

/-- The value to which v units are rounded. -/
def rnd (v : Int) : Int := if v < 0 then -(magOf (rungOf v.natAbs) : Int) else magOf (rungOf v.natAbs)

theorem rnd_mono {v v' : Int} (h : v ≤ v') : rnd v ≤ rnd v' := by
  unfold rnd
  by_cases h1 : v < 0
  · rw [if_pos h1]
    by_cases h2 : v' < 0
    · rw [if_pos h2]
      have := magOf_mono (rungOf_mono (show v'.natAbs ≤ v.natAbs by omega))
      omega
    · rw [if_neg h2]; omega
  · rw [if_neg h1, if_neg (by omega)]
    have := magOf_mono (rungOf_mono (show v.natAbs ≤ v'.natAbs by omega))
    omega

theorem rnd_bound (v : Int) : -(infVal : Int) ≤ rnd v ∧ rnd v ≤ infVal := by
  unfold rnd
  have := magOf_le (rungOf v.natAbs)
  split <;> omega

theorem magOf_zero : magOf 0 = 0 := rfl

/-- A number written: its value is rounded. -/
theorem write_number (ng : Bool) (m : Nat) (place : Int) (h : -1074 ≤ place) (v : Int) (hv : v.natAbs = m * 2 ^ (place + 1074).toNat) (hn : v ≠ 0 → ng = decide (v < 0)) :
    fine (double.read (double.write (.number ng m place))) ∧ dval (double.read (double.write (.number ng m place))) = rnd v := by
  have e : double.write (.number ng m place) = double.word ng (rungOf v.natAbs) := by
    rw [hv]; exact nearest_eq ng m place h
  rw [e]
  obtain ⟨h1, h2⟩ := read_word ng (rungOf v.natAbs) (rungOf_le _)
  refine ⟨h1, ?_⟩
  rw [h2]
  unfold rnd
  by_cases h0 : v = 0
  · subst h0
    rw [show (0 : Int).natAbs = 0 from rfl, rungOf_zero, magOf_zero]
    cases ng <;> rfl
  · rw [hn h0]
    by_cases hlt : v < 0
    · rw [if_pos hlt]; simp [hlt]
    · rw [if_neg hlt]; simp [hlt]

theorem write_inf (s : Bool) : fine (double.read (double.write (.infinity s))) ∧ dval (double.read (double.write (.infinity s))) = dval (.infinity s) := by
  have e : double.write (.infinity s) = double.word s 9218868437227405312 := by
    show double.word s double.infRung = _
    rw [infRung_d]
  rw [e]
  obtain ⟨h1, h2⟩ := read_word s 9218868437227405312 (Nat.le_refl _)
  exact ⟨h1, h2⟩

/-- The sum of two numbers, written. -/
theorem sum_number (s t : Bool) (m n : Nat) (i j : Int) (hi : -1074 ≤ i) (hj : -1074 ≤ j) :
    ∃ r, ((Datum.number s m i).sum (.number t n j)).map double.write = some r ∧ fine (double.read r) ∧ dval (double.read r) = rnd (dval (.number s m i) + dval (.number t n j)) := by
  have e1 : (i + 1074).toNat = (i - min i j).toNat + (min i j + 1074).toNat := by omega
  have e2 : (j + 1074).toNat = (j - min i j).toNat + (min i j + 1074).toNat := by omega
  have hd : dval (.number s m i) + dval (.number t n j) = (signed s m (i - min i j).toNat + signed t n (j - min i j).toNat) * ((2 ^ (min i j + 1074).toNat : Nat) : Int) := by
    show signed s m (i + 1074).toNat + signed t n (j + 1074).toNat = _
    rw [e1, e2, signed_scale, signed_scale, Int.add_mul]
  rw [hd]
  show ∃ r, some (double.write (.number (if signed s m (i - min i j).toNat + signed t n (j - min i j).toNat = 0 then s && t else decide (signed s m (i - min i j).toNat + signed t n (j - min i j).toNat < 0)) (signed s m (i - min i j).toNat + signed t n (j - min i j).toNat).natAbs (min i j))) = some r ∧ _
  generalize signed s m (i - min i j).toNat + signed t n (j - min i j).toNat = T
  refine ⟨_, rfl, write_number _ _ _ (by omega) _ ?_ ?_⟩
  · rw [Int.natAbs_mul]; rfl
  · intro hne
    have hp : (0 : Int) < ((2 ^ (min i j + 1074).toNat : Nat) : Int) := by have := Nat.two_pow_pos (min i j + 1074).toNat; omega
    have hT : T ≠ 0 := fun h => hne (by rw [h, Int.zero_mul])
    rw [if_neg hT]
    congr 1
    apply propext
    constructor
    · intro h; exact Int.mul_neg_of_neg_of_pos h hp
    · intro h
      apply Int.not_le.1
      intro h'
      have := Int.mul_nonneg h' (Int.le_of_lt hp)
      omega
end Go.Proofs.Qxb6616058aMods.Fl
