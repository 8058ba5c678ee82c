/-
  The contracts of within (13) and ZZwithin (9).
-/
import Derived.Test.Qxb6616058aModsRows
import Derived.Test.Qxb6616058aModsWithin
import Derived.WalkKit
import Derived.ProofKit
import Derived.OpenShut
import Derived.WalkLawsBesides
import Derived.Laws.FloatArith
namespace Go.Proofs.Qxb6616058aMods
open Go.ChangeShapes Go.WideShapes Go.ChangeAt Go.RowKit

theorem run_sub (d a : Nat) (h : Ieee.double.sub Fl.one d = some a) (w : World) : (binOp .sub 22 (.float .f64 4607182418800017408) (.float .f64 d)).run Trym.prog w = .ok (.float .f64 a) w :=
  run_float_arith w .sub 22 .f64 _ _ a h
theorem run_add (d a : Nat) (h : Ieee.double.add Fl.one d = some a) (w : World) : (binOp .add 22 (.float .f64 4607182418800017408) (.float .f64 d)).run Trym.prog w = .ok (.float .f64 a) w :=
  run_float_arith w .add 22 .f64 _ _ a h

theorem le_false {a r : Nat} (h : ¬ (FloatKind.f64.format.order a r = some Ordering.lt ∨ FloatKind.f64.format.order a r = some Ordering.eq)) : Fl.le a r = false := by
  have h1 : Ieee.double.order a r ≠ some Ordering.lt := fun e => h (.inl e)
  have h2 : Ieee.double.order a r ≠ some Ordering.eq := fun e => h (.inr e)
  unfold Fl.le
  simp [h1, h2]

theorem within_ab (d u r a b : Nat) (w : World) (ha : Ieee.double.sub Fl.one d = some a) (hb : Ieee.double.add Fl.one u = some b) :
    Calls Trym.prog 9 #[.float .f64 d, .float .f64 u, .float .f64 r] w fun e w' => e = .returned (.bool (Fl.le a r && Fl.le r b)) ∧ Grown w w' := by
  have h1 := run_sub d a ha
  have h2 := run_add u b hb
  clear ha hb
  go_enter Trym.func9, Trym.ntmps9
  go_wp2
  · go_ret
    exact ⟨rfl, (Grown.refl _).alloc _ _⟩
  · rename_i hn
    have hf : Fl.le a r = false := le_false hn
    go_ret
    exact ⟨by rw [hf]; rfl, (Grown.refl _).alloc _ _⟩

/-- ZZwithin, of numbers that are no NaN. -/
theorem within_law (d u r : Nat) (w : World) (hd : Fl.fine (Ieee.double.read d)) (hu : Fl.fine (Ieee.double.read u)) :
    Calls Trym.prog 9 #[.float .f64 d, .float .f64 u, .float .f64 r] w fun e w' => ∃ b, e = .returned (.bool b) ∧ b = Fl.wth d u r ∧ Grown w w' := by
  obtain ⟨a, ea, -⟩ := Fl.sub_one hd
  obtain ⟨b, eb, -⟩ := Fl.add_one hu
  refine (within_ab d u r a b w ea eb).mono ?_
  rintro e w' ⟨rfl, hg⟩
  refine ⟨_, rfl, ?_, hg⟩
  unfold Fl.wth
  rw [ea, eb]
end Go.Proofs.Qxb6616058aMods
