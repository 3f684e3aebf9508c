/-
  max AND min ON float64, of no program: as the model runs them whatever the operands; with one NaN for all.
-/
import Derived.Test.Qxb6603048aFloatWalks
namespace Go.Proofs.Qxb6603048a
open Go.RowKit

def pickMax (x y nan : Nat) : Nat :=
  match FloatKind.f64.format.order x y with
  | none => nan
  | some .lt => y
  | some .gt => x
  | some .eq => if (FloatKind.f64.decode x).neg then y else x
def pickMin (x y nan : Nat) : Nat :=
  match FloatKind.f64.format.order x y with
  | none => nan
  | some .lt => x
  | some .gt => y
  | some .eq => if (FloatKind.f64.decode x).neg then x else y

def fmax (x y : Nat) (w : World) : Nat := pickMax x y (nanWord (w.tape w.drawn (.nanMinMax .f64 true x y)))
def fmin (x y : Nat) (w : World) : Nat := pickMin x y (nanWord (w.tape w.drawn (.nanMinMax .f64 false x y)))
def odr (x y : Nat) : Nat := if (FloatKind.f64.format.order x y).isSome then 0 else 1

section
variable {P : Program}
theorem run_float_max (x y : Nat) (w : World) : (Builtin.max_ #[23, 23] 23 #[.float .f64 x, .float .f64 y]).run P w = .ok (.float .f64 (fmax x y w)) (w.drewN (odr x y)) := by
  cases h : FloatKind.f64.format.order x y with
  | none => simp [Builtin.max_, Builtin.max2, h, fmax, pickMax, odr, Question.cut, Question.forced, nanWord]; rfl
  | some o => cases o <;> (simp [Builtin.max_, Builtin.max2, h, fmax, pickMax, odr]; rfl)
theorem run_float_min (x y : Nat) (w : World) : (Builtin.min_ #[23, 23] 23 #[.float .f64 x, .float .f64 y]).run P w = .ok (.float .f64 (fmin x y w)) (w.drewN (odr x y)) := by
  cases h : FloatKind.f64.format.order x y with
  | none => simp [Builtin.min_, Builtin.min2, h, fmin, pickMin, odr, Question.cut, Question.forced, nanWord]; rfl
  | some o => cases o <;> (simp [Builtin.min_, Builtin.min2, h, fmin, pickMin, odr]; rfl)
end

theorem pickMax_eqv {x x' : Nat} (y n n' : Nat) (h : Eqv x x') (hn : nanB n = true) (hn' : nanB n' = true) : Eqv (pickMax x y n) (pickMax x' y n') := by
  rcases h with rfl | ⟨h1, h2⟩
  · unfold pickMax
    split
    · exact Eqv.nans hn hn'
    · exact Eqv.refl _
    · exact Eqv.refl _
    · exact Eqv.refl _
  · unfold pickMax
    rw [order_nan (.inl h1), order_nan (.inl h2)]
    exact Eqv.nans hn hn'

theorem pickMin_eqv {x x' : Nat} (y n n' : Nat) (h : Eqv x x') (hn : nanB n = true) (hn' : nanB n' = true) : Eqv (pickMin x y n) (pickMin x' y n') := by
  rcases h with rfl | ⟨h1, h2⟩
  · unfold pickMin
    split
    · exact Eqv.nans hn hn'
    · exact Eqv.refl _
    · exact Eqv.refl _
    · exact Eqv.refl _
  · unfold pickMin
    rw [order_nan (.inl h1), order_nan (.inl h2)]
    exact Eqv.nans hn hn'

/-- 'min(max(c, 0), 1)', one NaN for all. -/
def clampC (c : Nat) : Nat := pickMin (pickMax c 0 qnan) 4607182418800017408 qnan

theorem clamp_eqv (c : Nat) (w w' : World) : Eqv (fmin (fmax c 0 w) 4607182418800017408 w') (clampC c) :=
  pickMin_eqv _ _ _ (pickMax_eqv _ _ _ (Eqv.refl c) (nanWord_nan _) qnan_nan) (nanWord_nan _) qnan_nan

end Go.Proofs.Qxb6603048a
