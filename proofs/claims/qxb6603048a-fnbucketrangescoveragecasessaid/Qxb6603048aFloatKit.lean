/-
  FLOATS, of no program: what '+', '-', '*', '/', max and min on float64 give WHATEVER THE OPERANDS: valid: the very word; invalid: some NaN, drawn. 'Eqv': one word, or both NaN: every operation goes through it. 'fo': the same with one NaN for all.
-/
import Derived.Test.Qxb6603048aKit
import Derived.Laws.FloatArith
import Derived.Deep.Draws
import Derived.WalkLawsBesides
namespace Go.Proofs.Qxb6603048a
open Go.RowKit

/-- The format. -/
abbrev F64 : Ieee.Format := FloatKind.f64.format

def nanB (x : Nat) : Bool := (F64.read x).isNaN

/-- One word, or both NaN. -/
def Eqv (x y : Nat) : Prop := x = y ∨ (nanB x = true ∧ nanB y = true)

theorem Eqv.refl (x : Nat) : Eqv x x := .inl rfl
theorem Eqv.symm {x y : Nat} (h : Eqv x y) : Eqv y x := h.elim (fun e => .inl e.symm) (fun e => .inr ⟨e.2, e.1⟩)
theorem Eqv.trans {x y z : Nat} (h : Eqv x y) (k : Eqv y z) : Eqv x z := by
  rcases h with rfl | ⟨h1, h2⟩
  · exact k
  · rcases k with rfl | ⟨_, k2⟩
    · exact .inr ⟨h1, h2⟩
    · exact .inr ⟨h1, k2⟩
theorem Eqv.nan {x y : Nat} (h : Eqv x y) : nanB x = nanB y := by
  rcases h with rfl | ⟨h1, h2⟩
  · rfl
  · rw [h1, h2]
theorem Eqv.eq {x y : Nat} (h : Eqv x y) (hn : nanB y = false) : x = y := by
  rcases h with rfl | ⟨_, h2⟩
  · rfl
  · rw [hn] at h2; cases h2

/-- A word that is drawn for a NaN is one. -/
def nanWord (t : Nat) : Nat := (t % 2) * 2 ^ 63 + 0x7ff0000000000000 + 1 + (t / 2) % (2 ^ 52 - 1)

theorem nanWord_nan (t : Nat) : nanB (nanWord t) = true := by
  have h2 : t / 2 % (2 ^ 52 - 1) < 2 ^ 52 - 1 := Nat.mod_lt _ (by decide)
  have h1 : t % 2 < 2 := Nat.mod_lt _ (by decide)
  generalize e2 : t / 2 % (2 ^ 52 - 1) = a at h2
  generalize e1 : t % 2 = b at h1
  have sw : F64.signWeight = 9223372036854775808 := by decide
  have bi : F64.binade = 4503599627370496 := by decide
  have ir : F64.infRung = 9218868437227405312 := by decide
  unfold nanB nanWord
  rw [e2, e1]
  have hr : (b * 2 ^ 63 + 0x7ff0000000000000 + 1 + a) % 9223372036854775808 = 9218868437227405313 + a := by omega
  unfold Ieee.Format.read
  simp only [sw, bi, ir, hr]
  rw [if_neg (by omega), if_neg (by omega), if_neg (by omega)]
  rfl

theorem nan_operand_left {op : BinOp} {x y : Nat} (h : nanB x = true) : floatBits op .f64 x y = none := by
  unfold nanB at h
  unfold floatBits
  cases hr : F64.read x with
  | number s m i => rw [hr] at h; cases h
  | infinity s => rw [hr] at h; cases h
  | nan s t =>
    have e : FloatKind.f64.format.read x = .nan s t := hr
    split
    · simp [Ieee.Format.add, e, Ieee.Datum.sum]
    · simp [Ieee.Format.sub, e, Ieee.Datum.sum]
    · simp [Ieee.Format.mul, e, Ieee.Datum.product]
    · simp [Ieee.Format.div, e, Ieee.Datum.quotient]
    · rfl

theorem nan_operand_right {op : BinOp} {x y : Nat} (h : nanB y = true) : floatBits op .f64 x y = none := by
  unfold nanB at h
  unfold floatBits
  cases hr : F64.read y with
  | number s m i => rw [hr] at h; cases h
  | infinity s => rw [hr] at h; cases h
  | nan s t =>
    have e : FloatKind.f64.format.read y = .nan s t := hr
    split
    · simp [Ieee.Format.add, e]; cases FloatKind.f64.format.read x <;> simp [Ieee.Datum.sum]
    · simp [Ieee.Format.sub, e, Ieee.Datum.opposite]; cases FloatKind.f64.format.read x <;> simp [Ieee.Datum.sum]
    · simp [Ieee.Format.mul, e]; cases FloatKind.f64.format.read x <;> simp [Ieee.Datum.product]
    · simp [Ieee.Format.div, e]; cases FloatKind.f64.format.read x <;> simp [Ieee.Datum.quotient]
    · rfl

/-- The quiet NaN that stands for all. -/
def qnan : Nat := nanWord 0
theorem qnan_nan : nanB qnan = true := by unfold qnan; exact nanWord_nan 0
theorem Eqv.nans {x y : Nat} (hx : nanB x = true) (hy : nanB y = true) : Eqv x y := .inr ⟨hx, hy⟩

/-- The operation, one NaN for all. -/
def fo (op : BinOp) (x y : Nat) : Nat := (floatBits op .f64 x y).getD qnan

/-- The operation as the model runs it in the world w. -/
def fres (op : BinOp) (x y : Nat) (w : World) : Nat := (floatBits op .f64 x y).getD (nanWord (w.tape w.drawn (.nanBits .f64 x y)))
/-- How often it draws. -/
def fdr (op : BinOp) (x y : Nat) : Nat := if (floatBits op .f64 x y).isSome then 0 else 1

theorem fres_eqv (op : BinOp) {x y x' y' : Nat} (hx : Eqv x x') (hy : Eqv y y') (w : World) : Eqv (fres op x y w) (fo op x' y') := by
  unfold fres fo
  rcases hx with rfl | ⟨h1, h2⟩
  · rcases hy with rfl | ⟨h3, h4⟩
    · cases floatBits op .f64 x y with
      | some r => rw [Option.getD_some, Option.getD_some]; exact Eqv.refl r
      | none => rw [Option.getD_none, Option.getD_none]; exact Eqv.nans (nanWord_nan _) qnan_nan
    · rw [nan_operand_right h3, nan_operand_right h4, Option.getD_none, Option.getD_none]; exact Eqv.nans (nanWord_nan _) qnan_nan
  · rw [nan_operand_left h1, nan_operand_left h2, Option.getD_none, Option.getD_none]; exact Eqv.nans (nanWord_nan _) qnan_nan

section
variable {P : Program}
theorem run_store_float (a : Addr) (x : Nat) (m : Mode) (w : World) : (store a (.float .f64 x) m).run P w = stored P w a (.float .f64 x) m := run_store P w a _ m rfl
theorem run_float_add (t : TypeId) (x y : Nat) (w : World) : (binOp .add t (.float .f64 x) (.float .f64 y)).run P w = .ok (.float .f64 (fres .add x y w)) (w.drewN (fdr .add x y)) := by
  have e : floatBits .add .f64 x y = FloatKind.f64.format.add x y := rfl
  cases h : FloatKind.f64.format.add x y with
  | some r => simp [binOp, Op.floatArith, h, fres, fdr, e]; rfl
  | none => simp [binOp, Op.floatArith, h, fres, fdr, e, Question.cut, Question.forced, nanWord]; rfl
theorem run_float_mul (t : TypeId) (x y : Nat) (w : World) : (binOp .mul t (.float .f64 x) (.float .f64 y)).run P w = .ok (.float .f64 (fres .mul x y w)) (w.drewN (fdr .mul x y)) := by
  have e : floatBits .mul .f64 x y = FloatKind.f64.format.mul x y := rfl
  cases h : FloatKind.f64.format.mul x y with
  | some r => simp [binOp, Op.floatArith, h, fres, fdr, e]; rfl
  | none => simp [binOp, Op.floatArith, h, fres, fdr, e, Question.cut, Question.forced, nanWord]; rfl
theorem run_float_sub (t : TypeId) (x y : Nat) (w : World) : (binOp .sub t (.float .f64 x) (.float .f64 y)).run P w = .ok (.float .f64 (fres .sub x y w)) (w.drewN (fdr .sub x y)) := by
  have e : floatBits .sub .f64 x y = FloatKind.f64.format.sub x y := rfl
  cases h : FloatKind.f64.format.sub x y with
  | some r => simp [binOp, Op.floatArith, h, fres, fdr, e]; rfl
  | none => simp [binOp, Op.floatArith, h, fres, fdr, e, Question.cut, Question.forced, nanWord]; rfl
theorem run_float_quo (t : TypeId) (x y : Nat) (w : World) : (binOp .quo t (.float .f64 x) (.float .f64 y)).run P w = .ok (.float .f64 (fres .quo x y w)) (w.drewN (fdr .quo x y)) := by
  have e : floatBits .quo .f64 x y = FloatKind.f64.format.div x y := rfl
  cases h : FloatKind.f64.format.div x y with
  | some r => simp [binOp, Op.floatArith, h, fres, fdr, e]; rfl
  | none => simp [binOp, Op.floatArith, h, fres, fdr, e, Question.cut, Question.forced, nanWord]; rfl
end

end Go.Proofs.Qxb6603048a
