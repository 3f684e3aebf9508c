/-
  WORDS OF float64, of no program: what a word that was written reads as: its sign, that it is no NaN.
-/
import Derived.Test.Qxb6603048aFloatKit
namespace Go.Proofs.Qxb6603048a

theorem sw : F64.signWeight = 9223372036854775808 := by decide
theorem bi : F64.binade = 4503599627370496 := by decide
theorem ir : F64.infRung = 9218868437227405312 := by decide
theorem lp : F64.leastPlace = -1074 := by decide
theorem fb : F64.fractionBits = 52 := rfl

/-- What a rung reads as. -/
def rungD (neg : Bool) (rung : Nat) : Ieee.Datum :=
  if rung < 4503599627370496 then .number neg rung (-1074)
  else if rung < 9218868437227405312 then .number neg (4503599627370496 + rung % 4503599627370496) (-1074 + (rung / 4503599627370496 - 1 : Nat))
  else if rung = 9218868437227405312 then .infinity neg
  else .nan neg (rung - 9218868437227405312)

theorem read_word (neg : Bool) {rung : Nat} (h : rung < 9223372036854775808) : F64.read (F64.word neg rung) = rungD neg rung := by
  unfold Ieee.Format.read Ieee.Format.word
  simp only [sw, bi, ir, lp]
  cases neg
  · simp only [Bool.false_eq_true, if_false]
    have e1 : rung / 9223372036854775808 = 0 := by omega
    have e2 : rung % 9223372036854775808 = rung := by omega
    rw [e1, e2]
    rfl
  · simp only [if_true]
    have e1 : (9223372036854775808 + rung) / 9223372036854775808 = 1 := by omega
    have e2 : (9223372036854775808 + rung) % 9223372036854775808 = rung := by omega
    rw [e1, e2]
    rfl

theorem rungD_nan (neg : Bool) {rung : Nat} (h : rung ≤ 9218868437227405312) : (rungD neg rung).isNaN = false := by
  unfold rungD
  by_cases h1 : rung < 4503599627370496
  · rw [if_pos h1]; rfl
  · rw [if_neg h1]
    by_cases h2 : rung < 9218868437227405312
    · rw [if_pos h2]; rfl
    · rw [if_neg h2, if_pos (by omega)]; rfl

/-- The rung that a number is rounded to. -/
def rungOf (mag : Nat) (place : Int) : Nat :=
  if mag = 0 then 0 else
  min ((max (place + mag.log2 - 52) (-1074) + 1074).toNat * 4503599627370496 + Ieee.Toward.even.cut false (mag <<< (place - max (place + mag.log2 - 52) (-1074)).toNat) (max (place + mag.log2 - 52) (-1074) - place).toNat) 9218868437227405312

theorem nearest_eq (neg : Bool) (mag : Nat) (place : Int) : F64.nearest neg mag place = F64.word neg (rungOf mag place) := by
  unfold Ieee.Format.nearest rungOf
  by_cases h : mag = 0
  · rw [if_pos h, if_pos h]
  · rw [if_neg h, if_neg h]
    simp only [bi, ir, lp, fb]
    rfl

theorem rungOf_le (mag : Nat) (place : Int) : rungOf mag place ≤ 9218868437227405312 := by
  unfold rungOf
  by_cases h : mag = 0
  · rw [if_pos h]; omega
  · rw [if_neg h]; exact Nat.min_le_right _ _

theorem read_nearest (neg : Bool) (mag : Nat) (place : Int) : F64.read (F64.nearest neg mag place) = rungD neg (rungOf mag place) := by
  rw [nearest_eq, read_word]
  have := rungOf_le mag place
  omega

theorem nearest_nan (neg : Bool) (mag : Nat) (place : Int) : nanB (F64.nearest neg mag place) = false := by
  unfold nanB
  rw [read_nearest]
  exact rungD_nan neg (rungOf_le mag place)

theorem read_one : FloatKind.f64.format.read 4607182418800017408 = .number false 4503599627370496 (-52) := by decide

/-- 1 / x is a number or an infinity where x is no NaN. -/
theorem one_quo {x : Nat} (h : nanB x = false) : ∃ r, floatBits .quo .f64 4607182418800017408 x = some r := by
  unfold nanB at h
  show ∃ r, FloatKind.f64.format.div 4607182418800017408 x = some r
  unfold Ieee.Format.div
  rw [read_one]
  cases hr : FloatKind.f64.format.read x with
  | number s m i =>
    unfold Ieee.Datum.quotient
    by_cases h0 : m = 0
    · simp [h0]
    · simp [h0]
  | infinity s => simp [Ieee.Datum.quotient]
  | nan s t => have e : F64.read x = _ := hr; rw [e] at h; cases h

theorem floatOfInt_nan (n : Int) : nanB (floatOfInt .f64 n) = false := nearest_nan _ _ _

end Go.Proofs.Qxb6603048a
