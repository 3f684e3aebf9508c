/-
  SUMS OF float64, of no program: by sign and rung. What the laws on weights need: what is not finite stays so; what is not positive stays so; a sum of what is not negative is not below its parts.
-/
import Derived.Test.Qxb6603048aFloatRound
import Derived.Test.Qxb6603048aFloatWalks
namespace Go.Proofs.Qxb6603048a

/-! ### words -/

theorem word_of {x : Nat} (h : x < 18446744073709551616) : ∃ b r, x = F64.word b r ∧ r < 9223372036854775808 := by
  by_cases h1 : x < 9223372036854775808
  · exact ⟨false, x, rfl, h1⟩
  · refine ⟨true, x - 9223372036854775808, ?_, by omega⟩
    unfold Ieee.Format.word
    rw [sw]
    simp only [if_true]
    omega

theorem read_word' (b : Bool) {r : Nat} (h : r ≤ 9218868437227405312) : F64.read (F64.word b r) = rungD b r := read_word b (by omega)

/-- A finite rung's datum. -/
theorem rungD_fin (b : Bool) {r : Nat} (h : r < 9218868437227405312) : ∃ m i, rungD b r = .number b m i ∧ -1074 ≤ i ∧ m * 2 ^ (i + 1074).toNat = val r := by
  unfold rungD val
  by_cases h1 : r < 4503599627370496
  · rw [if_pos h1, if_pos h1]
    exact ⟨r, -1074, rfl, by omega, by simp⟩
  · rw [if_neg h1, if_pos h, if_neg h1]
    refine ⟨_, _, rfl, by omega, ?_⟩
    rw [show (-1074 + ((r / 4503599627370496 - 1 : Nat) : Int) + 1074).toNat = r / 4503599627370496 - 1 by omega]

theorem rungD_inf (b : Bool) : rungD b 9218868437227405312 = .infinity b := by unfold rungD; rw [if_neg (by omega), if_neg (by omega), if_pos rfl]

/-- The signed number. -/
def sg (b : Bool) (v : Nat) : Int := if b then -(v : Int) else (v : Int)

theorem signed_scale (b : Bool) (m : Nat) (i base : Int) (h1 : base ≤ i) (h2 : -1074 ≤ base) : Ieee.signed b m (i - base).toNat * (2 ^ (base + 1074).toNat : Nat) = sg b (m * 2 ^ (i + 1074).toNat) := by
  have e : m <<< (i - base).toNat * 2 ^ (base + 1074).toNat = m * 2 ^ (i + 1074).toNat := by
    rw [Nat.shiftLeft_eq, Nat.mul_assoc, ← Nat.pow_add]
    congr 2
    omega
  unfold Ieee.signed sg
  cases b
  · simp only [Bool.false_eq_true, if_false]
    rw [← Int.natCast_mul, e]
  · simp only [if_true]
    rw [Int.neg_mul, ← Int.natCast_mul, e]

theorem order_fin (b1 b2 : Bool) {r1 r2 : Nat} (h1 : r1 < 9218868437227405312) (h2 : r2 < 9218868437227405312) :
    F64.order (F64.word b1 r1) (F64.word b2 r2) = some (compare (sg b1 (val r1)) (sg b2 (val r2))) := by
  obtain ⟨m, i, e1, hi, v1⟩ := rungD_fin b1 h1
  obtain ⟨n, j, e2, hj, v2⟩ := rungD_fin b2 h2
  unfold Ieee.Format.order
  rw [read_word' b1 (by omega), read_word' b2 (by omega), e1, e2]
  unfold Ieee.Datum.order
  simp only [Option.some.injEq]
  have s1 := signed_scale b1 m i (min i j) (by omega) (by omega)
  have s2 := signed_scale b2 n j (min i j) (by omega) (by omega)
  rw [v1] at s1
  rw [v2] at s2
  rw [← s1, ← s2]
  have hp : (0 : Int) < ((2 ^ (min i j + 1074).toNat : Nat) : Int) := by have := Nat.two_pow_pos (min i j + 1074).toNat; omega
  generalize ((2 ^ (min i j + 1074).toNat : Nat) : Int) = P at hp
  generalize Ieee.signed b1 m (i - min i j).toNat = A
  generalize Ieee.signed b2 n (j - min i j).toNat = B
  rcases Int.lt_trichotomy A B with h | h | h
  · rw [Int.compare_eq_lt.2 h, Int.compare_eq_lt.2 (Int.mul_lt_mul_of_pos_right h hp)]
  · subst h; rw [Int.compare_eq_eq.2 rfl, Int.compare_eq_eq.2 rfl]
  · rw [Int.compare_eq_gt.2 h, Int.compare_eq_gt.2 (Int.mul_lt_mul_of_pos_right h hp)]

/-- The sum of two finite words. -/
theorem add_fin (b1 b2 : Bool) {r1 r2 : Nat} (h1 : r1 < 9218868437227405312) (h2 : r2 < 9218868437227405312) :
    F64.add (F64.word b1 r1) (F64.word b2 r2) = some (F64.word (if sg b1 (val r1) + sg b2 (val r2) = 0 then b1 && b2 else decide (sg b1 (val r1) + sg b2 (val r2) < 0)) (rungOf (sg b1 (val r1) + sg b2 (val r2)).natAbs (-1074))) := by
  obtain ⟨m, i, e1, hi, v1⟩ := rungD_fin b1 h1
  obtain ⟨n, j, e2, hj, v2⟩ := rungD_fin b2 h2
  unfold Ieee.Format.add
  rw [read_word' b1 (by omega), read_word' b2 (by omega), e1, e2]
  unfold Ieee.Datum.sum
  simp only [Option.map_some, Option.some.injEq]
  have s1 := signed_scale b1 m i (min i j) (by omega) (by omega)
  have s2 := signed_scale b2 n j (min i j) (by omega) (by omega)
  rw [v1] at s1
  rw [v2] at s2
  rw [← s1, ← s2, ← Int.add_mul]
  have hp : 0 < 2 ^ (min i j + 1074).toNat := Nat.two_pow_pos _
  have hb : -1074 ≤ min i j := by omega
  generalize Ieee.signed b1 m (i - min i j).toNat + Ieee.signed b2 n (j - min i j).toNat = T
  have hu := rungOf_units T.natAbs (min i j) hb
  generalize min i j = base at *
  generalize 2 ^ (base + 1074).toNat = P at *
  have hz : (T * (P : Int) = 0) ↔ T = 0 := by
    constructor
    · intro h
      rcases Int.mul_eq_zero.1 h with h | h
      · exact h
      · omega
    · intro h; rw [h]; omega
  have hn : (T * (P : Int) < 0) ↔ T < 0 := by
    constructor
    · intro h
      by_cases h0 : 0 ≤ T
      · have := Int.mul_nonneg h0 (show (0 : Int) ≤ (P : Int) by omega); omega
      · omega
    · intro h
      exact Int.mul_neg_of_neg_of_pos h (by omega)
  have ha : (T * (P : Int)).natAbs = T.natAbs * P := by rw [Int.natAbs_mul]; simp
  unfold Ieee.Format.write
  simp only [hz, hn, ha]
  rw [nearest_eq, hu]

/-! ### what is not finite -/

def finB (x : Nat) : Bool := match F64.read x with | .number .. => true | _ => false

theorem finB_of_word (b : Bool) {r : Nat} (h : r < 9218868437227405312) : finB (F64.word b r) = true := by
  obtain ⟨m, i, e, _, _⟩ := rungD_fin b h
  unfold finB
  rw [read_word' b (by omega), e]

theorem word_of_fin {x : Nat} (hx : x < 18446744073709551616) (h : finB x = true) : ∃ b r, x = F64.word b r ∧ r < 9218868437227405312 := by
  obtain ⟨b, r, rfl, hr⟩ := word_of hx
  refine ⟨b, r, rfl, Nat.lt_of_not_le fun hge => ?_⟩
  unfold finB at h
  rw [read_word b hr] at h
  unfold rungD at h
  rw [if_neg (by omega), if_neg (by omega)] at h
  by_cases e : r = 9218868437227405312
  · rw [if_pos e] at h; cases h
  · rw [if_neg e] at h; cases h

theorem finB_qnan : finB qnan = false := by
  have h := qnan_nan
  unfold nanB at h
  unfold finB
  cases hr : F64.read qnan with
  | number s m i => rw [hr] at h; cases h
  | infinity s => rfl
  | nan s t => rfl

theorem read_inf (b : Bool) : F64.read (F64.write (.infinity b)) = .infinity b := by
  show F64.read (F64.word b F64.infRung) = _
  rw [ir, read_word' b (Nat.le_refl _), rungD_inf]

theorem finB_inf (b : Bool) : finB (F64.write (.infinity b)) = false := by unfold finB; rw [read_inf]

theorem fo_add (x y : Nat) : fo .add x y = (F64.add x y).getD qnan := rfl

theorem add_nonfin {x y : Nat} (h : finB x = false ∨ finB y = false) : finB (fo .add x y) = false := by
  rw [fo_add]
  unfold Ieee.Format.add
  unfold finB at h
  cases hx : F64.read x with
  | number s m i =>
    cases hy : F64.read y with
    | number s' m' i' => rw [hx, hy] at h; simp at h
    | infinity s' => simp only [Ieee.Datum.sum, Option.map_some, Option.getD_some]; exact finB_inf _
    | nan s' t' => simp only [Ieee.Datum.sum, Option.map_none, Option.getD_none]; exact finB_qnan
  | infinity s =>
    cases hy : F64.read y with
    | number s' m' i' => simp only [Ieee.Datum.sum, Option.map_some, Option.getD_some]; exact finB_inf _
    | infinity s' =>
      simp only [Ieee.Datum.sum]
      by_cases e : s = s'
      · rw [if_pos e, Option.map_some, Option.getD_some]; exact finB_inf _
      · rw [if_neg e, Option.map_none, Option.getD_none]; exact finB_qnan
    | nan s' t' => simp only [Ieee.Datum.sum, Option.map_none, Option.getD_none]; exact finB_qnan
  | nan s t => simp only [Ieee.Datum.sum, Option.map_none, Option.getD_none]; exact finB_qnan

theorem read_lo : F64.read 4607092346807469998 = .number false 8917127262193582 (-53) := by decide
theorem read_hi : F64.read 4607227454796291113 = .number false 4548635623644201 (-52) := by decide

theorem nonfin_range {s : Nat} (h : finB s = false) : (atLeast s && atMost s) = false := by
  unfold finB at h
  unfold atLeast atMost
  have ol : FloatKind.f64.format.order s 4607092346807469998 = (F64.read s).order (.number false 8917127262193582 (-53)) := by rw [← read_lo]; rfl
  have oh : FloatKind.f64.format.order s 4607227454796291113 = (F64.read s).order (.number false 4548635623644201 (-52)) := by rw [← read_hi]; rfl
  rw [ol, oh]
  cases hs : F64.read s with
  | number b m i => rw [hs] at h; cases h
  | infinity b => cases b <;> rfl
  | nan b t => rfl

end Go.Proofs.Qxb6603048a
