/-
  WEIGHTS THAT THE TEST MUST REFUSE: a weight that is not finite; none positive; none negative and one above 1.01.
-/
import Derived.Test.Qxb6603048aFloatSum
namespace Go.Proofs.Qxb6603048a

theorem sumC_nonfin {W : Nat → Nat} {i : Nat} (h : finB (W i) = false) : ∀ d, finB (sumC W (i + 1 + d)) = false := by
  intro d
  induction d with
  | zero => exact add_nonfin (.inr h)
  | succ d ih => exact add_nonfin (.inl ih)

theorem refuse_nonfin {n : Int} {nw : Nat} {W : Nat → Nat} {i : Nat} (hi : i < nw) (h : finB (W i) = false) : usableB n nw W = false := by
  have hs := sumC_nonfin h (nw - (i + 1))
  rw [show i + 1 + (nw - (i + 1)) = nw by omega] at hs
  unfold usableB
  rw [nonfin_range hs, Bool.and_false]

theorem read_zero : F64.read 0 = .number false 0 (-1074) := by decide
theorem word_zero : (0 : Nat) = F64.word false 0 := rfl
theorem word_hi : (4607227454796291113 : Nat) = F64.word false 4607227454796291113 := rfl
theorem word_lo : (4607092346807469998 : Nat) = F64.word false 4607092346807469998 := rfl
theorem word_one : (4607182418800017408 : Nat) = F64.word false 4607182418800017408 := rfl

theorem order_zero (b : Bool) {r : Nat} (h : r < 9218868437227405312) : F64.order (F64.word b r) 0 = some (compare (sg b (val r)) 0) := by
  have := order_fin b false h (show 0 < 9218868437227405312 by omega)
  rw [val_zero] at this
  exact this

/-! ### none positive -/

/-- Not above nought: the word of a number that is not, or minus infinity. -/
def Npos (x : Nat) : Prop := ∃ b r, x = F64.word b r ∧ r ≤ 9218868437227405312 ∧ (b = true ∨ r = 0)

theorem sg_npos {b : Bool} {r : Nat} (h : b = true ∨ r = 0) : sg b (val r) ≤ 0 := by
  rcases h with rfl | rfl
  · unfold sg; simp
  · rw [val_zero]; unfold sg; cases b <;> simp

theorem inf_word (b : Bool) : F64.write (.infinity b) = F64.word b 9218868437227405312 := by show F64.word b F64.infRung = _; rw [ir]

theorem add_inf_left (b c : Bool) {r : Nat} (h : r < 9218868437227405312) : F64.add (F64.word b 9218868437227405312) (F64.word c r) = some (F64.word b 9218868437227405312) := by
  obtain ⟨m, i, e, _, _⟩ := rungD_fin c h
  unfold Ieee.Format.add
  rw [read_word' b (Nat.le_refl _), read_word' c (by omega), rungD_inf, e]
  simp only [Ieee.Datum.sum, Option.map_some]
  rw [inf_word]
theorem add_inf_right (b c : Bool) {r : Nat} (h : r < 9218868437227405312) : F64.add (F64.word c r) (F64.word b 9218868437227405312) = some (F64.word b 9218868437227405312) := by
  obtain ⟨m, i, e, _, _⟩ := rungD_fin c h
  unfold Ieee.Format.add
  rw [read_word' b (Nat.le_refl _), read_word' c (by omega), rungD_inf, e]
  simp only [Ieee.Datum.sum, Option.map_some]
  rw [inf_word]

theorem npos_add {x y : Nat} (hx : Npos x) (hy : Npos y) (hf : finB y = true) : Npos (fo .add x y) := by
  obtain ⟨b1, r1, rfl, l1, p1⟩ := hx
  obtain ⟨b2, r2, rfl, l2, p2⟩ := hy
  have h2 : r2 < 9218868437227405312 := by
    by_cases e : r2 = 9218868437227405312
    · subst e
      have := finB_inf b2
      rw [inf_word] at this
      rw [this] at hf
      cases hf
    · omega
  rw [fo_add]
  by_cases h1 : r1 < 9218868437227405312
  · rw [add_fin b1 b2 h1 h2, Option.getD_some]
    have s1 := sg_npos p1
    have s2 := sg_npos p2
    generalize sg b1 (val r1) = A at *
    generalize sg b2 (val r2) = B at *
    refine ⟨_, _, rfl, rungOf_le _ _, ?_⟩
    by_cases h0 : A + B = 0
    · right; rw [h0]; rfl
    · left; rw [if_neg h0]; exact decide_eq_true (by omega)
  · obtain rfl : r1 = 9218868437227405312 := by omega
    rw [add_inf_left b1 b2 h2, Option.getD_some]
    exact ⟨b1, _, rfl, Nat.le_refl _, p1⟩

theorem npos_range {s : Nat} (h : Npos s) : atLeast s = false := by
  obtain ⟨b, r, rfl, l, p⟩ := h
  by_cases h1 : r < 9218868437227405312
  · have o : FloatKind.f64.format.order (F64.word b r) 4607092346807469998 = some (compare (sg b (val r)) (sg false (val 4607092346807469998))) := order_fin b false h1 (by omega)
    have s1 := sg_npos p
    have s2 : (0 : Int) < sg false (val 4607092346807469998) := by unfold sg; simp only [Bool.false_eq_true, if_false]; have := val_ge 4607092346807469998; omega
    unfold atLeast
    rw [o, Int.compare_eq_lt.2 (by omega)]
    rfl
  · obtain rfl : r = 9218868437227405312 := by omega
    have hb : b = true := by rcases p with h | h; exact h; omega
    subst hb
    unfold atLeast
    have : FloatKind.f64.format.order (F64.word true 9218868437227405312) 4607092346807469998 = some .lt := by
      show F64.order _ _ = _
      unfold Ieee.Format.order
      rw [read_word' true (Nat.le_refl _), rungD_inf, read_lo]
      rfl
    rw [this]
    rfl

theorem npos_of {x : Nat} (hx : x < 18446744073709551616) (hf : finB x = true) (h : F64.order x 0 ≠ some .gt) : Npos x := by
  obtain ⟨b, r, rfl, hr⟩ := word_of_fin hx hf
  refine ⟨b, r, rfl, by omega, ?_⟩
  rw [order_zero b hr] at h
  by_cases h0 : r = 0
  · exact .inr h0
  · left
    cases b
    · exfalso
      apply h
      unfold sg
      simp only [Bool.false_eq_true, if_false, Option.some.injEq]
      rw [Int.compare_eq_gt]
      have := val_ge r
      omega
    · rfl

theorem refuse_npos {n : Int} {nw : Nat} {W : Nat → Nat} (hW : ∀ i, i < nw → W i < 18446744073709551616) (hf : ∀ i, i < nw → finB (W i) = true) (h : ∀ i, i < nw → F64.order (W i) 0 ≠ some .gt) : usableB n nw W = false := by
  have key : ∀ k, k ≤ nw → Npos (sumC W k) := by
    intro k
    induction k with
    | zero => intro _; exact ⟨false, 0, rfl, by omega, .inr rfl⟩
    | succ k ih => intro hk; exact npos_add (ih (by omega)) (npos_of (hW k (by omega)) (hf k (by omega)) (h k (by omega))) (hf k (by omega))
  unfold usableB
  rw [npos_range (key nw (Nat.le_refl _)), Bool.false_and, Bool.and_false]

/-! ### none negative, one above -/

def Nneg (x : Nat) : Prop := ∃ b r, x = F64.word b r ∧ r ≤ 9218868437227405312 ∧ (b = false ∨ r = 0)
def Above (x : Nat) : Prop := ∃ r, x = F64.word false r ∧ 4607227454796291113 < r ∧ r ≤ 9218868437227405312

theorem sg_nneg {b : Bool} {r : Nat} (h : b = false ∨ r = 0) : sg b (val r) = (val r : Int) := by
  rcases h with rfl | rfl
  · unfold sg; simp
  · rw [val_zero]; unfold sg; cases b <;> simp

/-- The sum of two that are not negative, the second finite: not negative, and not below either. -/
theorem nneg_add {b1 b2 : Bool} {r1 r2 : Nat} (l1 : r1 ≤ 9218868437227405312) (h2 : r2 < 9218868437227405312) (p1 : b1 = false ∨ r1 = 0) (p2 : b2 = false ∨ r2 = 0) :
    ∃ b r, fo .add (F64.word b1 r1) (F64.word b2 r2) = F64.word b r ∧ r ≤ 9218868437227405312 ∧ (b = false ∨ r = 0) ∧ r1 ≤ r ∧ r2 ≤ r := by
  rw [fo_add]
  by_cases h1 : r1 < 9218868437227405312
  · rw [add_fin b1 b2 h1 h2, Option.getD_some, sg_nneg p1, sg_nneg p2]
    have e : ((val r1 : Int) + (val r2 : Int)).natAbs = val r1 + val r2 := by omega
    rw [e]
    refine ⟨_, _, rfl, rungOf_le _ _, ?_, le_rungOf l1 (by omega), le_rungOf (by omega) (by omega)⟩
    by_cases h0 : (val r1 : Int) + (val r2 : Int) = 0
    · right
      have : val r1 + val r2 = 0 := by omega
      rw [this]
      rfl
    · left; rw [if_neg h0]; exact decide_eq_false (by omega)
  · obtain rfl : r1 = 9218868437227405312 := by omega
    have hb : b1 = false := by rcases p1 with h | h; exact h; omega
    subst hb
    rw [add_inf_left false b2 h2, Option.getD_some]
    exact ⟨false, _, rfl, Nat.le_refl _, .inl rfl, Nat.le_refl _, by omega⟩

theorem above_range {s : Nat} (h : Above s) : atMost s = false := by
  obtain ⟨r, hs, l, u⟩ := h
  rw [hs]
  unfold atMost
  by_cases h1 : r < 9218868437227405312
  · have o : FloatKind.f64.format.order (F64.word false r) 4607227454796291113 = some (compare (sg false (val r)) (sg false (val 4607227454796291113))) := order_fin false false h1 (by omega)
    have hv := val_lt l
    have : compare (sg false (val r)) (sg false (val 4607227454796291113)) = .gt := by
      rw [Int.compare_eq_gt]
      unfold sg
      simp only [Bool.false_eq_true, if_false]
      omega
    rw [o, this]
    rfl
  · obtain rfl : r = 9218868437227405312 := by omega
    have : FloatKind.f64.format.order (F64.word false 9218868437227405312) 4607227454796291113 = some .gt := by
      show F64.order _ _ = _
      unfold Ieee.Format.order
      rw [read_word' false (Nat.le_refl _), rungD_inf, read_hi]
      rfl
    rw [this]
    rfl

theorem nneg_of {x : Nat} (hx : x < 18446744073709551616) (hf : finB x = true) (h : F64.order x 0 ≠ some .lt) : ∃ b r, x = F64.word b r ∧ r < 9218868437227405312 ∧ (b = false ∨ r = 0) := by
  obtain ⟨b, r, rfl, hr⟩ := word_of_fin hx hf
  refine ⟨b, r, rfl, hr, ?_⟩
  rw [order_zero b hr] at h
  by_cases h0 : r = 0
  · exact .inr h0
  · left
    cases b
    · rfl
    · exfalso
      apply h
      unfold sg
      simp only [if_true, Option.some.injEq]
      rw [Int.compare_eq_lt]
      have := val_ge r
      omega

theorem above_of {x : Nat} (hx : x < 18446744073709551616) (hf : finB x = true) (h : F64.order x 4607227454796291113 = some .gt) : Above x := by
  obtain ⟨b, r, rfl, hr⟩ := word_of_fin hx hf
  have o : F64.order (F64.word b r) 4607227454796291113 = some (compare (sg b (val r)) (sg false (val 4607227454796291113))) := order_fin b false hr (by omega)
  rw [o, Option.some.injEq, Int.compare_eq_gt] at h
  have hp : sg false (val 4607227454796291113) = (val 4607227454796291113 : Int) := by unfold sg; simp
  rw [hp] at h
  cases b
  · unfold sg at h
    simp only [Bool.false_eq_true, if_false] at h
    refine ⟨r, rfl, Nat.lt_of_not_le fun hle => ?_, by omega⟩
    have := val_le hle
    omega
  · unfold sg at h
    simp only [if_true] at h
    omega

theorem refuse_above {n : Int} {nw : Nat} {W : Nat → Nat} (hW : ∀ i, i < nw → W i < 18446744073709551616) (hf : ∀ i, i < nw → finB (W i) = true) (h : ∀ i, i < nw → F64.order (W i) 0 ≠ some .lt)
    {j : Nat} (hj : j < nw) (ha : F64.order (W j) 4607227454796291113 = some .gt) : usableB n nw W = false := by
  have key : ∀ k, k ≤ nw → Nneg (sumC W k) := by
    intro k
    induction k with
    | zero => intro _; exact ⟨false, 0, rfl, by omega, .inr rfl⟩
    | succ k ih =>
      intro hk
      obtain ⟨b1, r1, e1, l1, p1⟩ := ih (by omega)
      obtain ⟨b2, r2, e2, l2, p2⟩ := nneg_of (hW k (by omega)) (hf k (by omega)) (h k (by omega))
      obtain ⟨b, r, e, l, p, _, _⟩ := nneg_add l1 l2 p1 p2
      refine ⟨b, r, ?_, l, p⟩
      show fo .add (sumC W k) (W k) = _
      rw [e1, e2, e]
  have key2 : ∀ d, j + 1 + d ≤ nw → Above (sumC W (j + 1 + d)) := by
    intro d
    induction d with
    | zero =>
      intro _
      obtain ⟨b1, r1, e1, l1, p1⟩ := key j (by omega)
      obtain ⟨r2, e2, g2, l2⟩ := above_of (hW j hj) (hf j hj) ha
      obtain ⟨b2', r2', e2', l2', p2'⟩ := nneg_of (hW j hj) (hf j hj) (h j hj)
      have : r2' = r2 := by
        rw [e2] at e2'
        unfold Ieee.Format.word at e2'
        rw [sw] at e2'
        cases b2' <;> simp only [Bool.false_eq_true, if_false, if_true] at e2' <;> omega
      subst this
      obtain ⟨b, r, e, l, p, _, m2⟩ := nneg_add l1 l2' p1 p2'
      have hb : b = false := by rcases p with h | h; exact h; omega
      subst hb
      refine ⟨r, ?_, by omega, l⟩
      show fo .add (sumC W j) (W j) = _
      rw [e1, e2', e]
    | succ d ih =>
      intro hd
      obtain ⟨r1, e1, g1, l1⟩ := ih (by omega)
      obtain ⟨b2, r2, e2, l2, p2⟩ := nneg_of (hW (j + 1 + d) (by omega)) (hf _ (by omega)) (h _ (by omega))
      obtain ⟨b, r, e, l, p, m1, _⟩ := nneg_add (b1 := false) l1 l2 (.inl rfl) p2
      have hb : b = false := by rcases p with h | h; exact h; omega
      subst hb
      refine ⟨r, ?_, by omega, l⟩
      show fo .add (sumC W (j + 1 + d)) (W (j + 1 + d)) = _
      rw [e1, e2, e]
  have hs := key2 (nw - (j + 1)) (by omega)
  rw [show j + 1 + (nw - (j + 1)) = nw by omega] at hs
  unfold usableB
  rw [above_range hs, Bool.and_false, Bool.and_false]

/-- A finite number less itself is nought. -/
theorem sub_self_fin {x : Nat} (h : finB x = true) : floatBits .sub .f64 x x = some 0 := by
  show F64.sub x x = some 0
  unfold Ieee.Format.sub
  unfold finB at h
  cases hr : F64.read x with
  | number b m i =>
    simp only [Ieee.Datum.opposite, Ieee.Datum.sum, Int.min_self, Option.map_some, Option.some.injEq]
    have ht : Ieee.signed b m (i - i).toNat + Ieee.signed (!b) m (i - i).toNat = 0 := by
      unfold Ieee.signed
      cases b
      · simp only [Bool.false_eq_true, if_false, Bool.not_false, if_true]; omega
      · simp only [Bool.not_true, Bool.false_eq_true, if_false, if_true]; omega
    rw [ht]
    simp only [if_true]
    show F64.nearest (b && !b) 0 i = 0
    rw [Bool.and_not_self]
    rfl
  | infinity b => rw [hr] at h; cases h
  | nan b t => rw [hr] at h; cases h

theorem fin_nan {x : Nat} (h : finB x = true) : nanB x = false := by
  unfold finB at h
  unfold nanB
  cases hr : F64.read x with
  | number b m i => rfl
  | infinity b => rfl
  | nan b t => rw [hr] at h; cases h

/-- 'w != w || w-w != 0' says that w is not finite. -/
theorem bad_of_neq {x : Nat} (h : (FloatKind.f64.format.order x x != some .eq) = true) : finB x = false := by
  cases hf : finB x with
  | false => rfl
  | true => rw [order_self (fin_nan hf)] at h; cases h
theorem bad_of_sub {x : Nat} {w : World} (h : (FloatKind.f64.format.order (fres .sub x x w) 0 != some .eq) = true) : finB x = false := by
  cases hf : finB x with
  | false => rfl
  | true =>
    have e : fres .sub x x w = 0 := by unfold fres; rw [sub_self_fin hf]; rfl
    rw [e, order_self (by decide)] at h
    cases h

end Go.Proofs.Qxb6603048a
