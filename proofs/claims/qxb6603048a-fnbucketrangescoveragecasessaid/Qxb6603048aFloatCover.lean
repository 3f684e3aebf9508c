/-
  THE PLAIN LAW of FnBucketRangesCoverageCases: the weights that are used are finite; 0 * w adds nothing; 1 * w is w; what the clamp gives.
-/
import Derived.Test.Qxb6603048aFloatRefuse
import Derived.Test.Qxb6603048aBucketParts
namespace Go.Proofs.Qxb6603048a

/-! ### 1 / n is finite -/

theorem rhe_le (n d k : Nat) (h : n < 2 ^ (d + k)) : rhe n d ≤ 2 ^ k := by
  unfold rhe
  have hp : 0 < 2 ^ d := Nat.two_pow_pos d
  have : n / 2 ^ d < 2 ^ k := (Nat.div_lt_iff_lt_mul hp).2 (by rw [← Nat.pow_add, Nat.add_comm]; exact h)
  have hb : ∀ b : Bool, b.toNat ≤ 1 := fun b => by cases b <;> decide
  have := hb (decide (2 ^ d < 2 * (n % 2 ^ d)) || (decide (2 ^ d = 2 * (n % 2 ^ d)) && decide (n / 2 ^ d % 2 = 1)))
  omega

theorem rungOf_fin (mag : Nat) (place : Int) (h : place + mag.log2 ≤ 1018) : rungOf mag place < 9218868437227405312 := by
  by_cases h0 : mag = 0
  · subst h0; unfold rungOf; rw [if_pos rfl]; omega
  · rw [rungOf_eq _ _ h0]
    have hi : mag < 2 ^ (mag.log2 + 1) := Nat.lt_log2_self
    obtain ⟨last, hlast⟩ : ∃ last, max (place + (mag.log2 : Int) - 52) (-1074) = last := ⟨_, rfl⟩
    rw [hlast]
    have hr : rhe (mag * 2 ^ (place - last).toNat) (last - place).toNat ≤ 2 ^ 53 := by
      apply rhe_le
      have e : mag * 2 ^ (place - last).toNat < 2 ^ (mag.log2 + 1) * 2 ^ (place - last).toNat := Nat.mul_lt_mul_of_pos_right hi (Nat.two_pow_pos _)
      rw [← Nat.pow_add] at e
      exact Nat.lt_of_lt_of_le e (Nat.pow_le_pow_right (by omega) (by omega))
    have hl : (last + 1074).toNat ≤ 2040 := by omega
    refine Nat.lt_of_le_of_lt (Nat.min_le_left _ _) ?_
    have : (2 : Nat) ^ 53 = 9007199254740992 := by decide
    omega

set_option exponentiation.threshold 2000 in
theorem val_one : val 4607182418800017408 = 4503599627370496 * 2 ^ 1022 := by
  unfold val
  rw [if_neg (by omega)]

set_option exponentiation.threshold 2000 in
theorem eqW_fin {n : Int} (h : 0 < n) : finB (eqW n) = true := by
  obtain ⟨k, rfl⟩ : ∃ k : Nat, n = (k : Int) := ⟨n.toNat, by omega⟩
  have hk : 0 < k := by omega
  have hx : floatOfInt .f64 (k : Int) = F64.word false (rungOf k 0) := by
    show F64.nearest (decide ((k : Int) < 0)) (k : Int).natAbs 0 = _
    rw [nearest_eq, decide_eq_false (by omega), Int.natAbs_natCast]
  have hR : 4607182418800017408 ≤ rungOf k 0 := by
    rw [rungOf_units k 0 (by omega)]
    refine le_rungOf (by omega) ?_
    have e : (2 : Nat) ^ ((0 : Int) + 1074).toNat = 4503599627370496 * 2 ^ 1022 := by
      rw [show ((0 : Int) + 1074).toNat = 52 + 1022 from rfl, Nat.pow_add]
    have key : ∀ P : Nat, val 4607182418800017408 = P → (2 : Nat) ^ ((0 : Int) + 1074).toNat = P → val 4607182418800017408 ≤ k * 2 ^ ((0 : Int) + 1074).toNat := by
      intro P h1 h2
      rw [h1, h2]
      exact Nat.le_mul_of_pos_left P hk
    exact key _ val_one e
  have hle := rungOf_le k 0
  unfold eqW fo
  show finB ((F64.div 4607182418800017408 (floatOfInt .f64 (k : Int))).getD qnan) = true
  rw [hx]
  unfold Ieee.Format.div
  rw [show F64.read 4607182418800017408 = .number false 4503599627370496 (-52) from read_one, read_word' false hle]
  generalize rungOf k 0 = R at hR hle
  by_cases hi : R = 9218868437227405312
  · subst hi
    rw [rungD_inf]
    decide
  · have hd : rungD false R = .number false (4503599627370496 + R % 4503599627370496) (-1074 + (R / 4503599627370496 - 1 : Nat)) := by
      unfold rungD
      rw [if_neg (by omega), if_pos (by omega)]
    rw [hd]
    have hj : -52 ≤ -1074 + ((R / 4503599627370496 - 1 : Nat) : Int) := by omega
    have hN : 4503599627370496 ≤ 4503599627370496 + R % 4503599627370496 := by omega
    generalize -1074 + ((R / 4503599627370496 - 1 : Nat) : Int) = j at hj
    generalize 4503599627370496 + R % 4503599627370496 = N at hN
    have hN0 : N ≠ 0 := by omega
    simp only [Ieee.Datum.quotient, hN0, if_false, Option.map_some, Option.getD_some]
    have l52 : Nat.log2 4503599627370496 = 52 := by decide
    have fb' : F64.fractionBits = 52 := rfl
    rw [l52, fb']
    obtain ⟨more, hmore⟩ : ∃ more, 52 + 2 + N.log2 - 52 = more := ⟨_, rfl⟩
    rw [hmore]
    show finB (F64.nearest _ _ _) = true
    rw [nearest_eq]
    apply finB_of_word
    apply rungOf_fin
    -- the quotient has at most 53 + more digits
    have hq : 2 * (4503599627370496 <<< more / N) + (4503599627370496 <<< more % N != 0).toNat < 2 ^ (54 + more) := by
      have e1 : 4503599627370496 <<< more = 2 ^ (52 + more) := by rw [Nat.shiftLeft_eq, Nat.pow_add]
      have e2 : 2 ^ (54 + more) = 4 * 2 ^ (52 + more) := by rw [show 54 + more = 2 + (52 + more) by omega, Nat.pow_add]
      rw [e1, e2]
      have h1 : 2 ^ (52 + more) / N ≤ 2 ^ (52 + more) := Nat.div_le_self _ _
      have h2 : ∀ b : Bool, b.toNat ≤ 1 := fun b => by cases b <;> decide
      have h3 := h2 (2 ^ (52 + more) % N != 0)
      have h4 : 0 < 2 ^ (52 + more) := Nat.two_pow_pos _
      omega
    generalize 2 * (4503599627370496 <<< more / N) + (4503599627370496 <<< more % N != 0).toNat = M at hq
    have hl : M.log2 < 54 + more := by
      by_cases h0 : M = 0
      · subst h0; simp; omega
      · exact (Nat.log2_lt h0).2 hq
    omega

/-- The weights that are used are finite words. -/
theorem wts_fin {n : Int} {nw : Nat} {W : Nat → Nat} (hW : ∀ i, i < nw → W i < 18446744073709551616) {i : Nat} (hi : i < n.toNat) : finB (wts n nw W i) = true ∧ wts n nw W i < 18446744073709551616 := by
  unfold wts
  by_cases hu : usableB n nw W = true
  · rw [if_pos hu]
    have hn : (nw : Int) = n := by
      have := hu
      simp [usableB] at this
      exact this.1
    refine ⟨?_, hW i (by omega)⟩
    cases hf : finB (W i) with
    | true => rfl
    | false =>
      rw [refuse_nonfin (n := n) (show i < nw by omega) hf] at hu
      cases hu
  · rw [if_neg hu]
    refine ⟨eqW_fin (by omega), ?_⟩
    unfold eqW
    have hq := one_quo (floatOfInt_nan n)
    obtain ⟨r, hr⟩ := hq
    unfold fo
    rw [hr, Option.getD_some]
    have : FloatKind.f64.format.div 4607182418800017408 (floatOfInt .f64 n) = some r := hr
    exact FloatKind.f64.format.div_lt this

/-! ### the starts: never NaN, never -0 -/

def Start (s : Nat) : Prop := ∃ b r, s = F64.word b r ∧ r ≤ 9218868437227405312 ∧ (b = true → r ≠ 0)

theorem start_add {s w : Nat} (hs : Start s) (hw : w < 18446744073709551616) (hf : finB w = true) : Start (fo .add s w) := by
  obtain ⟨b1, r1, rfl, l1, p1⟩ := hs
  obtain ⟨b2, r2, rfl, l2⟩ := word_of_fin hw hf
  rw [fo_add]
  by_cases h1 : r1 < 9218868437227405312
  · rw [add_fin b1 b2 h1 l2, Option.getD_some]
    refine ⟨_, _, rfl, rungOf_le _ _, ?_⟩
    by_cases h0 : sg b1 (val r1) + sg b2 (val r2) = 0
    · rw [if_pos h0]
      intro hb
      simp only [Bool.and_eq_true] at hb
      obtain ⟨rfl, rfl⟩ := hb
      have := val_ne (p1 rfl)
      unfold sg at h0
      simp only [if_true] at h0
      omega
    · intro _
      have : 1 ≤ rungOf (sg b1 (val r1) + sg b2 (val r2)).natAbs (-1074) := le_rungOf (by omega) (by rw [show val 1 = 1 by decide]; omega)
      omega
  · obtain rfl : r1 = 9218868437227405312 := by omega
    rw [add_inf_left b1 b2 l2, Option.getD_some]
    exact ⟨b1, _, rfl, Nat.le_refl _, p1⟩

theorem start_sum {W : Nat → Nat} {m : Nat} (h : ∀ i, i < m → finB (W i) = true ∧ W i < 18446744073709551616) : ∀ k, k ≤ m → Start (sumC W k) := by
  intro k
  induction k with
  | zero => intro _; exact ⟨false, 0, rfl, by omega, fun e => by cases e⟩
  | succ k ih => intro hk; exact start_add (ih (by omega)) (h k (by omega)).2 (h k (by omega)).1

/-! ### 0 * w and 1 * w -/

theorem zero_mul {w : Nat} (hw : w < 18446744073709551616) (hf : finB w = true) : ∃ b, fo .mul 0 w = F64.word b 0 := by
  obtain ⟨b, r, rfl, l⟩ := word_of_fin hw hf
  obtain ⟨m, i, e, _, _⟩ := rungD_fin b l
  refine ⟨b, ?_⟩
  unfold fo
  show (F64.mul 0 (F64.word b r)).getD qnan = _
  unfold Ieee.Format.mul
  rw [read_zero, read_word' b (by omega), e]
  simp only [Ieee.Datum.product, Nat.zero_mul, Bool.false_bne, Option.map_some, Option.getD_some]
  show F64.nearest b 0 _ = _
  rw [nearest_eq]
  rfl

theorem add_zero {s : Nat} (hs : Start s) (b : Bool) : fo .add s (F64.word b 0) = s := by
  obtain ⟨b1, r1, rfl, l1, p1⟩ := hs
  rw [fo_add]
  by_cases h1 : r1 < 9218868437227405312
  · rw [add_fin b1 b h1 (by omega), Option.getD_some, val_zero]
    have z : sg b 0 = 0 := by unfold sg; cases b <;> rfl
    rw [z, Int.add_zero]
    have na : (sg b1 (val r1)).natAbs = val r1 := by unfold sg; cases b1 <;> simp
    rw [na, rungOf_val l1]
    congr 1
    by_cases h0 : sg b1 (val r1) = 0
    · rw [if_pos h0]
      have hv : val r1 = 0 := by unfold sg at h0; cases b1 <;> simp at h0 <;> omega
      have hr : r1 = 0 := by have := val_ge r1; omega
      cases b1
      · rfl
      · exact absurd hr (p1 rfl)
    · rw [if_neg h0]
      unfold sg at h0 ⊢
      cases b1
      · simp only [Bool.false_eq_true, if_false]; exact decide_eq_false (by omega)
      · simp only [if_true] at h0 ⊢; exact decide_eq_true (by omega)
  · obtain rfl : r1 = 9218868437227405312 := by omega
    rw [add_inf_left b1 b (by omega), Option.getD_some]

theorem one_mul {w : Nat} (hw : w < 18446744073709551616) (hf : finB w = true) : fo .mul 4607182418800017408 w = w := by
  obtain ⟨b, r, rfl, l⟩ := word_of_fin hw hf
  obtain ⟨m, i, e, hi, hv⟩ := rungD_fin b l
  unfold fo
  show (F64.mul 4607182418800017408 (F64.word b r)).getD qnan = _
  unfold Ieee.Format.mul
  rw [show F64.read 4607182418800017408 = .number false 4503599627370496 (-52) from read_one, read_word' b (by omega), e]
  simp only [Ieee.Datum.product, Bool.false_bne, Option.map_some, Option.getD_some]
  show F64.nearest b _ _ = _
  rw [nearest_eq]
  congr 1
  have hs := rungOf_scale m 52 i
  rw [rungOf_units m i hi, hv, rungOf_val (by omega)] at hs
  have p : (2 : Nat) ^ 52 = 4503599627370496 := by decide
  rw [p, Nat.mul_comm] at hs
  rw [show (-52 : Int) + i = i - ((52 : Nat) : Int) by omega]
  exact hs

theorem end_zero {W : Nat → Nat} {m : Nat} (h : ∀ i, i < m → finB (W i) = true ∧ W i < 18446744073709551616) {k : Nat} (hk : k < m) : endC 0 W k = sumC W k := by
  unfold endC
  obtain ⟨b, e⟩ := zero_mul (h k hk).2 (h k hk).1
  rw [e]
  exact add_zero (start_sum h k (by omega)) b

theorem end_one {W : Nat → Nat} {m : Nat} (h : ∀ i, i < m → finB (W i) = true ∧ W i < 18446744073709551616) {k : Nat} (hk : k < m) : endC 4607182418800017408 W k = sumC W (k + 1) := by
  unfold endC
  rw [one_mul (h k hk).2 (h k hk).1]
  rfl

theorem end_nan {c : Nat} (hc : nanB c = true) (W : Nat → Nat) (k : Nat) : nanB (endC c W k) = true := by
  have h1 : nanB (fo .mul c (W k)) = true := by unfold fo; rw [nan_operand_left hc, Option.getD_none]; exact qnan_nan
  unfold endC
  unfold fo at h1 ⊢
  rw [nan_operand_right h1, Option.getD_none]
  exact qnan_nan

/-! ### the clamp -/

theorem clamp_nan {c : Nat} (h : nanB c = true) : nanB (clampC c) = true := by
  have e1 : pickMax c 0 qnan = qnan := by unfold pickMax; rw [order_nan (.inl h)]
  unfold clampC
  rw [e1]
  have e2 : pickMin qnan 4607182418800017408 qnan = qnan := by unfold pickMin; rw [order_nan (.inl qnan_nan)]
  rw [e2]
  exact qnan_nan

theorem clamp_zero : clampC 0 = 0 := by decide
theorem clamp_one : clampC 4607182418800017408 = 4607182418800017408 := by decide

theorem order_inf (b c : Bool) {r : Nat} (h : r < 9218868437227405312) : F64.order (F64.word b 9218868437227405312) (F64.word c r) = some (if b then .lt else .gt) := by
  obtain ⟨m, i, e, _, _⟩ := rungD_fin c h
  unfold Ieee.Format.order
  rw [read_word' b (Nat.le_refl _), read_word' c (by omega), rungD_inf, e]
  rfl

theorem neg_word (b : Bool) {r : Nat} (h : r < 9218868437227405312) : (FloatKind.f64.decode (F64.word b r)).neg = b := by
  obtain ⟨m, i, e, _, _⟩ := rungD_fin b h
  show (F64.read (F64.word b r)).neg = b
  rw [read_word' b (by omega), e]
  rfl

/-- A word that is no NaN. -/
theorem word_of_num {x : Nat} (hx : x < 18446744073709551616) (h : nanB x = false) : ∃ b r, x = F64.word b r ∧ r ≤ 9218868437227405312 := by
  obtain ⟨b, r, rfl, hr⟩ := word_of hx
  refine ⟨b, r, rfl, Nat.le_of_not_lt fun hge => ?_⟩
  unfold nanB at h
  rw [read_word b hr] at h
  unfold rungD at h
  rw [if_neg (by omega), if_neg (by omega), if_neg (by omega)] at h
  cases h

theorem clamp_high {c : Nat} (hx : c < 18446744073709551616) (h : F64.order c 4607182418800017408 = some .gt ∨ F64.order c 4607182418800017408 = some .eq) : clampC c = 4607182418800017408 := by
  have hn : nanB c = false := by
    cases hn : nanB c with
    | false => rfl
    | true => rw [show F64.order c 4607182418800017408 = none from order_nan (.inl hn)] at h; simp at h
  obtain ⟨b, r, hc, l⟩ := word_of_num hx hn
  have hv1 : 0 < val 4607182418800017408 := by have := val_ge 4607182418800017408; omega
  by_cases h1 : r < 9218868437227405312
  · have o1 : F64.order c 4607182418800017408 = some (compare (sg b (val r)) (sg false (val 4607182418800017408))) := by rw [hc]; exact order_fin b false h1 (by omega)
    have o0 : F64.order c 0 = some (compare (sg b (val r)) 0) := by rw [hc]; exact order_zero b h1
    have s1 : sg false (val 4607182418800017408) = (val 4607182418800017408 : Int) := by unfold sg; simp
    have hge : (val 4607182418800017408 : Int) ≤ sg b (val r) := by
      rw [o1, s1] at h
      simp only [Option.some.injEq] at h
      rcases h with h | h
      · have := Int.compare_eq_gt.1 h; omega
      · have := Int.compare_eq_eq.1 h; omega
    have hb : b = false := by
      cases b
      · rfl
      · unfold sg at hge; simp only [if_true] at hge; omega
    have e1 : pickMax c 0 qnan = c := by
      unfold pickMax
      rw [show FloatKind.f64.format.order c 0 = some .gt by rw [show FloatKind.f64.format.order c 0 = F64.order c 0 from rfl, o0, Int.compare_eq_gt.2 (by omega)]]
    unfold clampC
    rw [e1]
    unfold pickMin
    rcases h with h | h
    · rw [show FloatKind.f64.format.order c 4607182418800017408 = some .gt from h]
    · rw [show FloatKind.f64.format.order c 4607182418800017408 = some .eq from h]
      have : (FloatKind.f64.decode c).neg = false := by rw [hc, neg_word b h1, hb]
      simp only [this, Bool.false_eq_true, if_false]
  · obtain rfl : r = 9218868437227405312 := by omega
    have o1 : F64.order c 4607182418800017408 = some (if b then .lt else .gt) := by rw [hc]; exact order_inf b false (by omega)
    have o0 : F64.order c 0 = some (if b then .lt else .gt) := by rw [hc]; exact order_inf b false (show 0 < 9218868437227405312 by omega)
    have hb : b = false := by
      cases b
      · rfl
      · rw [o1] at h; simp at h
    subst hb
    have e1 : pickMax c 0 qnan = c := by
      unfold pickMax
      rw [show FloatKind.f64.format.order c 0 = some .gt from o0]
    unfold clampC
    rw [e1]
    unfold pickMin
    rw [show FloatKind.f64.format.order c 4607182418800017408 = some .gt from o1]

theorem clamp_low {c : Nat} (hx : c < 18446744073709551616) (h : F64.order c 0 = some .lt ∨ F64.order c 0 = some .eq) : clampC c = 0 := by
  have hn : nanB c = false := by
    cases hn : nanB c with
    | false => rfl
    | true => rw [show F64.order c 0 = none from order_nan (.inl hn)] at h; simp at h
  have key : pickMax c 0 qnan = 0 := by
    unfold pickMax
    rcases h with h | h
    · rw [show FloatKind.f64.format.order c 0 = some .lt from h]
    · rw [show FloatKind.f64.format.order c 0 = some .eq from h]
      obtain ⟨b, r, hc, l⟩ := word_of_num hx hn
      have h1 : r < 9218868437227405312 := by
        by_cases e : r = 9218868437227405312
        · subst e
          have o0 : F64.order c 0 = some (if b then .lt else .gt) := by rw [hc]; exact order_inf b false (show 0 < 9218868437227405312 by omega)
          rw [o0] at h
          cases b <;> simp at h
        · omega
      have o0 : F64.order c 0 = some (compare (sg b (val r)) 0) := by rw [hc]; exact order_zero b h1
      rw [o0, Option.some.injEq, Int.compare_eq_eq] at h
      have hv : val r = 0 := by unfold sg at h; cases b <;> simp at h <;> omega
      have hr : r = 0 := by have := val_ge r; omega
      subst hr
      have hneg : (FloatKind.f64.decode c).neg = b := by rw [hc, neg_word b h1]
      simp only [hneg]
      cases b
      · simp only [Bool.false_eq_true, if_false]; rw [hc]; rfl
      · simp only [if_true]
  unfold clampC
  rw [key]
  decide

end Go.Proofs.Qxb6603048a
