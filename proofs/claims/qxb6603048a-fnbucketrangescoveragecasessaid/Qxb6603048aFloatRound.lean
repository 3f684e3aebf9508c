/-
  ROUNDING OF float64, of no program: 'val': a rung's number in units of 2 ^ -1074; the rung that a number is rounded to depends on the number alone; a number that is a rung's is rounded to it; rounding keeps the order.
-/
import Derived.Test.Qxb6603048aFloatWords
namespace Go.Proofs.Qxb6603048a

/-! ### to the nearest, ties to even -/

def rhe (n d : Nat) : Nat := n / 2 ^ d + (decide (2 ^ d < 2 * (n % 2 ^ d)) || (decide (2 ^ d = 2 * (n % 2 ^ d)) && decide (n / 2 ^ d % 2 = 1))).toNat

theorem cut_eq (n d : Nat) : Ieee.Toward.even.cut false n d = rhe n d := by
  have core : ∀ g : Nat, (n / g + (g < 2 * (n % g) || (g == 2 * (n % g) && n / g % 2 == 1)).toNat) = n / g + (decide (g < 2 * (n % g)) || (decide (g = 2 * (n % g)) && decide (n / g % 2 = 1))).toNat := by
    intro g
    congr 2
  unfold Ieee.Toward.cut
  simp only [Nat.one_shiftLeft]
  by_cases h : d ≤ n.log2 + 2
  · rw [Nat.min_eq_left h]
    exact core _
  · rw [Nat.min_eq_right (by omega)]
    have hn : n < 2 ^ (n.log2 + 1) := by
      by_cases h0 : n = 0
      · subst h0; exact Nat.two_pow_pos _
      · exact Nat.lt_log2_self
    have e1 : 2 ^ (n.log2 + 2) = 2 * 2 ^ (n.log2 + 1) := by rw [Nat.pow_succ]; omega
    have hd : 2 ^ (n.log2 + 2) ≤ 2 ^ d := Nat.pow_le_pow_right (by omega) (by omega)
    have q1 : n / 2 ^ (n.log2 + 2) = 0 := Nat.div_eq_of_lt (by omega)
    have q2 : n % 2 ^ (n.log2 + 2) = n := Nat.mod_eq_of_lt (by omega)
    have q3 : n / 2 ^ d = 0 := Nat.div_eq_of_lt (by omega)
    have q4 : n % 2 ^ d = n := Nat.mod_eq_of_lt (by omega)
    unfold rhe
    rw [q1, q2, q3, q4]
    have b1 : ¬ 2 ^ (n.log2 + 2) < 2 * n := by omega
    have b2 : ¬ 2 ^ d < 2 * n := by omega
    simp [b1, b2]

theorem rhe_zero (n : Nat) : rhe n 0 = n := by
  unfold rhe
  simp [Nat.mod_one]

theorem rhe_scale (n d k : Nat) : rhe (n * 2 ^ k) (d + k) = rhe n d := by
  unfold rhe
  have hp : 0 < 2 ^ k := Nat.two_pow_pos k
  have e : 2 ^ (d + k) = 2 ^ d * 2 ^ k := Nat.pow_add 2 d k
  have q : n * 2 ^ k / 2 ^ (d + k) = n / 2 ^ d := by rw [e]; exact Nat.mul_div_mul_right _ _ hp
  have r : n * 2 ^ k % 2 ^ (d + k) = n % 2 ^ d * 2 ^ k := by rw [e]; exact Nat.mul_mod_mul_right _ _ _
  rw [q, r, e]
  have a1 : (2 ^ d * 2 ^ k < 2 * (n % 2 ^ d * 2 ^ k)) ↔ (2 ^ d < 2 * (n % 2 ^ d)) := by
    rw [← Nat.mul_assoc]
    exact Nat.mul_lt_mul_right hp
  have a2 : (2 ^ d * 2 ^ k = 2 * (n % 2 ^ d * 2 ^ k)) ↔ (2 ^ d = 2 * (n % 2 ^ d)) := by
    rw [← Nat.mul_assoc]
    exact Nat.mul_left_inj (by omega)
  simp only [a1, a2]

theorem rhe_ge (n d : Nat) : n / 2 ^ d ≤ rhe n d := Nat.le_add_right _ _

theorem pow_ne (k : Nat) : 2 ^ k ≠ 0 := by have := Nat.two_pow_pos k; omega

theorem log2_scale {m : Nat} (k : Nat) (h : m ≠ 0) : (m * 2 ^ k).log2 = m.log2 + k := by
  have hp : 0 < 2 ^ k := Nat.two_pow_pos k
  rw [Nat.log2_eq_iff (Nat.mul_ne_zero h (pow_ne k))]
  have lo : 2 ^ m.log2 ≤ m := Nat.log2_self_le h
  have hi : m < 2 ^ (m.log2 + 1) := Nat.lt_log2_self
  refine ⟨?_, ?_⟩
  · rw [Nat.pow_add]; exact Nat.mul_le_mul_right _ lo
  · rw [show m.log2 + k + 1 = (m.log2 + 1) + k by omega, Nat.pow_add]
    exact Nat.mul_lt_mul_of_pos_right hi hp

/-! ### the rung depends on the number alone -/

/-- 'rungOf' once more, by 'rhe'. -/
theorem rungOf_eq (mag : Nat) (place : Int) (h : mag ≠ 0) : rungOf mag place =
    min ((max (place + mag.log2 - 52) (-1074) + 1074).toNat * 4503599627370496 + rhe (mag * 2 ^ (place - max (place + mag.log2 - 52) (-1074)).toNat) (max (place + mag.log2 - 52) (-1074) - place).toNat) 9218868437227405312 := by
  unfold rungOf
  rw [if_neg h, cut_eq, Nat.shiftLeft_eq]

theorem rungOf_scale (m k : Nat) (p : Int) : rungOf (m * 2 ^ k) (p - k) = rungOf m p := by
  by_cases h : m = 0
  · subst h; rw [Nat.zero_mul]; unfold rungOf; rw [if_pos rfl, if_pos rfl]
  · rw [rungOf_eq _ _ (Nat.mul_ne_zero h (pow_ne k)), rungOf_eq _ _ h, log2_scale k h]
    have e : p - (k : Int) + ((m.log2 + k : Nat) : Int) - 52 = p + m.log2 - 52 := by omega
    rw [e]
    generalize max (p + (m.log2 : Int) - 52) (-1074) = last
    have key : rhe (m * 2 ^ k * 2 ^ (p - k - last).toNat) (last - (p - k)).toNat = rhe (m * 2 ^ (p - last).toNat) (last - p).toNat := by
      by_cases h1 : last ≤ p - k
      · have e1 : (p - last).toNat = k + (p - k - last).toNat := by omega
        have e2 : (last - (p - k)).toNat = 0 := by omega
        have e3 : (last - p).toNat = 0 := by omega
        rw [e1, e2, e3, Nat.pow_add, Nat.mul_assoc]
      · by_cases h2 : last ≤ p
        · have e1 : (p - k - last).toNat = 0 := by omega
          have e2 : (last - p).toNat = 0 := by omega
          have e3 : m * 2 ^ k = m * 2 ^ (p - last).toNat * 2 ^ (last - (p - k)).toNat := by
            rw [Nat.mul_assoc, ← Nat.pow_add]
            congr 2
            omega
          rw [e1, e2, Nat.pow_zero, Nat.mul_one, e3]
          have := rhe_scale (m * 2 ^ (p - last).toNat) 0 (last - (p - k)).toNat
          rw [Nat.zero_add] at this
          exact this
        · have e1 : (p - k - last).toNat = 0 := by omega
          have e2 : (p - last).toNat = 0 := by omega
          have e3 : (last - (p - k)).toNat = (last - p).toNat + k := by omega
          rw [e1, e2, e3, Nat.pow_zero, Nat.mul_one, Nat.mul_one]
          exact rhe_scale m _ k
    rw [key]

/-- In units of 2 ^ -1074. -/
theorem rungOf_units (mag : Nat) (place : Int) (h : -1074 ≤ place) : rungOf mag place = rungOf (mag * 2 ^ (place + 1074).toNat) (-1074) := by
  have := rungOf_scale mag (place + 1074).toNat place
  rw [show place - ((place + 1074).toNat : Int) = -1074 by omega] at this
  exact this.symm

theorem rungOf_at (U : Nat) (h : U ≠ 0) : rungOf U (-1074) = min ((U.log2 - 52) * 4503599627370496 + rhe U (U.log2 - 52)) 9218868437227405312 := by
  rw [rungOf_eq _ _ h]
  by_cases h52 : U.log2 ≤ 52
  · have e : max (-1074 + (U.log2 : Int) - 52) (-1074) = -1074 := by omega
    rw [e]
    have e1 : U.log2 - 52 = 0 := by omega
    rw [e1]
    simp
  · have e : max (-1074 + (U.log2 : Int) - 52) (-1074) = -1074 + U.log2 - 52 := by omega
    rw [e]
    have e1 : (-1074 + (U.log2 : Int) - 52 + 1074).toNat = U.log2 - 52 := by omega
    have e2 : (-1074 - (-1074 + (U.log2 : Int) - 52)).toNat = 0 := by omega
    have e3 : (-1074 + (U.log2 : Int) - 52 - -1074).toNat = U.log2 - 52 := by omega
    rw [e1, e2, e3, Nat.pow_zero, Nat.mul_one]

/-! ### a rung's number -/

def val (r : Nat) : Nat := if r < 4503599627370496 then r else (4503599627370496 + r % 4503599627370496) * 2 ^ (r / 4503599627370496 - 1)

theorem val_succ (r : Nat) : val r < val (r + 1) := by
  unfold val
  by_cases h1 : r + 1 < 4503599627370496
  · rw [if_pos (by omega), if_pos h1]; omega
  · by_cases h2 : r < 4503599627370496
    · have : r = 4503599627370495 := by omega
      subst this
      decide
    · rw [if_neg h2, if_neg (by omega)]
      have hp : 0 < 2 ^ (r / 4503599627370496 - 1) := Nat.two_pow_pos _
      by_cases h3 : r % 4503599627370496 = 4503599627370495
      · have e1 : (r + 1) % 4503599627370496 = 0 := by omega
        have e2 : (r + 1) / 4503599627370496 - 1 = (r / 4503599627370496 - 1) + 1 := by omega
        rw [e1, e2, h3, Nat.pow_succ]
        generalize 2 ^ (r / 4503599627370496 - 1) = P at *
        omega
      · have e1 : (r + 1) % 4503599627370496 = r % 4503599627370496 + 1 := by omega
        have e2 : (r + 1) / 4503599627370496 = r / 4503599627370496 := by omega
        rw [e1, e2]
        exact Nat.mul_lt_mul_of_pos_right (by omega) hp

theorem val_lt {r s : Nat} (h : r < s) : val r < val s := by
  induction s with
  | zero => omega
  | succ s ih =>
    by_cases e : r = s
    · subst e; exact val_succ r
    · exact Nat.lt_trans (ih (by omega)) (val_succ s)

theorem val_le {r s : Nat} (h : r ≤ s) : val r ≤ val s := by
  by_cases e : r = s
  · subst e; exact Nat.le_refl _
  · exact Nat.le_of_lt (val_lt (by omega))

theorem val_ge (r : Nat) : r ≤ val r := by
  induction r with
  | zero => exact Nat.zero_le _
  | succ r ih => have := val_succ r; omega

theorem val_ne {r : Nat} (h : r ≠ 0) : val r ≠ 0 := by have := val_ge r; omega
theorem val_zero : val 0 = 0 := by decide

/-- A rung's number is rounded to it. -/
theorem rungOf_val {r : Nat} (h : r ≤ 9218868437227405312) : rungOf (val r) (-1074) = r := by
  by_cases h0 : r = 0
  · subst h0; rw [val_zero]; rfl
  · rw [rungOf_at _ (val_ne h0)]
    unfold val
    by_cases h1 : r < 4503599627370496
    · rw [if_pos h1]
      have hl : r.log2 < 52 := (Nat.log2_lt h0).2 (by omega)
      have e : r.log2 - 52 = 0 := by omega
      rw [e, rhe_zero]
      omega
    · rw [if_neg h1]
      have hb : (4503599627370496 + r % 4503599627370496).log2 = 52 := by
        rw [Nat.log2_eq_iff (by omega)]
        omega
      rw [log2_scale _ (by omega), hb]
      have e : 52 + (r / 4503599627370496 - 1) - 52 = r / 4503599627370496 - 1 := by omega
      rw [e]
      have hs := rhe_scale (4503599627370496 + r % 4503599627370496) 0 (r / 4503599627370496 - 1)
      rw [Nat.zero_add, rhe_zero] at hs
      rw [hs]
      omega

/-- Rounding keeps the order. -/
theorem le_rungOf {r U : Nat} (hr : r ≤ 9218868437227405312) (h : val r ≤ U) : r ≤ rungOf U (-1074) := by
  by_cases h0 : U = 0
  · subst h0
    have : r = 0 := by have := val_ge r; omega
    omega
  · rw [rungOf_at _ h0]
    refine Nat.le_min.2 ⟨?_, hr⟩
    have hq := rhe_ge U (U.log2 - 52)
    by_cases hl : U.log2 ≤ 52
    · have e : U.log2 - 52 = 0 := by omega
      rw [e, rhe_zero]
      have := val_ge r
      omega
    · obtain ⟨L, hL⟩ : ∃ L, U.log2 = 53 + L := ⟨U.log2 - 53, by omega⟩
      have e : U.log2 - 52 = L + 1 := by omega
      rw [e] at hq ⊢
      have lo : 2 ^ U.log2 ≤ U := Nat.log2_self_le h0
      have hi : U < 2 ^ (U.log2 + 1) := Nat.lt_log2_self
      rw [hL] at lo hi
      have p1 : 2 ^ (53 + L) = 4503599627370496 * 2 ^ (L + 1) := by
        rw [show 53 + L = 52 + (L + 1) by omega, Nat.pow_add]
      have p2 : 2 ^ (53 + L + 1) = 9007199254740992 * 2 ^ (L + 1) := by
        rw [show 53 + L + 1 = 53 + (L + 1) by omega, Nat.pow_add]
      rw [p1] at lo
      rw [p2] at hi
      have hp : 0 < 2 ^ (L + 1) := Nat.two_pow_pos _
      have q1 : 4503599627370496 ≤ U / 2 ^ (L + 1) := (Nat.le_div_iff_mul_le hp).2 lo
      have q2 : U / 2 ^ (L + 1) < 9007199254740992 := (Nat.div_lt_iff_lt_mul hp).2 hi
      have q3 : U < (U / 2 ^ (L + 1) + 1) * 2 ^ (L + 1) := by
        have := Nat.lt_mul_div_succ U hp
        rw [Nat.mul_comm] at this
        exact this
      generalize U / 2 ^ (L + 1) = q at *
      -- the next rung's number is beyond U
      have hnext : val ((L + 1) * 4503599627370496 + q + 1) = (q + 1) * 2 ^ (L + 1) := by
        unfold val
        rw [if_neg (by omega)]
        by_cases hc : q + 1 < 9007199254740992
        · have e1 : ((L + 1) * 4503599627370496 + q + 1) % 4503599627370496 = q + 1 - 4503599627370496 := by omega
          have e2 : ((L + 1) * 4503599627370496 + q + 1) / 4503599627370496 - 1 = L + 1 := by omega
          rw [e1, e2, show 4503599627370496 + (q + 1 - 4503599627370496) = q + 1 by omega]
        · have e0 : q = 9007199254740991 := by omega
          subst e0
          have e1 : ((L + 1) * 4503599627370496 + 9007199254740991 + 1) % 4503599627370496 = 0 := by omega
          have e2 : ((L + 1) * 4503599627370496 + 9007199254740991 + 1) / 4503599627370496 - 1 = L + 1 + 1 := by omega
          rw [e1, e2, Nat.pow_succ 2 (L + 1)]
          omega
      refine Nat.le_trans ?_ (Nat.add_le_add_left hq _)
      refine Nat.le_of_lt_succ (Nat.lt_of_not_le fun hge => ?_)
      have := val_le hge
      rw [hnext] at this
      omega

end Go.Proofs.Qxb6603048a
