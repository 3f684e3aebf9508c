/-
  THE PLAIN LAW of FnClassHoldsExact: no Go in sight. A well-formed class is a row of ranges in order and apart; what a binary search over the ends finds is what a scan over all ranges finds.
-/
import Derived.Below
namespace Go.Proofs.Qxb6603048a.ClassMath

def WFC (f : Nat → Int) (p : Nat) : Prop := ∀ k, k < p → f (2 * k) ≤ f (2 * k + 1) ∧ (k + 1 < p → f (2 * k + 1) < f (2 * k + 2))

theorem apart {f : Nat → Int} {p : Nat} (h : WFC f p) (i : Nat) : ∀ d, i + d + 1 < p → f (2 * i + 1) < f (2 * (i + d + 1)) := by
  intro d
  induction d with
  | zero =>
    intro hlt
    have := (h i (by omega)).2 hlt
    have e : 2 * (i + 0 + 1) = 2 * i + 2 := by omega
    rw [e]; exact this
  | succ d ih =>
    intro hlt
    have h1 := ih (by omega)
    have h2 := (h (i + d + 1) (by omega)).1
    have h3 := (h (i + d + 1) (by omega)).2 (by omega)
    have e : 2 * (i + (d + 1) + 1) = 2 * (i + d + 1) + 2 := by omega
    rw [e]; omega

theorem apart' {f : Nat → Int} {p : Nat} (h : WFC f p) {i j : Nat} (hij : i < j) (hj : j < p) : f (2 * i + 1) < f (2 * j) := by
  have := apart h i (j - i - 1) (by omega)
  have e : i + (j - i - 1) + 1 = j := by omega
  rwa [e] at this

theorem ends {f : Nat → Int} {p : Nat} (h : WFC f p) {i j : Nat} (hij : i ≤ j) (hj : j < p) : f (2 * i + 1) ≤ f (2 * j + 1) := by
  by_cases e : i = j
  · subst e; omega
  · have h1 := apart' h (show i < j by omega) hj
    have h2 := (h j hj).1
    omega

/-- What the scan over the first k ranges has found. -/
def scan (f : Nat → Int) (c : Int) : Nat → Bool
  | 0 => false
  | k + 1 => scan f c k || decide (f (2 * k) ≤ c ∧ c ≤ f (2 * k + 1))

theorem scan_iff (f : Nat → Int) (c : Int) (k : Nat) : scan f c k = true ↔ ∃ i, i < k ∧ f (2 * i) ≤ c ∧ c ≤ f (2 * i + 1) := by
  induction k with
  | zero => simp [scan]
  | succ k ih =>
    simp only [scan, Bool.or_eq_true, ih, decide_eq_true_eq]
    constructor
    · rintro (⟨i, hi, h⟩ | h)
      · exact ⟨i, by omega, h⟩
      · exact ⟨k, by omega, h⟩
    · rintro ⟨i, hi, h⟩
      by_cases e : i = k
      · subst e; exact .inr h
      · exact .inl ⟨i, by omega, h⟩

/-- What stands at the binary search's end. -/
def AtEnd (f : Nat → Int) (c : Int) (p lo : Nat) : Prop := lo ≤ p ∧ (∀ i, i < lo → f (2 * i + 1) < c) ∧ (∀ i, lo ≤ i → i < p → c ≤ f (2 * i + 1))

theorem exact_yes {f : Nat → Int} {c : Int} {p lo : Nat} (hF : AtEnd f c p lo) (h1 : lo < p) (h2 : f (2 * lo) ≤ c) : scan f c p = true :=
  (scan_iff f c p).2 ⟨lo, h1, h2, hF.2.2 lo (Nat.le_refl _) h1⟩

theorem exact_no {f : Nat → Int} {c : Int} {p lo : Nat} (h : WFC f p) (hF : AtEnd f c p lo) (h2 : lo < p → c < f (2 * lo)) : scan f c p = false := by
  cases e : scan f c p with
  | false => rfl
  | true =>
    obtain ⟨i, hi, h3, h4⟩ := (scan_iff f c p).1 e
    by_cases hlo : i < lo
    · have := hF.2.1 i hlo; omega
    · have h5 := h2 (by omega)
      by_cases e : i = lo
      · subst e; omega
      · have h6 := apart' h (show lo < i by omega) hi
        have h7 := (h lo (by omega)).1
        omega

/-- A round of the search. -/
theorem search_up {f : Nat → Int} {c : Int} {p m : Nat} (h : WFC f p) (hm : m < p) (hc : f (2 * m + 1) < c) : ∀ i, i < m + 1 → f (2 * i + 1) < c := by
  intro i hi
  have := ends h (show i ≤ m by omega) hm
  omega

theorem search_down {f : Nat → Int} {c : Int} {p m : Nat} (h : WFC f p) (hc : c ≤ f (2 * m + 1)) : ∀ i, m ≤ i → i < p → c ≤ f (2 * i + 1) := by
  intro i hi hp
  have := ends h hi hp
  omega

end Go.Proofs.Qxb6603048a.ClassMath
