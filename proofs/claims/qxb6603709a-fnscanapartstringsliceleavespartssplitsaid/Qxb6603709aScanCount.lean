/-
  THE PLAIN LAW of the counts: of the two parts as many elements come before the pivot after the scan as before it.
-/
import Derived.Test.Qxb6603709aScanMath
namespace Go.Proofs.Qxb6603709a.ScanMath

/-- Place p lies in one of the two parts. -/
def inP (i0 L F e0 p : Nat) : Bool := (decide (i0 ≤ p) && decide (p < L)) || (decide (F ≤ p) && decide (p < e0))

/-- How many places below k lie in the parts and hold what comes before the pivot. -/
def cnt (S : Nat → ByteArray) (piv : ByteArray) (i0 L F e0 k : Nat) : Nat := (bfL (fun p => inP i0 L F e0 p && ltb (S p) piv) 0 k).length

theorem cnt_zero (S : Nat → ByteArray) (piv : ByteArray) (i0 L F e0 : Nat) : cnt S piv i0 L F e0 0 = 0 := by simp [cnt, bf_self]
theorem cnt_yes {S : Nat → ByteArray} {piv : ByteArray} {i0 L F e0 k : Nat} (h1 : inP i0 L F e0 k = true) (h2 : ltb (S k) piv = true) : cnt S piv i0 L F e0 (k + 1) = cnt S piv i0 L F e0 k + 1 := by
  unfold cnt
  rw [bf_split (Nat.zero_le k) (Nat.le_succ k), bf_one, if_pos (by rw [h1, h2]; rfl)]
  simp
theorem cnt_no {S : Nat → ByteArray} {piv : ByteArray} {i0 L F e0 k : Nat} (h : inP i0 L F e0 k = false ∨ ltb (S k) piv = false) : cnt S piv i0 L F e0 (k + 1) = cnt S piv i0 L F e0 k := by
  unfold cnt
  rw [bf_split (Nat.zero_le k) (Nat.le_succ k), bf_one, if_neg (by rcases h with h | h <;> simp [h])]
  simp
theorem cnt_le (S : Nat → ByteArray) (piv : ByteArray) (i0 L F e0 k : Nat) : cnt S piv i0 L F e0 k ≤ k := by
  have := count_split (fun p => inP i0 L F e0 p && ltb (S p) piv) (Nat.zero_le k)
  unfold cnt
  omega

theorem bf_congr {B B' : Nat → Bool} {i e : Nat} (h : ∀ p, i ≤ p → p < e → B p = B' p) : bfL B i e = bfL B' i e := by
  unfold bfL
  congr 1
  apply List.filter_congr
  intro x hx
  rw [List.mem_range'_1] at hx
  exact h x hx.1 (by omega)
theorem bf_none {B : Nat → Bool} {i e : Nat} (h : ∀ p, i ≤ p → p < e → B p = false) : (bfL B i e).length = 0 := by
  rw [bf_congr (B' := fun _ => false) h]; simp [bfL]
theorem bf_all {B : Nat → Bool} {i e : Nat} (h : ∀ p, i ≤ p → p < e → B p = true) : (bfL B i e).length = e - i := by
  rw [bf_congr (B' := fun _ => true) h]
  unfold bfL
  rw [List.length_reverse, List.filter_eq_self.2 (fun _ _ => rfl), List.length_range']

theorem cnt_same {S : Nat → ByteArray} {piv : ByteArray} {i0 L F e0 i e t n : Nat} {f : Nat → ByteArray} (h : Inv S piv i0 L F e0 i e t f) (hLF : L ≤ F) (hn : e0 ≤ n) :
    cnt S piv i0 L F e0 n = cnt f piv i0 L F e0 n := by
  have h0 := h.h0
  have hX := h.hX
  have hY := h.hY
  have he := h.he
  unfold cnt
  have sp : ∀ g : Nat → ByteArray, (bfL (fun p => inP i0 L F e0 p && ltb (g p) piv) 0 n).length
      = (bfL (fun p => inP i0 L F e0 p && ltb (g p) piv) 0 i0).length + (bfL (fun p => inP i0 L F e0 p && ltb (g p) piv) i0 i).length + (bfL (fun p => inP i0 L F e0 p && ltb (g p) piv) i e).length
        + (bfL (fun p => inP i0 L F e0 p && ltb (g p) piv) e e0).length + (bfL (fun p => inP i0 L F e0 p && ltb (g p) piv) e0 n).length := by
    intro g
    rw [bf_split (k := i0) (Nat.zero_le _) (by omega), bf_split (i := i0) (k := i) (by omega) (by omega), bf_split (i := i) (k := e) (by omega) (by omega), bf_split (i := e) (k := e0) (by omega) (by omega)]
    simp only [List.length_append]
    omega
  rw [sp S, sp f]
  have z1 : ∀ g : Nat → ByteArray, (bfL (fun p => inP i0 L F e0 p && ltb (g p) piv) 0 i0).length = 0 := fun g => bf_none (fun p _ h2 => by
    have : inP i0 L F e0 p = false := by unfold inP; rw [decide_eq_false (show ¬ i0 ≤ p by omega), decide_eq_false (show ¬ F ≤ p by omega)]; rfl
    simp [this])
  have z5 : ∀ g : Nat → ByteArray, (bfL (fun p => inP i0 L F e0 p && ltb (g p) piv) e0 n).length = 0 := fun g => bf_none (fun p h1 _ => by
    have : inP i0 L F e0 p = false := by unfold inP; rw [decide_eq_false (show ¬ p < L by omega), decide_eq_false (show ¬ p < e0 by omega)]; simp
    simp [this])
  have m2 : ∀ p, i0 ≤ p → p < i → inP i0 L F e0 p = true := fun p h1 h2 => by unfold inP; rw [decide_eq_true (show i0 ≤ p by omega), decide_eq_true (show p < L by omega)]; rfl
  have m4 : ∀ p, e ≤ p → p < e0 → inP i0 L F e0 p = true := fun p h1 h2 => by unfold inP; rw [decide_eq_true (show F ≤ p by omega), decide_eq_true (show p < e0 by omega)]; simp
  have s2 : (bfL (fun p => inP i0 L F e0 p && ltb (S p) piv) i0 i).length = i - i0 - t := by
    rw [bf_congr (B' := fun p => ltb (S p) piv) (fun p h1 h2 => by rw [m2 p h1 h2]; rfl)]
    have := count_split (fun p => ltb (S p) piv) h0
    have := h.nb
    omega
  have f2 : (bfL (fun p => inP i0 L F e0 p && ltb (f p) piv) i0 i).length = i - i0 := bf_all (fun p h1 h2 => by rw [m2 p h1 h2, h.left p h1 h2]; rfl)
  have s4 : (bfL (fun p => inP i0 L F e0 p && ltb (S p) piv) e e0).length = t := by
    rw [bf_congr (B' := fun p => ltb (S p) piv) (fun p h1 h2 => by rw [m4 p h1 h2]; rfl)]
    exact h.bf
  have f4 : (bfL (fun p => inP i0 L F e0 p && ltb (f p) piv) e e0).length = 0 := bf_none (fun p h1 h2 => by rw [h.right p h1 h2]; simp)
  have c3 : (bfL (fun p => inP i0 L F e0 p && ltb (S p) piv) i e).length = (bfL (fun p => inP i0 L F e0 p && ltb (f p) piv) i e).length := by
    rw [bf_congr (fun p h1 h2 => by rw [← h.same p (.inr (.inl ⟨h1, h2⟩))])]
  have tl : t ≤ i - i0 := by
    have := count_split (fun p => ltb (S p) piv) h0
    have := h.nb
    omega
  rw [z1, z1, z5, z5, s2, f2, s4, f4, c3]
  omega

/-- What lies in no part stands as it stood. -/
theorem out_same {S : Nat → ByteArray} {piv : ByteArray} {i0 L F e0 i e t k : Nat} {f : Nat → ByteArray} (h : Inv S piv i0 L F e0 i e t f) (hk : inP i0 L F e0 k = false) : f k = S k := by
  have h0 := h.h0
  have hX := h.hX
  have hY := h.hY
  have he := h.he
  apply h.same
  unfold inP at hk
  simp only [Bool.or_eq_false_iff, Bool.and_eq_false_iff, decide_eq_false_iff_not] at hk
  omega

/-- Where the left scan stood still ahead of its end there is an element that does not come before the pivot. -/
theorem stop_nb {S : Nat → ByteArray} {piv : ByteArray} {i0 L F e0 i e t : Nat} {f : Nat → ByteArray} (h : Inv S piv i0 L F e0 i e t f) (ha : ApartEnd (nbL (fun p => ltb (S p) piv) i0 L) (bfL (fun p => ltb (S p) piv) F e0) L F e0 i e t) (hLF : L ≤ F) (hi : i < L) : ltb (f i) piv = false := by
  have hY := h.hY
  rcases ha.ans with ⟨_, h2, _⟩ | ⟨h1, h2, _⟩
  · omega
  · have := mem_nb.1 (getD_mem h1)
    rw [h2] at this
    rw [h.same i (.inr (.inl ⟨Nat.le_refl _, by omega⟩))]
    exact this.2.2

theorem stop_or {NB BF : List Nat} {L F e0 i e t : Nat} (ha : ApartEnd NB BF L F e0 i e t) : i = L ∨ e = F := by
  rcases ha.ans with ⟨_, h2, _⟩ | ⟨_, _, h2⟩
  · exact .inl h2
  · exact .inr h2

end Go.Proofs.Qxb6603709a.ScanMath
