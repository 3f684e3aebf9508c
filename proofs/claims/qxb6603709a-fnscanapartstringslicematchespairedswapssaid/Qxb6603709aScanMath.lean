/-
  THE PLAIN LAW of the three scans: no Go in sight. Two lists of places (those of a part whose element does not come before the pivot, from the left; those whose element does, from the right), the exchange of the first t pairs, and what stands while the two scans go.
-/
import Derived.Below
namespace Go.Proofs.Qxb6603709a.ScanMath

/-- Go's '<' on strings. -/
def ltb (a b : ByteArray) : Bool := Op.bytesLess a.toList b.toList

/-! ### the two lists -/

def nbL (B : Nat → Bool) (i e : Nat) : List Nat := (List.range' i (e - i)).filter (fun p => !B p)
def bfL (B : Nat → Bool) (i e : Nat) : List Nat := ((List.range' i (e - i)).filter B).reverse

theorem range_split {i k e : Nat} (h1 : i ≤ k) (h2 : k ≤ e) : List.range' i (e - i) = List.range' i (k - i) ++ List.range' k (e - k) := by
  have := @List.range'_append_1 i (k - i) (e - k)
  rw [show i + (k - i) = k by omega, show k - i + (e - k) = e - i by omega] at this
  exact this.symm

theorem nb_split {B : Nat → Bool} {i k e : Nat} (h1 : i ≤ k) (h2 : k ≤ e) : nbL B i e = nbL B i k ++ nbL B k e := by
  unfold nbL; rw [range_split h1 h2, List.filter_append]
theorem bf_split {B : Nat → Bool} {i k e : Nat} (h1 : i ≤ k) (h2 : k ≤ e) : bfL B i e = bfL B k e ++ bfL B i k := by
  unfold bfL; rw [range_split h1 h2, List.filter_append, List.reverse_append]

theorem nb_self (B : Nat → Bool) (i : Nat) : nbL B i i = [] := by simp [nbL]
theorem bf_self (B : Nat → Bool) (i : Nat) : bfL B i i = [] := by simp [bfL]
theorem nb_one (B : Nat → Bool) (k : Nat) : nbL B k (k + 1) = if B k = true then [] else [k] := by
  unfold nbL
  rw [show k + 1 - k = 1 by omega]
  cases h : B k <;> simp [h]
theorem bf_one (B : Nat → Bool) (k : Nat) : bfL B k (k + 1) = if B k = true then [k] else [] := by
  unfold bfL
  rw [show k + 1 - k = 1 by omega]
  cases h : B k <;> simp [h]

theorem mem_nb {B : Nat → Bool} {i e x : Nat} : x ∈ nbL B i e ↔ i ≤ x ∧ x < e ∧ B x = false := by
  unfold nbL
  rw [List.mem_filter, List.mem_range'_1]
  constructor
  · rintro ⟨⟨h1, h2⟩, h3⟩; exact ⟨h1, by omega, by simpa using h3⟩
  · rintro ⟨h1, h2, h3⟩; exact ⟨⟨h1, by omega⟩, by simpa using h3⟩
theorem mem_bf {B : Nat → Bool} {i e x : Nat} : x ∈ bfL B i e ↔ i ≤ x ∧ x < e ∧ B x = true := by
  unfold bfL
  rw [List.mem_reverse, List.mem_filter, List.mem_range'_1]
  constructor
  · rintro ⟨⟨h1, h2⟩, h3⟩; exact ⟨h1, by omega, h3⟩
  · rintro ⟨h1, h2, h3⟩; exact ⟨⟨h1, by omega⟩, h3⟩

theorem count_split (B : Nat → Bool) {i e : Nat} (h : i ≤ e) : (nbL B i e).length + (bfL B i e).length = e - i := by
  obtain ⟨d, rfl⟩ : ∃ d, e = i + d := ⟨e - i, by omega⟩
  clear h
  induction d with
  | zero => simp [nb_self, bf_self]
  | succ d ih =>
    rw [← Nat.add_assoc, nb_split (k := i + d) (by omega) (by omega), bf_split (k := i + d) (by omega) (by omega), nb_one, bf_one]
    simp only [List.length_append]
    cases B (i + d) <;> simp <;> omega

theorem getD_mem {l : List Nat} {t : Nat} (h : t < l.length) : l.getD t 0 ∈ l := by
  rw [List.getD_eq_getElem?_getD, List.getElem?_eq_getElem h]
  exact List.getElem_mem h
theorem getD_left {a b : List Nat} {t : Nat} (h : t < a.length) : (a ++ b).getD t 0 = a.getD t 0 := by
  rw [List.getD_eq_getElem?_getD, List.getElem?_append_left h, ← List.getD_eq_getElem?_getD]
theorem getD_right {a b : List Nat} {t : Nat} (h : a.length ≤ t) : (a ++ b).getD t 0 = b.getD (t - a.length) 0 := by
  rw [List.getD_eq_getElem?_getD, List.getElem?_append_right h, ← List.getD_eq_getElem?_getD]

/-! ### the exchanges -/

/-- Places p and q exchanged (p is written first). -/
def swapF (f : Nat → ByteArray) (p q : Nat) : Nat → ByteArray := fun x => if x = q then f p else if x = p then f q else f x

/-- The first t pairs exchanged. -/
def swN (NB BF : List Nat) (f : Nat → ByteArray) : Nat → Nat → ByteArray
  | 0 => f
  | t + 1 => swapF (swN NB BF f t) (NB.getD t 0) (BF.getD t 0)

/-! ### what stands while the scans go -/

/-- The left scan has come to i, the right one to e (the places from e on are passed); t pairs have been exchanged; X bounds the left list's part, Y the right one's. -/
structure Inv (S : Nat → ByteArray) (piv : ByteArray) (i0 X Y e0 i e t : Nat) (f : Nat → ByteArray) : Prop where
  h0 : i0 ≤ i
  hX : i ≤ X
  hY : Y ≤ e
  he : e ≤ e0
  hie : i ≤ e
  nb : (nbL (fun p => ltb (S p) piv) i0 i).length = t
  bf : (bfL (fun p => ltb (S p) piv) e e0).length = t
  eq : f = swN (nbL (fun p => ltb (S p) piv) i0 X) (bfL (fun p => ltb (S p) piv) Y e0) S t
  same : ∀ p, (p < i0 ∨ (i ≤ p ∧ p < e) ∨ e0 ≤ p) → f p = S p
  left : ∀ p, i0 ≤ p → p < i → ltb (f p) piv = true
  right : ∀ p, e ≤ p → p < e0 → ltb (f p) piv = false

namespace Inv
variable {S : Nat → ByteArray} {piv : ByteArray} {i0 X Y e0 i e t : Nat} {f : Nat → ByteArray}

theorem start (hX : i0 ≤ X) (hY : Y ≤ e0) (h : i0 ≤ e0) : Inv S piv i0 X Y e0 i0 e0 0 S :=
  ⟨Nat.le_refl _, hX, hY, Nat.le_refl _, h, by rw [nb_self]; rfl, by rw [bf_self]; rfl, rfl, fun _ _ => rfl, fun p h1 h2 => absurd h1 (by omega), fun p h1 h2 => absurd h1 (by omega)⟩

theorem passL (h : Inv S piv i0 X Y e0 i e t f) (hx : i < X) (hl : i < e) (hb : ltb (f i) piv = true) : Inv S piv i0 X Y e0 (i + 1) e t f := by
  have hs : ltb (S i) piv = true := by rw [← h.same i (.inr (.inl ⟨Nat.le_refl _, hl⟩))]; exact hb
  refine ⟨by have := h.h0; omega, hx, h.hY, h.he, hl, ?_, h.bf, h.eq, fun p hp => h.same p (by omega), fun p h1 h2 => ?_, h.right⟩
  · rw [nb_split h.h0 (Nat.le_succ i), nb_one, if_pos hs, List.append_nil]; exact h.nb
  · by_cases e' : p = i
    · subst e'; exact hb
    · exact h.left p h1 (by omega)

theorem passR (h : Inv S piv i0 X Y e0 i (e + 1) t f) (hy : Y ≤ e) (hl : i ≤ e) (hb : ltb (f e) piv = false) : Inv S piv i0 X Y e0 i e t f := by
  have hs : ltb (S e) piv = false := by rw [← h.same e (.inr (.inl ⟨hl, Nat.lt_succ_self _⟩))]; exact hb
  refine ⟨h.h0, h.hX, hy, by have := h.he; omega, hl, h.nb, ?_, h.eq, fun p hp => h.same p (by omega), h.left, fun p h1 h2 => ?_⟩
  · rw [bf_split (Nat.le_succ e) h.he, bf_one, if_neg (by rw [hs]; simp), List.append_nil]; exact h.bf
  · by_cases e' : p = e
    · subst e'; exact hb
    · exact h.right p (by omega) h2

/-- The pair that comes next. -/
theorem next_nb (h : Inv S piv i0 X Y e0 i e t f) (hx : i < X) (hl : i < e) (hb : ltb (f i) piv = false) : (nbL (fun p => ltb (S p) piv) i0 X).getD t 0 = i ∧ t < (nbL (fun p => ltb (S p) piv) i0 X).length := by
  have hs : ltb (S i) piv = false := by rw [← h.same i (.inr (.inl ⟨Nat.le_refl _, hl⟩))]; exact hb
  have e1 : nbL (fun p => ltb (S p) piv) i0 X = nbL (fun p => ltb (S p) piv) i0 i ++ ([i] ++ nbL (fun p => ltb (S p) piv) (i + 1) X) := by
    rw [nb_split h.h0 h.hX, nb_split (Nat.le_succ i) hx, nb_one, if_neg (by rw [hs]; simp)]
  rw [e1]
  refine ⟨?_, by simp [h.nb]⟩
  rw [getD_right (by rw [h.nb]; exact Nat.le_refl _), h.nb, Nat.sub_self]
  rfl

theorem next_bf (h : Inv S piv i0 X Y e0 i (e + 1) t f) (hy : Y ≤ e) (hl : i ≤ e) (hb : ltb (f e) piv = true) : (bfL (fun p => ltb (S p) piv) Y e0).getD t 0 = e ∧ t < (bfL (fun p => ltb (S p) piv) Y e0).length := by
  have hs : ltb (S e) piv = true := by rw [← h.same e (.inr (.inl ⟨hl, Nat.lt_succ_self _⟩))]; exact hb
  have e1 : bfL (fun p => ltb (S p) piv) Y e0 = bfL (fun p => ltb (S p) piv) (e + 1) e0 ++ ([e] ++ bfL (fun p => ltb (S p) piv) Y e) := by
    rw [bf_split h.hY h.he, bf_split hy (Nat.le_succ e), bf_one, if_pos hs]
  rw [e1]
  refine ⟨?_, by simp [h.bf]⟩
  rw [getD_right (by rw [h.bf]; exact Nat.le_refl _), h.bf, Nat.sub_self]
  rfl

theorem swap (h : Inv S piv i0 X Y e0 i (e + 1) t f) (hx : i < X) (hy : Y ≤ e) (hl : i < e) (hb : ltb (f i) piv = false) (hb' : ltb (f e) piv = true) : Inv S piv i0 X Y e0 (i + 1) e (t + 1) (swapF f i e) := by
  have n1 := (h.next_nb hx (by omega) hb).1
  have n2 := (h.next_bf hy (by omega) hb').1
  have hs : ltb (S i) piv = false := by rw [← h.same i (.inr (.inl ⟨Nat.le_refl _, by omega⟩))]; exact hb
  have hs' : ltb (S e) piv = true := by rw [← h.same e (.inr (.inl ⟨by omega, Nat.lt_succ_self _⟩))]; exact hb'
  have hhe := h.he
  have hh0 := h.h0
  refine ⟨by omega, hx, hy, by omega, by omega, ?_, ?_, ?_, fun p hp => ?_, fun p h1 h2 => ?_, fun p h1 h2 => ?_⟩
  · rw [nb_split h.h0 (Nat.le_succ i), nb_one, if_neg (by rw [hs]; simp), List.length_append, h.nb]; rfl
  · rw [bf_split (Nat.le_succ e) h.he, bf_one, if_pos hs', List.length_append, h.bf]; rfl
  · show swapF f i e = swapF (swN _ _ S t) _ _
    rw [n1, n2, ← h.eq]
  · unfold swapF
    rw [if_neg (by omega), if_neg (by omega)]
    exact h.same p (by omega)
  · unfold swapF
    rw [if_neg (by omega)]
    by_cases e' : p = i
    · rw [if_pos e']; exact hb'
    · rw [if_neg e']; exact h.left p h1 (by omega)
  · unfold swapF
    by_cases e' : p = e
    · rw [if_pos e']; exact hb
    · rw [if_neg e', if_neg (by omega)]; exact h.right p (by omega) h2

/-- The pairs that have been exchanged stood in order. -/
theorem done_pairs (h : Inv S piv i0 X Y e0 i e t f) : ∀ t', t' < t → t' < (nbL (fun p => ltb (S p) piv) i0 X).length ∧ t' < (bfL (fun p => ltb (S p) piv) Y e0).length ∧
    (nbL (fun p => ltb (S p) piv) i0 X).getD t' 0 < i ∧ i0 ≤ (nbL (fun p => ltb (S p) piv) i0 X).getD t' 0 ∧ e ≤ (bfL (fun p => ltb (S p) piv) Y e0).getD t' 0 ∧ (bfL (fun p => ltb (S p) piv) Y e0).getD t' 0 < e0 := by
  intro t' ht
  have e1 := nb_split (B := fun p => ltb (S p) piv) h.h0 h.hX
  have e2 := bf_split (B := fun p => ltb (S p) piv) h.hY h.he
  have l1 : t' < (nbL (fun p => ltb (S p) piv) i0 i).length := by rw [h.nb]; exact ht
  have l2 : t' < (bfL (fun p => ltb (S p) piv) e e0).length := by rw [h.bf]; exact ht
  rw [e1, e2, getD_left l1, getD_left l2]
  have m1 := mem_nb.1 (getD_mem l1)
  have m2 := mem_bf.1 (getD_mem l2)
  simp only [List.length_append]
  exact ⟨by omega, by omega, m1.2.1, m1.1, m2.1, m2.2.1⟩

end Inv

/-! ### the end of scan -/

/-- t is the number of pairs that the model exchanges. -/
structure Paired (NB BF : List Nat) (t : Nat) : Prop where
  lo : ∀ t', t' < t → t' < NB.length ∧ t' < BF.length ∧ NB.getD t' 0 < BF.getD t' 0
  stop : ¬ (t < NB.length ∧ t < BF.length ∧ NB.getD t 0 < BF.getD t 0)

theorem scan_end {S : Nat → ByteArray} {piv : ByteArray} {i0 e0 i t : Nat} {f : Nat → ByteArray} (h : Inv S piv i0 e0 i0 e0 i i t f) :
    Paired (nbL (fun p => ltb (S p) piv) i0 e0) (bfL (fun p => ltb (S p) piv) i0 e0) t ∧ i = i0 + (bfL (fun p => ltb (S p) piv) i0 e0).length := by
  have e1 := nb_split (B := fun p => ltb (S p) piv) h.h0 h.hX
  have e2 := bf_split (B := fun p => ltb (S p) piv) h.hY h.he
  refine ⟨⟨fun t' ht => ?_, fun ⟨h1, h2, h3⟩ => ?_⟩, ?_⟩
  · have := h.done_pairs t' ht
    exact ⟨this.1, this.2.1, by omega⟩
  · rw [e1] at h1 h3
    rw [e2] at h2 h3
    rw [List.length_append] at h1 h2
    rw [getD_right (by rw [h.nb]; exact Nat.le_refl _), getD_right (by rw [h.bf]; exact Nat.le_refl _), h.nb, h.bf, Nat.sub_self] at h3
    have m1 := mem_nb.1 (getD_mem (l := nbL (fun p => ltb (S p) piv) i e0) (t := 0) (by have := h.nb; omega))
    have m2 := mem_bf.1 (getD_mem (l := bfL (fun p => ltb (S p) piv) i0 i) (t := 0) (by have := h.bf; omega))
    omega
  · rw [e2, List.length_append, h.bf, ← h.nb]
    have := count_split (fun p => ltb (S p) piv) h.h0
    have := h.h0
    omega

/-! ### the end of scanApart -/

/-- What scanApart answers. -/
structure ApartEnd (NB BF : List Nat) (L F e0 i e t : Nat) : Prop where
  tmin : t ≤ NB.length ∧ t ≤ BF.length ∧ (t = NB.length ∨ t = BF.length)
  ans : (NB.length ≤ BF.length ∧ i = L ∧ (NB.length = 0 → e = e0) ∧ (0 < NB.length → BF.getD (NB.length - 1) 0 = e)) ∨ (BF.length < NB.length ∧ NB.getD BF.length 0 = i ∧ e = F)

theorem apart_end1 {S : Nat → ByteArray} {piv : ByteArray} {i0 L F e0 e t : Nat} {f : Nat → ByteArray} (h : Inv S piv i0 L F e0 L e t f) (hl : (t = 0 ∧ e = e0) ∨ (0 < t ∧ (bfL (fun p => ltb (S p) piv) F e0).getD (t - 1) 0 = e)) :
    ApartEnd (nbL (fun p => ltb (S p) piv) i0 L) (bfL (fun p => ltb (S p) piv) F e0) L F e0 L e t := by
  have hn := h.nb
  have hb : t ≤ (bfL (fun p => ltb (S p) piv) F e0).length := by
    rw [bf_split h.hY h.he, List.length_append, h.bf]
    omega
  refine ⟨⟨by omega, hb, .inl hn.symm⟩, .inl ⟨by omega, rfl, fun h0 => ?_, fun h0 => ?_⟩⟩
  · rcases hl with ⟨_, h2⟩ | ⟨h2, _⟩
    · exact h2
    · omega
  · rcases hl with ⟨h2, _⟩ | ⟨_, h2⟩
    · omega
    · rw [hn]; exact h2

theorem apart_end2 {S : Nat → ByteArray} {piv : ByteArray} {i0 L F e0 i t : Nat} {f : Nat → ByteArray} (h : Inv S piv i0 L F e0 i F t f) (hi : i < L) (hLF : L ≤ F) (hb : ltb (f i) piv = false) :
    ApartEnd (nbL (fun p => ltb (S p) piv) i0 L) (bfL (fun p => ltb (S p) piv) F e0) L F e0 i F t := by
  obtain ⟨n1, n2⟩ := h.next_nb hi (by omega) hb
  have hf := h.bf
  refine ⟨⟨by omega, by omega, .inr hf.symm⟩, .inr ⟨by omega, ?_, rfl⟩⟩
  rw [hf]
  exact n1

end Go.Proofs.Qxb6603709a.ScanMath
