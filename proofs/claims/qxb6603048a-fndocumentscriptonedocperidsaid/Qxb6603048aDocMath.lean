/-
  THE PLAIN LAW of FnDocumentScriptOneDocPerID: no Go in sight: the list of a sequence's first occurrences.
-/
import Derived.Test.Qxb6603048aKit
namespace Go.Proofs.Qxb6603048a.DocMath

/-- A document: its name and its value. -/
abbrev Doc := ByteArray × ByteArray

def same (d e : Doc) : Bool := decide (d.1.data = e.1.data) && decide (d.2.data = e.2.data)

theorem bytes_ext {a b : ByteArray} (h : a.data = b.data) : a = b := by cases a; cases b; simpa using h

theorem same_iff {d e : Doc} : same d e = true ↔ d = e := by
  obtain ⟨d1, d2⟩ := d
  obtain ⟨e1, e2⟩ := e
  simp only [same, Bool.and_eq_true, decide_eq_true_eq, Prod.mk.injEq]
  constructor
  · rintro ⟨h1, h2⟩; exact ⟨bytes_ext h1, bytes_ext h2⟩
  · rintro ⟨h1, h2⟩; exact ⟨by rw [h1], by rw [h2]⟩

/-- The first occurrences among K 0 .. K (j - 1), in their order. -/
def dd (K : Nat → Doc) : Nat → List Doc
  | 0 => []
  | j + 1 => if (dd K j).any (fun d => same d (K j)) then dd K j else dd K j ++ [K j]

theorem any_iff {L : List Doc} {d : Doc} : L.any (fun x => same x d) = true ↔ d ∈ L := by
  rw [List.any_eq_true]
  constructor
  · rintro ⟨x, hx, h⟩; rw [← same_iff.1 h]; exact hx
  · intro h; exact ⟨d, h, same_iff.2 rfl⟩

theorem dd_old {K : Nat → Doc} {j : Nat} (h : K j ∈ dd K j) : dd K (j + 1) = dd K j := by
  simp only [dd]; rw [if_pos (any_iff.2 h)]

theorem dd_new {K : Nat → Doc} {j : Nat} (h : ¬ K j ∈ dd K j) : dd K (j + 1) = dd K j ++ [K j] := by
  simp only [dd]; rw [if_neg (fun e => h (any_iff.1 e))]

theorem mem_dd {K : Nat → Doc} {j : Nat} {d : Doc} : d ∈ dd K j ↔ ∃ q, q < j ∧ K q = d := by
  induction j with
  | zero => simp [dd]
  | succ j ih =>
    by_cases h : K j ∈ dd K j
    · rw [dd_old h, ih]
      constructor
      · rintro ⟨q, hq, e⟩; exact ⟨q, by omega, e⟩
      · rintro ⟨q, hq, e⟩
        by_cases eq : q = j
        · subst eq; subst e; exact ih.1 h
        · exact ⟨q, by omega, e⟩
    · rw [dd_new h, List.mem_append, ih]
      constructor
      · rintro (⟨q, hq, e⟩ | h2)
        · exact ⟨q, by omega, e⟩
        · exact ⟨j, by omega, by rw [List.mem_singleton] at h2; exact h2.symm⟩
      · rintro ⟨q, hq, e⟩
        by_cases eq : q = j
        · subst eq; exact .inr (by simp [e])
        · exact .inl ⟨q, by omega, e⟩

theorem length_dd (K : Nat → Doc) (j : Nat) : (dd K j).length ≤ j := by
  induction j with
  | zero => simp [dd]
  | succ j ih =>
    by_cases h : K j ∈ dd K j
    · rw [dd_old h]; omega
    · rw [dd_new h]; simp; omega

theorem prefix_dd (K : Nat → Doc) (j d : Nat) : ∃ R, dd K (j + d) = dd K j ++ R := by
  induction d with
  | zero => exact ⟨[], by simp⟩
  | succ d ih =>
    obtain ⟨R, hR⟩ := ih
    by_cases h : K (j + d) ∈ dd K (j + d)
    · exact ⟨R, by rw [← Nat.add_assoc, dd_old h, hR]⟩
    · exact ⟨R ++ [K (j + d)], by rw [← Nat.add_assoc, dd_new h, hR, List.append_assoc]⟩

/-- A first occurrence stands, in the whole list, where the count of those ahead of it says. -/
theorem at_first {K : Nat → Doc} {j m : Nat} (hj : j < m) (h : ¬ K j ∈ dd K j) : (dd K m)[(dd K j).length]? = some (K j) := by
  obtain ⟨R, hR⟩ := prefix_dd K (j + 1) (m - (j + 1))
  rw [show j + 1 + (m - (j + 1)) = m by omega] at hR
  rw [hR, dd_new h]
  simp

/-- The cells of a row of documents: three a document. -/
def cells (L : List Doc) : List Value := L.flatMap (fun d => [.string d.1, .string d.2, .map none])

theorem cells_append (L : List Doc) (d : Doc) : cells (L ++ [d]) = cells L ++ [.string d.1, .string d.2, .map none] := by simp [cells]
theorem cells_length (L : List Doc) : (cells L).length = L.length * 3 := by
  induction L with
  | nil => rfl
  | cons d L ih => simp only [cells, List.flatMap_cons, List.length_append] at ih ⊢; rw [ih]; simp; omega

theorem cells_at (L : List Doc) (i : Nat) : (cells L)[i * 3]? = L[i]?.map (fun d => .string d.1) ∧ (cells L)[i * 3 + 1]? = L[i]?.map (fun d => .string d.2) ∧ (cells L)[i * 3 + 2]? = L[i]?.map (fun _ => .map none) := by
  induction L generalizing i with
  | nil => simp [cells]
  | cons d L ih =>
    cases i with
    | zero => simp [cells]
    | succ i =>
      have := ih i
      have e0 : (i + 1) * 3 = i * 3 + 1 + 1 + 1 := by omega
      simp only [cells, List.flatMap_cons, List.cons_append, List.nil_append] at this ⊢
      rw [e0]
      simpa using this

/-- The row's strings, told as document's contract tells them. -/
def strs (L : List Doc) : Nat → ByteArray := fun c => if c % 2 = 0 then (L.getD (c / 2) (ByteArray.empty, ByteArray.empty)).1 else (L.getD (c / 2) (ByteArray.empty, ByteArray.empty)).2

theorem strs_0 (L : List Doc) (i : Nat) : strs L (i * 2) = (L.getD i (ByteArray.empty, ByteArray.empty)).1 := by
  have h1 : i * 2 % 2 = 0 := by omega
  have h2 : i * 2 / 2 = i := by omega
  simp [strs, h1, h2]
theorem strs_1 (L : List Doc) (i : Nat) : strs L (i * 2 + 1) = (L.getD i (ByteArray.empty, ByteArray.empty)).2 := by
  have h1 : (i * 2 + 1) % 2 = 1 := by omega
  have h2 : (i * 2 + 1) / 2 = i := by omega
  simp [strs, h1, h2]

theorem strs_eq {L : List Doc} {i : Nat} {a b : ByteArray} (hi : i < L.length) : (strs L (i * 2) = a ∧ strs L (i * 2 + 1) = b) ↔ L[i]? = some (a, b) := by
  rw [strs_0, strs_1, List.getD_eq_getElem?_getD, List.getElem?_eq_getElem hi]
  simp [Prod.ext_iff]

theorem mem_of_hit {L : List Doc} {i : Nat} {a b : ByteArray} (hi : i < L.length) (h0 : strs L (i * 2) = a) (h1 : strs L (i * 2 + 1) = b) : (a, b) ∈ L :=
  List.mem_of_getElem? ((strs_eq hi).1 ⟨h0, h1⟩)

theorem not_mem_of_miss {L : List Doc} {a b : ByteArray} (h : ∀ i, i < L.length → ¬ (strs L (i * 2) = a ∧ strs L (i * 2 + 1) = b)) : ¬ (a, b) ∈ L := by
  intro hm
  obtain ⟨i, hi, e⟩ := List.getElem_of_mem hm
  exact h i hi ((strs_eq hi).2 (by rw [List.getElem?_eq_getElem hi, e]))

end Go.Proofs.Qxb6603048a.DocMath
