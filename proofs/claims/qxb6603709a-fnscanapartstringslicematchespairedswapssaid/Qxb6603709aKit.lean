/-
  SMALL WORDS OF THIS SEAT, of no program: 'Still w w'' (the world has drawn at most: no cell has turned), 'fill' (a row that a loop fills from the left), closings.
-/
import Derived.WalkKit
import Derived.Deep.OwnRows
import Derived.WalkSmall
namespace Go.Proofs.Qxb6603709a
open Go.RowKit

theorem ret_bool {a b : Bool} (h : a = b) : Ending.returned (.bool a) = .returned (.bool b) := by rw [h]
theorem ret_int {k : IntKind} {a b : Int} (h : a = b) : Ending.returned (.int k a) = .returned (.int k b) := by rw [h]

/-- The world has drawn, at most. -/
structure Still (w w' : World) : Prop where
  heap : w'.heap = w.heap
  os : w'.os = w.os
  output : w'.output = w.output
  tape : w'.tape = w.tape

namespace Still
variable {w w' w'' : World}
theorem refl (w : World) : Still w w := ⟨rfl, rfl, rfl, rfl⟩
theorem drew (h : Still w w') : Still w w'.drew := ⟨h.heap, h.os, h.output, h.tape⟩
theorem drewN (h : Still w w') (n : Nat) : Still w (w'.drewN n) := ⟨h.heap, h.os, h.output, h.tape⟩
theorem trans (h : Still w w') (k : Still w' w'') : Still w w'' := ⟨k.heap.trans h.heap, k.os.trans h.os, k.output.trans h.output, k.tape.trans h.tape⟩
theorem cell (h : Still w w') (a : Addr) : w'.cell? a = w.cell? a := by simp [World.cell?, h.heap]
theorem frozen (h : Still w w') (a : Addr) : w'.frozen? a = w.frozen? a := by simp [World.frozen?, h.heap]
theorem size (h : Still w w') : w'.heap.size = w.heap.size := by rw [h.heap]
theorem below (h : Still w w') (B : Nat) : Below B w w' := ⟨h.os, h.tape, h.output, by rw [h.heap]; exact Nat.le_refl _, fun k _ => by rw [h.heap]⟩
theorem rowIs (h : Still w w') {b : Nat} {t : TypeId} {n : Nat} {f : Nat → Value} (r : w.rowIs b t n f) : w'.rowIs b t n f := r.of_block (by rw [h.heap])
end Still

/-- What a loop over an own row says: the first k cells are f's, the rest is z. -/
def fill (f : Nat → Value) (z : Value) (k : Nat) : Nat → Value := fun j => if j < k then f j else z

theorem fill_zero (f : Nat → Value) (z : Value) : fill f z 0 = fun _ => z := by funext j; simp [fill]
theorem fill_set (f : Nat → Value) (z : Value) (k : Nat) : (fun j => if j = k then f k else fill f z k j) = fill f z (k + 1) := by
  funext j
  simp only [fill]
  by_cases e : j = k
  · subst e; simp
  · rw [if_neg e]
    by_cases h : j < k
    · rw [if_pos h, if_pos (by omega)]
    · rw [if_neg h, if_neg (by omega)]
theorem fill_all {w : World} {b : Nat} {t : TypeId} {n k : Nat} {f : Nat → Value} {z : Value} (h : w.rowIs b t n (fill f z k)) (hk : n ≤ k) : w.rowIs b t n f :=
  h.congr (fun i hi => by simp [fill]; omega)

/-- A row of the call's own stays below what comes later. -/
theorem rowIs_below {w w' : World} {b B : Nat} {t : TypeId} {n : Nat} {f : Nat → Value} (r : w.rowIs b t n f) (h : Below B w w') (hb : b < B) : w'.rowIs b t n f :=
  r.of_block (h.block b hb)

/-- Block b alone may have turned. -/
structure Only (b : Nat) (w w' : World) : Prop where
  os : w'.os = w.os
  tape : w'.tape = w.tape
  output : w'.output = w.output
  size : w'.heap.size = w.heap.size
  block : ∀ k, k ≠ b → w'.heap[k]? = w.heap[k]?

namespace Only
variable {b : Nat} {w w' w'' : World}
theorem refl (b : Nat) (w : World) : Only b w w := ⟨rfl, rfl, rfl, rfl, fun _ _ => rfl⟩
theorem trans (h : Only b w w') (k : Only b w' w'') : Only b w w'' := ⟨k.os.trans h.os, k.tape.trans h.tape, k.output.trans h.output, k.size.trans h.size, fun i hi => (k.block i hi).trans (h.block i hi)⟩
theorem still (h : Only b w w') (s : Still w' w'') : Only b w w'' := ⟨s.os.trans h.os, s.tape.trans h.tape, s.output.trans h.output, s.size.trans h.size, fun i hi => by rw [s.heap]; exact h.block i hi⟩
theorem setCell (h : Only b w w') (o : Nat) (v : Value) : Only b w (w'.setCell ⟨b, o, none⟩ v) :=
  ⟨h.os, h.tape, h.output, by rw [← h.size]; simp [World.setCell], fun i hi => (Below.heap_setCell w' ⟨b, o, none⟩ v i hi).trans (h.block i hi)⟩
theorem below (h : Only b w w') {B : Nat} (hB : B ≤ b) : Below B w w' := ⟨h.os, h.tape, h.output, by rw [h.size]; exact Nat.le_refl _, fun k hk => h.block k (by omega)⟩
theorem rowIs {c : Nat} {t : TypeId} {n : Nat} {f : Nat → Value} (h : Only b w w') (r : w.rowIs c t n f) (hc : c ≠ b) : w'.rowIs c t n f := r.of_block (h.block c hc)
end Only

end Go.Proofs.Qxb6603709a
