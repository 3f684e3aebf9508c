/-
  SMALL WORDS OF THIS SEAT, of no program: rows whose elements take several cells: 'make', filling from the left.
-/
import Derived.Test.Qxb6603048aKit
namespace Go.Proofs.Qxb6603048a
open Go.RowKit Go.Deep

/-- 'make([]T, n)', n a variable, T of whatever number of cells: for every world. -/
theorem run_make_rows {P : Program} (t e : TypeId) (z : Value) (size bytes : Nat) (ht : P.underlying t = some (.slice e)) (hinfo : (P.info? e).map (fun i => (i.zero, i.size, i.bytes)) = some (some z, size, bytes))
    (kl kc : IntKind) (n : Nat) (hbytes : bytes * n ≤ 281474976710656) (h63 : n ≤ 9223372036854775807) (w : World) :
    (Instr.makeSlice t (.int kl (n : Int)) (.int kc (n : Int))).run P w = .ok (.slice (some ⟨w.heap.size, 0, none⟩) n n) (w.alloc (.cells (madeCells z.cells (n * size)) e)) := by
  obtain ⟨i, hi, hzz⟩ := Option.map_eq_some_iff.1 hinfo
  simp only [Prod.mk.injEq] at hzz
  obtain ⟨hz, hs, hb⟩ := hzz
  have hb' : (i.bytes : Int) * (n : Int) ≤ 281474976710656 := by
    have h : ((i.bytes * n : Nat) : Int) ≤ 281474976710656 := by rw [hb]; omega
    rwa [Int.natCast_mul] at h
  have hr := run_make (P := P) w t e i z ht hi hz kl kc n n (by omega) (Int.le_refl _) hb' (by omega)
  simp only [Int.toNat_natCast, hs] at hr
  exact hr

theorem rowIs_madeN (w : World) (cs : Array Value) (f : Nat → Value) (n : Nat) (t : TypeId) (hs : 0 < cs.size) (hf : ∀ i, i < cs.size → cs[i]? = some (f i)) (hp : ∀ i, f (i % cs.size) = f i) : (w.alloc (.cells (madeCells cs n) t)).rowIs w.heap.size t n f := by
  refine ⟨_, blk_alloc_new _ _, size_madeCells _ _, fun i hi => ?_⟩
  have hm : i % cs.size < cs.size := Nat.mod_lt _ hs
  have := hf (i % cs.size) hm
  rw [Array.getElem?_eq_getElem hm] at this
  simp only [Option.some.injEq] at this
  simp [madeCells, hi]
  rw [getElem!_pos cs (i % cs.size) hm, this, hp]

/-- The first k cells are f's, the rest is z's. -/
def fl (f z : Nat → Value) (k : Nat) : Nat → Value := fun j => if j < k then f j else z j

theorem fl_zero (f z : Nat → Value) : fl f z 0 = z := by funext j; simp [fl]
theorem fl_past (f z : Nat → Value) {k j : Nat} (h : k ≤ j) : fl f z k j = z j := by simp [fl]; omega
theorem fl_set (f z : Nat → Value) (k : Nat) : (fun j => if j = k then f k else fl f z k j) = fl f z (k + 1) := by
  funext j
  simp only [fl]
  by_cases e : j = k
  · subst e; simp
  · rw [if_neg e]
    by_cases h : j < k
    · rw [if_pos h, if_pos (by omega)]
    · rw [if_neg h, if_neg (by omega)]
theorem fl_all {w : World} {b : Nat} {t : TypeId} {n k : Nat} {f z : Nat → Value} (h : w.rowIs b t n (fl f z k)) (hk : n ≤ k) : w.rowIs b t n f :=
  h.congr (fun i hi => by simp [fl]; omega)

/-- One store more, from the left. -/
theorem fl_step {w : World} {b : Nat} {t : TypeId} {n k : Nat} {f z : Nat → Value} {v : Value} (h : w.rowIs b t n (fl f z k)) (hv : v = f k) : (w.setCell ⟨b, k, none⟩ v).rowIs b t n (fl f z (k + 1)) := by
  subst hv; rw [← fl_set]; exact h.set k _

theorem fl_cell {w : World} {b : Nat} {t : TypeId} {n k j : Nat} {f z : Nat → Value} (h : w.rowIs b t n (fl f z k)) (hj : j < n) (hk : k ≤ j) : w.cell? ⟨b, j, none⟩ = some (z j) := by
  rw [h.cell hj, fl_past f z hk]

end Go.Proofs.Qxb6603048a
