/-
  A LIST OF PLACES in a row of ints that the law built by append: 'IntsAt'; what one append does.
-/
import Derived.Test.Qxb6603709aHelpWalks
import Derived.Test.Qxb6603709aScanWalks
import Derived.OwnWalk
set_option linter.unusedVariables false
namespace Go.Proofs.Qxb6603709a
open Go.RowKit ScanMath

theorem Try.info3 : (Try.prog.info? 3).map (fun i => (i.zero, i.size, i.bytes)) = some (some (.int .i64 0), 1, 8) := by kernel_rfl

def intV (x : Nat) : Value := .int .i64 x

/-- What the loop carries: the list l in the row v of the blocks from base on. -/
def Ints (w : World) (base : Nat) (v : Value) (l : List Nat) : Prop := w.ownsRow base 3 1 v l.length (l.map intV)

theorem Ints.nil (w : World) (base : Nat) : Ints w base (.slice none 0 0) [] := World.ownsRow_nil _ _ _ _

theorem cell_new (w : World) (a : Value) (t : TypeId) : ∀ j u, [a][j]? = some u → (w.alloc (.cells #[a] t)).cell? ((⟨w.heap.size, 0, none⟩ : Addr).add j) = some u := by
  intro j u hu
  have h := World.rowIs_alloc w #[a] t (fun _ => a) (fun i hi => by
    match i, hi with
    | 0, _ => rfl)
  rw [WideShapes.add_plain, Nat.zero_add]
  have hj : j < 1 := by
    have := (List.getElem?_eq_some_iff.1 hu).1
    simpa using this
  obtain rfl : j = 0 := by omega
  rw [h.cell (by show 0 < 1; omega)]
  exact hu
theorem ones1 (a : Int) : ∀ u ∈ [Value.int .i64 a], u.oneCell' = true := by
  intro u hu
  simp at hu
  subst hu
  rfl

/-- What one append does. -/
theorem ints_step {w wr w' : World} {base : Nat} {l : List Nat} {v v' : Value} {x : Nat} (o : Obj) (hbase : base ≤ w.heap.size) (hO : Ints wr base v l) (hB : Below base w wr)
    (hown' : w'.ownsRow base 3 1 v' (l.length + 1) (l.map intV ++ [.int .i64 x])) (hgrow : (wr.alloc o).grownBy w' v.ownBlock) :
    Ints w' base v' (l ++ [x]) ∧ Below base w w' := by
  have hsz := hB.size
  have hO2 : (wr.alloc o).ownsRow base 3 1 v l.length (l.map intV) := World.ownsRow.alloc hO o
  refine ⟨?_, ?_⟩
  · unfold Ints
    rw [List.length_append, List.map_append]
    exact hown'
  · have h1 : Below base w (wr.alloc o) := hB.alloc (by omega) o
    exact h1.grown hgrow (by simp; omega) (fun k hk => (hO2.lt k hk).1)

/-- The list as the rest of the law reads it: the row lies in block g. -/
structure IntsAt (w : World) (a : Option Addr) (g : Nat) (l : List Nat) : Prop where
  at' : 0 < l.length → a = some ⟨g, 0, none⟩
  lt : 0 < l.length → g < w.heap.size
  cell : ∀ t, t < l.length → w.cell? ⟨g, t, none⟩ = some (.int .i64 (l.getD t 0 : Nat))

theorem Ints.at {w : World} {base : Nat} {v : Value} {l : List Nat} (h : Ints w base v l) : ∃ a g cap, v = .slice a l.length cap ∧ IntsAt w a g l := by
  have hO : w.ownsRow base 3 1 v l.length (l.map intV) := h
  have hO' := hO
  rcases hO.2 with ⟨rfl, h0⟩ | ⟨g, cap, cur, rfl, hb, hg, _⟩
  · exact ⟨none, 0, 0, by rw [h0], ⟨fun h => absurd h (by omega), fun h => absurd h (by omega), fun t h => absurd h (by omega)⟩⟩
  · refine ⟨some ⟨g, 0, none⟩, g, cap, rfl, ⟨fun _ => rfl, fun _ => (Array.getElem?_eq_some_iff.1 hg).1, fun t ht => ?_⟩⟩
    rw [hO'.cellAt _ (by omega), List.getElem?_map, List.getD_eq_getElem?_getD, List.getElem?_eq_getElem ht]
    rfl

theorem IntsAt.carry {w w' : World} {a : Option Addr} {g : Nat} {l : List Nat} (h : IntsAt w a g l) (hs : w.heap.size ≤ w'.heap.size) (hc : 0 < l.length → ∀ o, w'.cell? ⟨g, o, none⟩ = w.cell? ⟨g, o, none⟩) : IntsAt w' a g l :=
  ⟨h.at', fun h0 => Nat.lt_of_lt_of_le (h.lt h0) hs, fun t ht => by rw [hc (by omega)]; exact h.cell t ht⟩
theorem IntsAt.below {w w' : World} {a : Option Addr} {g B : Nat} {l : List Nat} (h : IntsAt w a g l) (hb : Below B w w') (hB : w.heap.size ≤ B) : IntsAt w' a g l :=
  h.carry hb.size (fun h0 o => hb.cell (p := ⟨g, o, none⟩) (by have := h.lt h0; show g < B; omega))
theorem IntsAt.still {w w' : World} {a : Option Addr} {g : Nat} {l : List Nat} (h : IntsAt w a g l) (hs : Still w w') : IntsAt w' a g l :=
  h.carry (by rw [hs.size]; exact Nat.le_refl _) (fun _ o => hs.cell _)
theorem Only.cell {b : Nat} {w w' : World} (h : Only b w w') {p : Addr} (hp : p.block ≠ b) : w'.cell? p = w.cell? p := by
  simp only [World.cell?, h.block _ hp]
theorem IntsAt.only {w w' : World} {a : Option Addr} {g B : Nat} {l : List Nat} (h : IntsAt w a g l) (hb : Only B w w') (hB : 0 < l.length → g ≠ B) : IntsAt w' a g l :=
  h.carry (by rw [hb.size]; exact Nat.le_refl _) (fun h0 o => hb.cell (by show g ≠ B; exact hB h0))

theorem nb_yes {B : Nat → Bool} {i k : Nat} (h : i ≤ k) (hb : B k = false) : nbL B i (k + 1) = nbL B i k ++ [k] := by
  rw [nb_split h (Nat.le_succ k), nb_one, if_neg (by rw [hb]; simp)]
theorem nb_no {B : Nat → Bool} {i k : Nat} (h : i ≤ k) (hb : B k = true) : nbL B i (k + 1) = nbL B i k := by
  rw [nb_split h (Nat.le_succ k), nb_one, if_pos hb, List.append_nil]
theorem bf_yes {B : Nat → Bool} {k e : Nat} (h : k < e) (hb : B k = true) : bfL B k e = bfL B (k + 1) e ++ [k] := by
  rw [bf_split (Nat.le_succ k) h, bf_one, if_pos hb]
theorem bf_no {B : Nat → Bool} {k e : Nat} (h : k < e) (hb : B k = false) : bfL B k e = bfL B (k + 1) e := by
  rw [bf_split (Nat.le_succ k) h, bf_one, if_neg (by rw [hb]; simp), List.append_nil]
theorem nb_len {B : Nat → Bool} {i e : Nat} (h : i ≤ e) : (nbL B i e).length ≤ e - i := by have := count_split B h; omega
theorem bf_len {B : Nat → Bool} {i e : Nat} (h : i ≤ e) : (bfL B i e).length ≤ e - i := by have := count_split B h; omega

end Go.Proofs.Qxb6603709a
