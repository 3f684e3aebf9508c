/-
  WHAT appendBucketRanges HAS LEFT, as the laws read it: cell by cell.
-/
import Derived.Test.Qxb6603048aPairWalks
namespace Go.Proofs.Qxb6603048a
open Go.RowKit

/-- dst's ranges (nd of them, their words D), then m ranges of the plain functions. -/
structure Out (w : World) (a : Option Addr) (g nd m : Nat) (D : Nat → Nat) (c : Nat) (W : Nat → Nat) : Prop where
  at' : 0 < nd + m → a = some ⟨g, 0, none⟩
  lt : 0 < nd + m → g < w.heap.size
  old : ∀ k, k < nd → w.cell? ⟨g, k * 2, none⟩ = some (.float .f64 (D (k * 2))) ∧ w.cell? ⟨g, k * 2 + 1, none⟩ = some (.float .f64 (D (k * 2 + 1)))
  new : ∀ k, k < m → ∃ s e : Nat, w.cell? ⟨g, (nd + k) * 2, none⟩ = some (.float .f64 s) ∧ w.cell? ⟨g, (nd + k) * 2 + 1, none⟩ = some (.float .f64 e) ∧ Eqv s (sumC W k) ∧ Eqv e (endC c W k)

theorem out_of {w : World} {base nd m c : Nat} {D W : Nat → Nat} {v : Value} {R : List (Nat × Nat)} (hR : R.length = m) (hA : RangesAre c W R)
    (hO : w.ownsRow base 35 2 v (nd + m) ((List.range (nd * 2)).map (fun i => Value.float .f64 (D i)) ++ pcells R)) : ∃ a g cap, v = .slice a (nd + m) cap ∧ Out w a g nd m D c W := by
  have hO' := hO
  rcases hO.2 with ⟨rfl, h0⟩ | ⟨g, cap, cur, rfl, hb, hg, _⟩
  · have e1 : nd = 0 := by omega
    have e2 : m = 0 := by omega
    subst e1; subst e2
    exact ⟨none, 0, 0, rfl, ⟨fun h => absurd h (by omega), fun h => absurd h (by omega), fun k h => absurd h (Nat.not_lt_zero _), fun k h => absurd h (Nat.not_lt_zero _)⟩⟩
  · refine ⟨some ⟨g, 0, none⟩, g, cap, rfl, ⟨fun _ => rfl, fun _ => (Array.getElem?_eq_some_iff.1 hg).1, fun k hk => ?_, fun k hk => ?_⟩⟩
    · refine ⟨?_, ?_⟩
      · rw [hO'.cellAt _ (by omega), List.getElem?_append_left (by simp; omega), List.getElem?_map, List.getElem?_range (by omega)]
        rfl
      · rw [hO'.cellAt _ (by omega), List.getElem?_append_left (by simp; omega), List.getElem?_map, List.getElem?_range (by omega)]
        rfl
    · obtain ⟨p0, p1⟩ := pcells_at R k (by omega)
      obtain ⟨q0, q1⟩ := hA k (by omega)
      refine ⟨_, _, ?_, ?_, q0, q1⟩
      · rw [hO'.cellAt _ (by omega), List.getElem?_append_right (by simp; omega)]
        simp only [List.length_map, List.length_range]
        rw [show (nd + k) * 2 - nd * 2 = k * 2 by omega]
        exact p0
      · rw [hO'.cellAt _ (by omega), List.getElem?_append_right (by simp; omega)]
        simp only [List.length_map, List.length_range]
        rw [show (nd + k) * 2 + 1 - nd * 2 = k * 2 + 1 by omega]
        exact p1

theorem Out.carry {w w' : World} {a : Option Addr} {g nd m c : Nat} {D W : Nat → Nat} (h : Out w a g nd m D c W) (hs : w.heap.size ≤ w'.heap.size) (hc : 0 < nd + m → ∀ o, w'.cell? ⟨g, o, none⟩ = w.cell? ⟨g, o, none⟩) : Out w' a g nd m D c W :=
  ⟨h.at', fun h0 => Nat.lt_of_lt_of_le (h.lt h0) hs, fun k hk => by rw [hc (by omega), hc (by omega)]; exact h.old k hk, fun k hk => by
    obtain ⟨s, e, h1, h2, h3⟩ := h.new k hk
    exact ⟨s, e, by rw [hc (by omega)]; exact h1, by rw [hc (by omega)]; exact h2, h3⟩⟩

theorem Out.below {w w' : World} {a : Option Addr} {g nd m c B : Nat} {D W : Nat → Nat} (h : Out w a g nd m D c W) (hb : Below B w w') (hB : w.heap.size ≤ B) : Out w' a g nd m D c W :=
  h.carry hb.size (fun h0 o => hb.cell (p := ⟨g, o, none⟩) (by have := h.lt h0; show g < B; omega))

theorem Out.still {w w' : World} {a : Option Addr} {g nd m c : Nat} {D W : Nat → Nat} (h : Out w a g nd m D c W) (hs : Still w w') : Out w' a g nd m D c W :=
  h.carry (by rw [hs.size]; exact Nat.le_refl _) (fun _ o => hs.cell _)

theorem OwnF.below {w w' : World} {a : Option Addr} {b n B : Nat} {W : Nat → Nat} (h : OwnF w a b n W) (hb : Below B w w') (hB : 0 < n → b < B) : OwnF w' a b n W :=
  ⟨h.at', fun h0 => rowIs_below (h.row h0) hb (hB h0)⟩

/-- Onto nil. -/
theorem ranges14_nil (n : Int) (c : Nat) (a : Option Addr) (b nw cw : Nat) (W : Nat → Nat) (w : World) (hn : n ≤ 65536) (hl : nw ≤ 65536) (h1 : OwnF w a b nw W) :
    Calls Try.prog 14 #[.slice none 0 0, .int .i64 n, .float .f64 c, .slice a nw cw] w fun e w' => ∃ a' g cap, e = .returned (.slice a' n.toNat cap) ∧ Out w' a' g 0 n.toNat (fun _ => 0) (clampC c) (wts n nw W) ∧ Below w.heap.size w w' := by
  refine (ranges14 w.heap.size 0 0 none [] n c a b nw cw W w (by omega) hn hl (World.ownsRow_nil _ _ _ _) (Nat.le_refl _) h1).mono ?_
  rintro e w' ⟨v, R, rfl, hR, hA, hO, hB⟩
  obtain ⟨a', g, cap, rfl, ho⟩ := out_of (nd := 0) (D := fun _ => 0) (w := w') (base := w.heap.size) (v := v) hR hA hO
  exact ⟨a', g, cap, by rw [Nat.zero_add], ho, hB⟩

end Go.Proofs.Qxb6603048a
