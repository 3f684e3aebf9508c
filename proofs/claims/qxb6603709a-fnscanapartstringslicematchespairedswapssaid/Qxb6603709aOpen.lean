/-
  HOW A SLICE OF STRINGS THAT CAME IN IS OPENED, for the frames of the three laws.
-/
import Derived.Test.Qxb6603709aHelpWalks
import Derived.ProofKit
import Derived.OpenShut
import Derived.Deep.Slices
namespace Go.Proofs.Qxb6603709a
open Go.ChangeShapes Go.WideShapes Go.ChangeAt Go.RowKit Go.Deep

theorem cells9 : Try.prog.cellsOf 9 = 1 := by kernel_rfl

/-- A function out of 'for each there is one'. -/
theorem pick_strs {p : Nat → ByteArray → Prop} {n : Nat} (h : ∀ i, i < n → ∃ b, p i b ∧ b.size ≤ 9223372036854775807) : ∃ W : Nat → ByteArray, (∀ i, i < n → p i (W i)) ∧ ∀ i, (W i).size ≤ 9223372036854775807 := by
  have h' : ∀ i, ∃ b : ByteArray, (i < n → p i b) ∧ b.size ≤ 9223372036854775807 := fun i => by
    by_cases hi : i < n
    · obtain ⟨b, hb, hs⟩ := h i hi
      exact ⟨b, fun _ => hb, hs⟩
    · exact ⟨ByteArray.empty, fun h => absurd h hi, by decide⟩
  exact ⟨fun i => (h' i).choose, fun i => (h' i).choose_spec.1, fun i => (h' i).choose_spec.2⟩

/-- A slice of strings that came in. -/
theorem strs_open {H : Type} {enc : TypeId × Value → H} {W : World} {a : Option Addr} {len cap fuel : Nat} {x : DataW H × List MemPlace}
    (hf : DataW.trod enc Try.prog W 0 (fun _ => true) true fuel 22 (Value.slice a len cap).cells.toList = some x) :
    ∃ (b off : Nat) (V : Nat → ByteArray), Came W a b off len cap V ∧ len ≤ maxLen := by
  rcases open_slice1 Try.underlying22 cells9 hf with ⟨hcs, _⟩ | ⟨x, l, c, m, n, V, D, Pl, hcs, _, hl, hm, hmm, _, hx⟩
  · simp [Value.cells] at hcs
    obtain ⟨rfl, rfl, rfl⟩ := hcs
    exact ⟨0, 0, fun _ => ByteArray.empty, ⟨fun h => absurd h (Nat.lt_irrefl _), fun _ => ⟨rfl, rfl⟩, fun i h => absurd h (Nat.not_lt_zero _), fun i => by decide⟩, Nat.zero_le _⟩
  · simp [Value.cells] at hcs
    obtain ⟨rfl, rfl, rfl⟩ := hcs
    simp only [if_true] at hmm
    subst hmm
    obtain ⟨b, off, sp⟩ := x
    by_cases h0 : 0 < len
    · have hsp : sp = none := by simpa [Addr.add] using World.cell?_spot (hx 0 (by omega)).1
      subst hsp
      obtain ⟨F, hF, hS⟩ := pick_strs (n := len) (p := fun i q => W.cell? ⟨b, off + i, none⟩ = some (.string q)) (fun i hi => by
        obtain ⟨c0, t0⟩ := hx i (by omega)
        obtain ⟨q, e0, _, hq⟩ := DataW.trod_string Try.underlying9 t0
        simp only [List.cons.injEq, and_true] at e0
        rw [add_plain, e0] at c0
        exact ⟨q, c0, by simpa [maxLen] using hq⟩)
      exact ⟨b, off, F, ⟨fun _ => rfl, fun h => by simp at h, fun i hi => hF i hi, hS⟩, by omega⟩
    · exact ⟨b, off, fun _ => ByteArray.empty, ⟨fun h => absurd h h0, fun h => by simp at h, fun i h => absurd h (by omega), fun i => by decide⟩, by omega⟩

end Go.Proofs.Qxb6603709a
