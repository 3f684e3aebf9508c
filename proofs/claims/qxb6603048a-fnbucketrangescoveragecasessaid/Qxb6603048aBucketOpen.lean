/-
  HOW A SLICE OF FLOATS AND A SLICE OF PAIRS OF FLOATS THAT CAME IN ARE OPENED, for the frames of the bucket laws.
-/
import Derived.Test.Qxb6603048aPairWalks
import Derived.ProofKit
import Derived.OpenShut
import Derived.Deep.Slices
namespace Go.Proofs.Qxb6603048a
open Go.ChangeShapes Go.WideShapes Go.ChangeAt Go.RowKit Go.Deep

theorem cells23 : Try.prog.cellsOf 23 = 1 := by kernel_rfl
theorem cells34 : Try.prog.cellsOf 34 = 2 := by kernel_rfl

section
variable {H : Type} {enc : TypeId × Value → H} {P : Program} {w : World} {base : Nat} {spare : Nat → Bool} {held : Bool} {fuel : Nat} {t : TypeId} {cs : List Value} {x : DataW H × List MemPlace}
theorem trod_float {k : FloatKind} (ht : P.underlying t = some (.float k)) (h : DataW.trod enc P w base spare held fuel t cs = some x) : ∃ b, cs = [.float k b] ∧ (Lit.float k b).wf = true := by
  cases fuel with
  | zero => simp [DataW.trod] at h
  | succ n =>
    unfold DataW.trod at h
    rw [ht] at h
    split at h <;> simp_all
end

/-- A function out of 'for each there is one'. -/
theorem pick_words {p : Nat → Nat → Prop} {n : Nat} (h : ∀ i, i < n → ∃ b, p i b) : ∃ W : Nat → Nat, ∀ i, i < n → p i (W i) := by
  have h' : ∀ i, ∃ b, i < n → p i b := fun i => by
    by_cases hi : i < n
    · obtain ⟨b, hb⟩ := h i hi
      exact ⟨b, fun _ => hb⟩
    · exact ⟨0, fun h => absurd h hi⟩
  exact ⟨fun i => (h' i).choose, fun i => (h' i).choose_spec⟩

/-- A slice of floats that came in. -/
theorem flts_open {H : Type} {enc : TypeId × Value → H} {W : World} {a : Option Addr} {len cap fuel : Nat} {x : DataW H × List MemPlace}
    (hf : DataW.trod enc Try.prog W 0 (fun _ => true) true fuel 24 (Value.slice a len cap).cells.toList = some x) :
    ∃ (b off : Nat) (V : Nat → Nat), Flts W a b off len cap V ∧ len ≤ maxLen ∧ ∀ i, i < len → V i < 18446744073709551616 := by
  rcases open_slice1 Try.underlying24 cells23 hf with ⟨hcs, _⟩ | ⟨x, l, c, m, n, V, D, Pl, hcs, _, hl, hm, hmm, _, hx⟩
  · simp [Value.cells] at hcs
    obtain ⟨rfl, rfl, rfl⟩ := hcs
    exact ⟨0, 0, fun _ => 0, ⟨fun h => absurd h (Nat.lt_irrefl _), fun _ => ⟨rfl, rfl⟩, fun i h => absurd h (Nat.not_lt_zero _)⟩, Nat.zero_le _, fun i h => absurd h (Nat.not_lt_zero _)⟩
  · simp [Value.cells] at hcs
    obtain ⟨rfl, rfl, rfl⟩ := hcs
    simp only [if_true] at hmm
    subst hmm
    obtain ⟨b, off, sp⟩ := x
    by_cases h0 : 0 < len
    · have hsp : sp = none := by simpa [Addr.add] using World.cell?_spot (hx 0 (by omega)).1
      subst hsp
      obtain ⟨F, hF⟩ := pick_words (n := len) (p := fun i q => W.cell? ⟨b, off + i, none⟩ = some (.float .f64 q) ∧ q < 18446744073709551616) (fun i hi => by
        obtain ⟨c0, t0⟩ := hx i (by omega)
        obtain ⟨q, e0, hq⟩ := trod_float Try.underlying23 t0
        simp only [List.cons.injEq, and_true] at e0
        rw [add_plain, e0] at c0
        exact ⟨q, c0, by simpa [Lit.wf] using hq⟩)
      exact ⟨b, off, F, ⟨fun _ => rfl, fun h => by simp at h, fun i hi => (hF i hi).1⟩, by omega, fun i hi => (hF i hi).2⟩
    · exact ⟨b, off, fun _ => 0, ⟨fun h => absurd h h0, fun h => by simp at h, fun i h => absurd h (by omega)⟩, by omega, fun i h => absurd h (by omega)⟩

/-- A slice of pairs of floats that came in. -/
theorem prs_open {H : Type} {enc : TypeId × Value → H} {W : World} {a : Option Addr} {len cap fuel : Nat} {x : DataW H × List MemPlace}
    (hf : DataW.trod enc Try.prog W 0 (fun _ => true) true fuel 22 (Value.slice a len cap).cells.toList = some x) :
    ∃ (b off : Nat) (D : Nat → Nat), Prs W a b off len cap D ∧ len ≤ maxLen := by
  rcases open_slice Try.underlying22 hf with ⟨hcs, _⟩ | ⟨x, l, c, m, n, D, Pl, hcs, _, hl, hm, hmm, _, hx⟩
  · simp [Value.cells] at hcs
    obtain ⟨rfl, rfl, rfl⟩ := hcs
    exact ⟨0, 0, fun _ => 0, ⟨fun h => absurd h (Nat.lt_irrefl _), fun _ => ⟨rfl, rfl⟩, fun i h => absurd h (by omega)⟩, Nat.zero_le _⟩
  · simp [Value.cells] at hcs
    obtain ⟨rfl, rfl, rfl⟩ := hcs
    simp only [if_true] at hmm
    subst hmm
    rw [cells34] at hx
    have each : ∀ i, i < len → ∃ q0 q1 : Nat, W.cell? (x.add (i * 2)) = some (.float .f64 q0) ∧ W.cell? ((x.add (i * 2)).add 1) = some (.float .f64 q1) := by
      intro i hi
      obtain ⟨cs', h1, h2⟩ := hx i (by omega)
      obtain ⟨_, hlen, hcell⟩ := World.cells?_some h1
      obtain ⟨xs, k, _, _, _, hxl, hf'⟩ := DataW.trod_array Try.underlying34 h2
      rw [cells23] at hf'
      match cs', hlen, xs, hxl with
      | [v0, v1], _, [y0, y1], _ =>
        have t0 := hf' 0 (by omega)
        have t1 := hf' 1 (by omega)
        simp at t0 t1
        obtain ⟨q0, e0, _⟩ := trod_float Try.underlying23 t0
        obtain ⟨q1, e1, _⟩ := trod_float Try.underlying23 t1
        simp only [List.cons.injEq, and_true] at e0 e1
        have c0 := hcell 0 (by omega)
        have c1 := hcell 1 (by omega)
        refine ⟨q0, q1, ?_, ?_⟩
        · rw [← e0]; simpa [Addr.add] using c0
        · rw [← e1]; simpa using c1
    obtain ⟨b, off, sp⟩ := x
    by_cases h0 : 0 < len
    · have hsp : sp = none := by
        obtain ⟨q0, _, c0, _⟩ := each 0 h0
        simpa [Addr.add] using World.cell?_spot c0
      subst hsp
      obtain ⟨F, hF⟩ := pick_words (n := len * 2) (p := fun i q => W.cell? ⟨b, off + i, none⟩ = some (.float .f64 q)) (fun i hi => by
        obtain ⟨q0, q1, c0, c1⟩ := each (i / 2) (by omega)
        rw [add_plain] at c0 c1
        rw [add_plain] at c1
        by_cases he : i % 2 = 0
        · have ei : i / 2 * 2 = i := by omega
          rw [ei] at c0
          exact ⟨q0, c0⟩
        · have ei : off + i / 2 * 2 + 1 = off + i := by omega
          rw [ei] at c1
          exact ⟨q1, c1⟩)
      exact ⟨b, off, F, ⟨fun _ => rfl, fun h => by simp at h, fun i hi => hF i hi⟩, by omega⟩
    · exact ⟨b, off, fun _ => 0, ⟨fun h => absurd h h0, fun h => by simp at h, fun i h => absurd h (by omega)⟩, by omega⟩

end Go.Proofs.Qxb6603048a
