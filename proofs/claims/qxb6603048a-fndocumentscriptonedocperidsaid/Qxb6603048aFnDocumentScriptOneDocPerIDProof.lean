/-
  THE PROOF OF 'Rows.FnDocumentScriptOneDocPerIDSaid'. The frame after the guide's own (howto/shells), at two slices of structs of two strings; the walk: Qxb6603048aDocCore.
-/
import Derived.Test.Qxb6603048aRows
import Derived.WalkKit
import Derived.ProofKit
import Derived.OpenShut
import Derived.ShutString
import Derived.ChangeOld
import Derived.Below
import Derived.Deep.SlicePairs
import Derived.Test.Qxb6603048aDocCore
namespace Go.Proofs.Qxb6603048a.fnDocumentScript
open Go.ChangeShapes Go.WideShapes Go.ChangeAt Go.RowKit Go.Deep
set_option linter.unusedVariables false

theorem own : ownKnob Try.prog.godebug = none := by kernel_rfl
theorem laidOut : laidOutB Try.prog = true := by kernel_rfl
theorem cells54 : Try.prog.cellsOf 54 = 2 := by kernel_rfl
theorem cells9 : Try.prog.cellsOf 9 = 1 := by kernel_rfl

/-- What the walk is told of a slice of documents that came in. -/
theorem docs_open {H : Type} {enc : TypeId × Value → H} {W : World} {a : Option Addr} {len cap fuel : Nat} {x : DataW H × List MemPlace}
    (hf : DataW.trod enc Try.prog W 0 (fun _ => true) true fuel 44 (Value.slice a len cap).cells.toList = some x) :
    ∃ (b off : Nat) (S : Nat → ByteArray), Docs W a b off len cap S ∧ len ≤ maxLen := by
  rcases open_slice_pairs Try.underlying44 Try.underlying54 cells54 rfl rfl cells9 cells9 hf with ⟨hcs, _⟩ | ⟨x, l, c, m, n, V0, V1, D0, D1, P0, P1, hcs, _, hl, hm, hmm, _, hx⟩
  · simp [Value.cells] at hcs
    obtain ⟨rfl, rfl, rfl⟩ := hcs
    exact ⟨0, 0, fun _ => ByteArray.empty, ⟨fun h => absurd h (Nat.lt_irrefl _), fun _ => ⟨rfl, rfl⟩, fun i h => absurd h (by omega), fun _ => Nat.zero_le _⟩, Nat.zero_le _⟩
  · simp [Value.cells] at hcs
    obtain ⟨rfl, rfl, rfl⟩ := hcs
    simp only [if_true] at hmm
    subst hmm
    obtain ⟨b, off, sp⟩ := x
    by_cases h0 : 0 < len
    · have hsp : sp = none := by simpa [Addr.add] using World.cell?_spot (hx 0 (by omega)).1
      subst hsp
      have each : ∀ i, i < len * 2 → ∃ s : ByteArray, W.cell? ⟨b, off + i, none⟩ = some (.string s) ∧ s.size ≤ maxLen := by
        intro i hi
        obtain ⟨c0, c1, t0, t1⟩ := hx (i / 2) (by omega)
        obtain ⟨s0, e0, _, z0⟩ := DataW.trod_string Try.underlying9 t0
        obtain ⟨s1, e1, _, z1⟩ := DataW.trod_string Try.underlying9 t1
        simp only [List.cons.injEq, and_true] at e0 e1
        rw [add_plain] at c0 c1
        by_cases he : i % 2 = 0
        · have ei : i / 2 * 2 = i := by omega
          rw [ei, e0] at c0
          exact ⟨s0, c0, z0⟩
        · have ei : i / 2 * 2 + 1 = i := by omega
          rw [ei, e1] at c1
          exact ⟨s1, c1, z1⟩
      obtain ⟨S, hS⟩ : ∃ S : Nat → ByteArray, ∀ i, (i < len * 2 → W.cell? ⟨b, off + i, none⟩ = some (.string (S i))) ∧ (S i).size ≤ maxLen := by
        have : ∀ i, ∃ s : ByteArray, (i < len * 2 → W.cell? ⟨b, off + i, none⟩ = some (.string s)) ∧ s.size ≤ maxLen := by
          intro i
          by_cases hi : i < len * 2
          · obtain ⟨s, h1, h2⟩ := each i hi
            exact ⟨s, fun _ => h1, h2⟩
          · exact ⟨ByteArray.empty, fun h => absurd h hi, Nat.zero_le _⟩
        exact ⟨fun i => (this i).choose, fun i => (this i).choose_spec⟩
      refine ⟨b, off, S, ⟨fun _ => rfl, fun h => by simp at h, fun i hi => (hS i).1 hi, fun i => ?_⟩, by omega⟩
      have := (hS i).2
      unfold maxLen at this
      omega
    · exact ⟨b, off, fun _ => ByteArray.empty, ⟨fun h => absurd h h0, fun h => by simp at h, fun i h => absurd h (by omega), fun _ => Nat.zero_le _⟩, by omega⟩

set_option maxRecDepth 100000 in
theorem lifted (os : Os) (started : os.Started) (H : Type) (enc : TypeId × Value → H) :
    ReturnsInHanded {} Try.checked os 9 .any (Rows.fnDocumentScriptOneDocPerIDSpec.pre6 enc Try.prog Try.f9 Rows.fnDocumentScriptOneDocPerIDRow.domain false) (Rows.fnDocumentScriptOneDocPerIDSpec.post enc Try.prog Try.f9 false true false false) := by
  refine returnsInHanded_of_change (C := Try.checked) own started (by kernel_rfl) Try.func9
    (ChangeSpec.witness6 (enc := enc) (C := Try.checked) false ⟨#[], #[.slice none 0 0, .slice none 0 0], []⟩ 8 (by kernel_rfl) (by kernel_rfl) (by kernel_rfl) (by kernel_rfl)) ?_
  intro W base args ds gs before hval0 hW hcnd _
  have hval : ∀ (j : Nat) t v, Try.f9.params[j]? = some t → args[j]? = some v → Value.okWide Try.prog W .any base t v := hval0
  have hW' := hW
  obtain ⟨p, q, hA0, hV, rfl, hfz, hnd⟩ := hW
  have hA : DataW.TrodAll enc Try.prog W 0 (fun _ => true) true Try.f9.params.toList args.toList ds p := hA0
  rw [Try.params9] at hA hval
  obtain ⟨v0, vs0, d0, ds0, p0, q0, hargs, rfl, rfl, h0, r0⟩ := trodAll_cons hA
  obtain ⟨v1, vs1, d1, ds1, p1, q1, rfl, rfl, rfl, h1, r1⟩ := trodAll_cons r0
  obtain ⟨rfl, rfl, rfl⟩ := trodAll_nil r1
  obtain rfl : args = #[v0, v1] := by cases args; simp_all
  obtain ⟨rfl, rfl⟩ := trodVars_none hV
  obtain ⟨a0, len0, cap0, rfl⟩ := okWide_slice Try.underlying44 (hval 0 44 v0 rfl rfl)
  obtain ⟨a1, len1, cap1, rfl⟩ := okWide_slice Try.underlying44 (hval 1 44 v1 rfl rfl)
  have k0 := h0
  have k1 := h1
  have lt0 : ∀ x ∈ p0, x.block < W.heap.size := by obtain ⟨m, hm⟩ := k0; exact DataW.trod_lt m _ _ _ hm
  have lt1 : ∀ x ∈ p1, x.block < W.heap.size := by obtain ⟨m, hm⟩ := k1; exact DataW.trod_lt m _ _ _ hm
  obtain ⟨b0, o0, S0, w0, m0⟩ : ∃ (b off : Nat) (S : Nat → ByteArray), Docs W a0 b off len0 cap0 S ∧ len0 ≤ maxLen := by
    obtain ⟨fuel, hf⟩ := h0
    exact docs_open hf
  obtain ⟨b1, o1, S1, w1, m1⟩ : ∃ (b off : Nat) (S : Nat → ByteArray), Docs W a1 b off len1 cap1 S ∧ len1 ≤ maxLen := by
    obtain ⟨fuel, hf⟩ := h1
    exact docs_open hf
  clear hA0 hval0
  refine (core a0 a1 b0 o0 len0 cap0 b1 o1 len1 cap1 S0 S1 W w0 w1 m0 m1).mono fun e W' ⟨he, bel⟩ => ?_
  subst he
  exact ⟨_, rfl, _, _, _, [], _, [], hW', trodAll_mk1 (shut_bool Try.underlying4 _), (trodAll_cons_mk (Below.trod laidOut (by kernel_rfl) (of_decide_eq_true (by kernel_rfl)) k0 bel lt0) (trodAll_cons_mk (Below.trod laidOut (by kernel_rfl) (of_decide_eq_true (by kernel_rfl)) k1 bel lt1) trodAll_mk0)), rfl, bel.frame _, fun h => by cases h⟩

theorem over : Rows.fnDocumentScriptOneDocPerIDRow.holds Try.pinned (OpenSpec.ofChange Rows.fnDocumentScriptOneDocPerIDSpec) :=
  OpenClaim.holds_of_wide 9 Try.f9 rfl rfl rfl rfl rfl rfl rfl ⟨rfl, rfl, rfl, rfl, rfl⟩ rfl rfl rfl rfl rfl (by kernel_rfl) Try.func9 (by kernel_rfl)
    (of_decide_eq_true (by kernel_rfl)) (by unfold Func.isWrapper; first | (rw [if_pos (by decide +kernel)]; kernel_rfl) | (rw [if_neg (by decide +kernel)]; exact ⟨rfl, rfl⟩))
    (fun os started H enc _ => lifted os started H enc)

end Go.Proofs.Qxb6603048a.fnDocumentScript

namespace Go.Proofs.Qxb6603048a
/-- THE STATEMENT -/
theorem fnDocumentScriptOneDocPerIDProved : Rows.FnDocumentScriptOneDocPerIDSaid := fnDocumentScript.over
end Go.Proofs.Qxb6603048a
