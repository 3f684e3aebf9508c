/-
  THE WALKS of lessString (27), Less (24), Swap (25), proveIndexStringSlice (23): a row of strings is told by its block b and 'S'.
-/
import Derived.Test.Qxb6603709aRows
import Derived.Test.Qxb6603709aKit
import Derived.Test.Qxb6603709aScanMath
import Derived.WalkSpells
import Derived.WalkLawsBesides
import Derived.Deep.LoopGhost
import Derived.Deep.Light
import Derived.Deep.QuietTactic
import Derived.Deep.RegionWith
import Derived.BigQuiet
import Derived.BigRegion
set_option linter.unusedVariables false
namespace Go.Proofs.Qxb6603709a
open Go.RowKit ScanMath

theorem head_lt {a b : ByteArray} (h1 : 0 < a.size) (h2 : 0 < b.size) (hne : (((a[0]'h1).toNat : Int) != ((b[0]'h2).toNat : Int)) = true) : decide ((a[0]'h1).toNat < (b[0]'h2).toNat) = ltb a b := by
  unfold ltb
  rw [ByteArray.toList_eq, ByteArray.toList_eq]
  obtain ⟨⟨la⟩⟩ := a
  obtain ⟨⟨lb⟩⟩ := b
  match la, h1, lb, h2, hne with
  | x :: xs, h1, y :: ys, h2, hne =>
    have hx : ((x.toNat : Int) != (y.toNat : Int)) = true := hne
    have hxy : x ≠ y := fun e => by rw [e] at hx; simp at hx
    show decide (x.toNat < y.toNat) = Op.bytesLess (x :: xs) (y :: ys)
    unfold Op.bytesLess
    have hb : (x == y) = false := by simpa using hxy
    rw [hb, Bool.false_and, Bool.or_false]
    rw [Bool.eq_iff_iff]
    simp [UInt8.lt_iff_toNat_lt]

/-- 27: lessString is '<'. -/
theorem less27 (a b : ByteArray) (w : World) (ha : a.size ≤ 9223372036854775807) (hb : b.size ≤ 9223372036854775807) : Calls Try.prog 27 #[.string a, .string b] w fun e w' => e = .returned (.bool (ltb a b)) ∧ ∃ n, w' = w.drewN n := by
  by_cases h1 : 0 < a.size
  · by_cases h2 : 0 < b.size
    · have d1 : (0 : Int) < (a.size : Int) := by omega
      have d2 : (0 : Int) < (b.size : Int) := by omega
      go_enter Try.func27, Try.ntmps27
      go_wp2
      go_quiet (fail)
      go_wp2
      · have hne : (((a[0]'h1).toNat : Int) != ((b[0]'h2).toNat : Int)) = true := by assumption
        go_quiet (fail)
        go_wp2
        go_ret
        exact ⟨ret_bool (head_lt h1 h2 hne), _, World.drewN_drewN _ _ _⟩
      · go_ret
        exact ⟨rfl, _, rfl⟩
    · have d1 : (0 : Int) < (a.size : Int) := by omega
      have d2 : decide ((0 : Int) < (b.size : Int)) = false := decide_eq_false (by omega)
      go_enter Try.func27, Try.ntmps27
      go_wp2
      go_quiet (fail)
      go_wp2
      go_ret
      exact ⟨rfl, _, rfl⟩
  · have d1 : decide ((0 : Int) < (a.size : Int)) = false := decide_eq_false (by omega)
    go_enter Try.func27, Try.ntmps27
    go_wp2
    go_quiet (fail)
    go_wp2
    go_ret
    exact ⟨rfl, _, rfl⟩

/-- n strings in block b. -/
structure Strs (w : World) (b n : Nat) (S : Nat → ByteArray) : Prop where
  row : w.rowIs b 9 n (fun i => .string (S i))
  size : ∀ i, (S i).size ≤ 9223372036854775807

theorem Strs.still {w w' : World} {b n : Nat} {S : Nat → ByteArray} (h : Strs w b n S) (s : Still w w') : Strs w' b n S := ⟨s.rowIs h.row, h.size⟩

/-- 24: Less -/
theorem less24 (b n i j : Nat) (S : Nat → ByteArray) (w : World) (hn : n ≤ 65536) (h : Strs w b n S) (hi : i < n) (hj : j < n) :
    Calls Try.prog 24 #[.slice (some ⟨b, 0, none⟩) n n, .int .i64 i, .int .i64 j] w fun e w' => e = .returned (.bool (ltb (S i) (S j))) ∧ ∃ n, w' = w.drewN n := by
  have g0 := h.row.cell hi
  have g1 := h.row.cell hj
  have iz : (i : Int) < (n : Int) := by omega
  have jz : (j : Int) < (n : Int) := by omega
  have C := fun w => less27 (S i) (S j) w (h.size i) (h.size j)
  clear h
  go_enter Try.func24, Try.ntmps24
  go_wp2
  go_quiet ((go_at_call 27; exact Calls.quiet_of (C _)))
  go_wp2
  go_ret
  exact ⟨rfl, _, rfl⟩

/-- 23: proveIndexStringSlice -/
theorem prove23 (b n i : Nat) (S : Nat → ByteArray) (w : World) (hn : n ≤ 65536) (h : Strs w b n S) (hi : i < n) :
    Calls Try.prog 23 #[.slice (some ⟨b, 0, none⟩) n n, .int .i64 i] w fun e w' => e = .returned (.tuple #[]) ∧ w' = w := by
  have g0 := h.row.cell hi
  have iz : (i : Int) < (n : Int) := by omega
  clear h
  go_enter Try.func23, Try.ntmps23
  go_wp2
  go_end0
  exact ⟨rfl, rfl⟩

theorem strs_swap {w : World} {b n i j : Nat} {S : Nat → ByteArray} (h : Strs w b n S) : Strs ((w.setCell ⟨b, i, none⟩ (.string (S j))).setCell ⟨b, j, none⟩ (.string (S i))) b n (swapF S i j) := by
  refine ⟨((h.row.set i _).set j _).congr (fun x hx => ?_), fun x => ?_⟩
  · unfold swapF
    by_cases e1 : x = j
    · rw [if_pos e1, if_pos e1]
    · rw [if_neg e1, if_neg e1]
      by_cases e2 : x = i
      · rw [if_pos e2, if_pos e2]
      · rw [if_neg e2, if_neg e2]
  · unfold swapF
    split
    · exact h.size _
    · split
      · exact h.size _
      · exact h.size _

/-- 25: Swap -/
theorem swap25 (b n i j : Nat) (S : Nat → ByteArray) (w : World) (hn : n ≤ 65536) (h : Strs w b n S) (hi : i < n) (hj : j < n) (hij : i < j) :
    Calls Try.prog 25 #[.slice (some ⟨b, 0, none⟩) n n, .int .i64 i, .int .i64 j] w fun e w' => e = .returned (.tuple #[]) ∧ Strs w' b n (swapF S i j) ∧ Only b w w' := by
  have g0 := h.row.cell hi
  have g1 := h.row.cell hj
  have f0 := h.row.frozen i
  have f1 := h.row.frozen j
  have iz : (i : Int) < (n : Int) := by omega
  have jz : (j : Int) < (n : Int) := by omega
  have hne : i ≠ j := by omega
  have R := strs_swap (i := i) (j := j) h
  have HR : Hid _ := R
  have HO : Hid (Only b w ((w.setCell ⟨b, i, none⟩ (.string (S j))).setCell ⟨b, j, none⟩ (.string (S i)))) := ((Only.refl b w).setCell i _).setCell j _
  clear h R
  go_enter Try.func25, Try.ntmps25
  go_wp2
  go_region
  all_goals
    go_end0
    exact ⟨rfl, HR.out.still ((Still.refl _).drew), HO.out.still ((Still.refl _).drew)⟩
end Go.Proofs.Qxb6603709a
