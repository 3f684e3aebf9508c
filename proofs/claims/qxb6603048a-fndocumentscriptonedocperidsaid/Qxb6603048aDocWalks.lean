/-
  THE WALKS of the functions on the road of FnDocumentScriptOneDocPerID that make or read rows of documents: zzBytes (27), docsBytes (28), cloneDocs (29), makeDocs (30).
  A row of documents is told by its cells: 'S (2 * i)' is the name of document i, 'S (2 * i + 1)' its value.
-/
import Derived.Test.Qxb6603048aRows
import Derived.Test.Qxb6603048aKitRows
import Derived.WalkSpells
import Derived.WalkLawsBesides
import Derived.Deep.LoopGhost
import Derived.Deep.Light
import Derived.Deep.QuietTactic
import Derived.BigQuiet
import Derived.BigRegion
namespace Go.Proofs.Qxb6603048a
open Go.RowKit

theorem Try.info54 : (Try.prog.info? 54).map (fun i => (i.zero, i.size, i.bytes)) = some (some (.agg #[.string ByteArray.empty, .string ByteArray.empty]), 2, 32) := by kernel_rfl
theorem Try.info60 : (Try.prog.info? 60).map (fun i => (i.zero, i.size, i.bytes)) = some (some (.agg #[.string ByteArray.empty, .string ByteArray.empty, .map none]), 3, 40) := by kernel_rfl

/-- A slice of documents as it is met: nil or not; its cells. -/
structure Docs (w : World) (a : Option Addr) (b off len cap : Nat) (S : Nat → ByteArray) : Prop where
  at' : 0 < len → a = some ⟨b, off, none⟩
  nil : a = none → len = 0 ∧ cap = 0
  cell : ∀ i, i < len * 2 → w.cell? ⟨b, off + i, none⟩ = some (.string (S i))
  size : ∀ i, (S i).size ≤ 9223372036854775807

theorem Docs.still {w w' : World} {a : Option Addr} {b off len cap : Nat} {S : Nat → ByteArray} (h : Docs w a b off len cap S) (hc : ∀ i, i < len * 2 → w'.cell? ⟨b, off + i, none⟩ = w.cell? ⟨b, off + i, none⟩) : Docs w' a b off len cap S :=
  ⟨h.at', h.nil, fun i hi => (hc i hi).trans (h.cell i hi), h.size⟩

theorem Docs.lt {w : World} {a : Option Addr} {b off len cap : Nat} {S : Nat → ByteArray} (h : Docs w a b off len cap S) (h0 : 0 < len) : b < w.heap.size :=
  World.block_lt_of_cell? _ _ (h.cell 0 (by omega))

theorem Docs.below {w w' : World} {a : Option Addr} {b off len cap B : Nat} {S : Nat → ByteArray} (h : Docs w a b off len cap S) (hb : Below B w w') (hB : w.heap.size ≤ B) : Docs w' a b off len cap S :=
  h.still (fun i hi => hb.cell (p := ⟨b, off + i, none⟩) (by have := h.lt (by omega); show b < B; omega))

/-- It answers some bool and the world stands. -/
def SomeBool (w : World) (e : Ending) (w' : World) : Prop := ∃ r : Bool, e = .returned (.bool r) ∧ w' = w
def SomeInt (w : World) (e : Ending) (w' : World) : Prop := ∃ r : Int, e = .returned (.int .i64 r) ∧ w' = w

set_option maxHeartbeats 1000000 in
/-- 27: zzBytes -/
theorem bytes27 (a a2 : Option Addr) (b off len cap b2 off2 len2 cap2 : Nat) (S S2 : Nat → ByteArray) (w : World) (h1 : Docs w a b off len cap S) (h2 : Docs w a2 b2 off2 len2 cap2 S2) (hl : len ≤ maxLen) (hl2 : len2 ≤ maxLen) :
    Calls Try.prog 27 #[.slice a len cap, .slice a2 len2 cap2] w fun e w' => SomeBool w e w' := by
  unfold maxLen at hl hl2
  go_enter Try.func27, Try.ntmps27
  go_wp2
  · go_ret
    exact ⟨_, rfl, rfl⟩
  · have hlb : (len : Int) ≤ 1048576 := by assumption
    go_loopg [5, 6] len (fun g z i wr => wr = w ∧ ∃ (q : Int) (k : Nat), 0 ≤ q ∧ q ≤ 1048576 ∧ k ≤ len ∧ g = len - k ∧ i = .int .i64 k ∧ z = .int .i64 q)
    case atStart => exact ⟨rfl, len, 0, by omega, by omega, Nat.zero_le _, rfl, rfl, rfl⟩
    case round =>
      obtain ⟨rfl, q, k, hq0, hq1, hk, rfl, rfl, rfl⟩ := hrel
      by_cases hlt : k < len
      · obtain rfl := h1.at' (by omega)
        have hlz : (k : Int) < (len : Int) := by omega
        have g0 : wr.cell? ⟨b, off + k * 2, none⟩ = some (.string (S (k * 2))) := h1.cell _ (by omega)
        have g1 : wr.cell? ⟨b, off + k * 2 + 1, none⟩ = some (.string (S (k * 2 + 1))) := by rw [Nat.add_assoc]; exact h1.cell _ (by omega)
        have s0 := h1.size (k * 2)
        have s1 := h1.size (k * 2 + 1)
        go_wp2
        all_goals first
          | (go_ret; exact ⟨_, rfl, rfl⟩)
          | (go_roundg (len - (k + 1))
             case measure => go_light; omega
             case rel => go_light; exact ⟨rfl, _, k + 1, by omega, by omega, by omega, rfl, by go_num, rfl⟩)
      · have hlz : ¬ (k : Int) < (len : Int) := by omega
        go_wp2
        · go_ret
          exact ⟨_, rfl, rfl⟩
        · go_ret
          exact ⟨_, rfl, rfl⟩
        · have hqb : q + (len2 : Int) ≤ 1048576 := by assumption
          go_loopg [5, 7] len2 (fun g z i wx => wx = wr ∧ ∃ (q : Int) (k : Nat), 0 ≤ q ∧ q ≤ 1048576 ∧ k ≤ len2 ∧ g = len2 - k ∧ i = .int .i64 k ∧ z = .int .i64 q)
          case atStart => exact ⟨rfl, q + len2, 0, by omega, by omega, Nat.zero_le _, rfl, rfl, rfl⟩
          case round =>
            obtain ⟨rfl, q, k, hq0, hq1, hk, rfl, rfl, rfl⟩ := hrel
            by_cases hlt2 : k < len2
            · obtain rfl := h2.at' (by omega)
              have hlz2 : (k : Int) < (len2 : Int) := by omega
              have g0 : wr.cell? ⟨b2, off2 + k * 2, none⟩ = some (.string (S2 (k * 2))) := h2.cell _ (by omega)
              have g1 : wr.cell? ⟨b2, off2 + k * 2 + 1, none⟩ = some (.string (S2 (k * 2 + 1))) := by rw [Nat.add_assoc]; exact h2.cell _ (by omega)
              have s0 := h2.size (k * 2)
              have s1 := h2.size (k * 2 + 1)
              go_wp2
              all_goals first
                | (go_ret; exact ⟨_, rfl, rfl⟩)
                | (go_roundg (len2 - (k + 1))
                   case measure => go_light; omega
                   case rel => go_light; exact ⟨rfl, _, k + 1, by omega, by omega, by omega, rfl, by go_num, rfl⟩)
            · have hlz2 : ¬ (k : Int) < (len2 : Int) := by omega
              go_wp2
              go_ret
              exact ⟨_, rfl, rfl⟩

/-- 28: docsBytes -/
theorem bytes28 (a : Option Addr) (b off len cap : Nat) (S : Nat → ByteArray) (w : World) (h1 : Docs w a b off len cap S) (hl : len ≤ 65536) :
    Calls Try.prog 28 #[.slice a len cap] w fun e w' => SomeInt w e w' := by
  go_enter Try.func28, Try.ntmps28
  go_wp2
  go_loopg [3, 4, 5, 6] len (fun g z i _ _ wr => wr = w ∧ ∃ (q : Int) (k : Nat), 0 ≤ q ∧ q ≤ 2097152 ∧ k ≤ len ∧ g = len - k ∧ i = .int .i64 k ∧ z = .int .i64 q)
  case atStart => exact ⟨rfl, 32 * len, 0, by omega, by omega, Nat.zero_le _, rfl, rfl, rfl⟩
  case round =>
    obtain ⟨rfl, q, k, hq0, hq1, hk, rfl, rfl, rfl⟩ := hrel
    by_cases hlt : k < len
    · obtain rfl := h1.at' (by omega)
      have hlz : (k : Int) < (len : Int) := by omega
      have g0 : wr.cell? ⟨b, off + k * 2, none⟩ = some (.string (S (k * 2))) := h1.cell _ (by omega)
      have g1 : wr.cell? ⟨b, off + k * 2 + 1, none⟩ = some (.string (S (k * 2 + 1))) := by rw [Nat.add_assoc]; exact h1.cell _ (by omega)
      have s0 := h1.size (k * 2)
      have s1 := h1.size (k * 2 + 1)
      go_wp2
      all_goals first
        | (go_ret; exact ⟨_, rfl, rfl⟩)
        | (go_roundg (len - (k + 1))
           case measure => go_light; omega
           case rel => go_light; exact ⟨rfl, _, k + 1, by omega, by omega, by omega, rfl, by go_num, rfl⟩)
    · have hlz : ¬ (k : Int) < (len : Int) := by omega
      go_wp2
      go_ret
      exact ⟨_, rfl, rfl⟩

theorem clone29_nil (w : World) :
    Calls Try.prog 29 #[.slice none 0 0] w fun e w' => e = .returned (.slice none 0 0) ∧ w' = w := by
  have hn := fun w => Lib.run_eql_slice_nil (P := Try.prog) w 44 54 none 0 0 0 0 Try.underlying44
  go_enter Try.func29, Try.ntmps29
  go_wp2
  go_ret
  exact ⟨rfl, rfl⟩

theorem made54 (w : World) (cs : Array Value) (hcs : (Value.agg #[.string ByteArray.empty, .string ByteArray.empty]).cells = cs) (n : Nat) (f : Nat → Value) : (w.alloc (.cells (madeCells cs n) 54)).rowIs w.heap.size 54 n (fl f (fun _ => .string ByteArray.empty) (0 * 2)) := by
  rw [Nat.zero_mul, fl_zero, ← hcs]
  refine rowIs_madeN w _ _ _ _ (by simp [Value.cells]) (fun i hi => ?_) (fun i => rfl)
  match i, hi with
  | 0, _ => rfl
  | 1, _ => rfl

/-- 29: cloneDocs of a slice that is not nil: a new row. -/
theorem clone29 (x : Addr) (b off len cap : Nat) (S : Nat → ByteArray) (w : World) (h1 : Docs w (some x) b off len cap S) (hl : len ≤ 65536) :
    Calls Try.prog 29 #[.slice (some x) len cap] w fun e w' => e = .returned (.slice (some ⟨w.heap.size, 0, none⟩) len len) ∧ Below w.heap.size w w' ∧ w'.rowIs w.heap.size 54 (len * 2) (fun i => .string (S i)) := by
  have hn := fun w => Lib.run_eql_slice_nil (P := Try.prog) w 44 54 (some x) len cap 0 0 Try.underlying44
  have hmk := run_make_rows (P := Try.prog) 44 54 _ 2 32 Try.underlying44 Try.info54 .i64 .i64 len (by omega) (by omega)
  obtain ⟨cs, hcs⟩ : ∃ cs, (Value.agg #[.string ByteArray.empty, .string ByteArray.empty]).cells = cs := ⟨_, rfl⟩
  rw [hcs] at hmk
  have hR0 := made54 w cs hcs (len * 2) (fun i => .string (S i))
  clear hcs
  go_enter Try.func29, Try.ntmps29
  go_wp2
  clear hmk hn
  go_loopg [4] len (fun g i wr => ∃ k : Nat, k ≤ len ∧ g = len - k ∧ i = .int .i64 k ∧ Below w.heap.size w wr ∧ wr.rowIs w.heap.size 54 (len * 2) (fl (fun i => .string (S i)) (fun _ => .string ByteArray.empty) (k * 2)))
  case atStart => exact ⟨0, Nat.zero_le _, rfl, rfl, (Below.refl _ _).alloc (Nat.le_refl _) _, hR0⟩
  case round =>
    obtain ⟨k, hk, rfl, rfl, hB, hR⟩ := hrel
    clear hR0
    by_cases hlt : k < len
    · have hb := h1.lt (by omega)
      have h1' := h1.below hB (Nat.le_refl _)
      obtain rfl : x = ⟨b, off, none⟩ := by simpa using h1.at' (by omega)
      have hlz : (k : Int) < (len : Int) := by omega
      have g0 : wr.cell? ⟨b, off + k * 2, none⟩ = some (.string (S (k * 2))) := h1'.cell _ (by omega)
      have g0' : wr.cell? ⟨b, off + k * 2 + 1, none⟩ = some (.string (S (k * 2 + 1))) := by rw [Nat.add_assoc]; exact h1'.cell _ (by omega)
      have g1 : wr.cell? ⟨w.heap.size, k * 2, none⟩ = some (.string ByteArray.empty) := fl_cell hR (by omega) (Nat.le_refl _)
      have g1' : wr.cell? ⟨w.heap.size, k * 2 + 1, none⟩ = some (.string ByteArray.empty) := fl_cell hR (by omega) (by omega)
      have g2 : wr.frozen? ⟨w.heap.size, k * 2, none⟩ = false := hR.frozen _
      have g2' : wr.frozen? ⟨w.heap.size, k * 2 + 1, none⟩ = false := hR.frozen _
      have R : Below w.heap.size w ((wr.setCell ⟨w.heap.size, k * 2, none⟩ (.string (S (k * 2)))).setCell ⟨w.heap.size, k * 2 + 1, none⟩ (.string (S (k * 2 + 1)))) ∧
          ((wr.setCell ⟨w.heap.size, k * 2, none⟩ (.string (S (k * 2)))).setCell ⟨w.heap.size, k * 2 + 1, none⟩ (.string (S (k * 2 + 1)))).rowIs w.heap.size 54 (len * 2) (fl (fun i => .string (S i)) (fun _ => .string ByteArray.empty) ((k + 1) * 2)) :=
        ⟨(hB.setCell (Nat.le_refl _) _).setCell (Nat.le_refl _) _, by rw [show (k + 1) * 2 = k * 2 + 1 + 1 by omega]; exact fl_step (fl_step hR rfl) rfl⟩
      clear hB hR h1 h1'
      go_wp2
      go_roundg (len - (k + 1))
      case measure => go_light; omega
      case rel => go_light; exact ⟨k + 1, by omega, rfl, by go_num, R.1, R.2⟩
    · have hlz : ¬ (k : Int) < (len : Int) := by omega
      go_wp2
      go_ret
      exact ⟨rfl, hB, fl_all hR (by omega)⟩

/-- The clone, nil or not. -/
def Cloned (b : Nat) (e : Nat) (size : Nat) (len : Nat) (f : Nat → Value) (isNil : Bool) (w : World) (en : Ending) (w' : World) : Prop :=
  ∃ a, en = .returned (.slice a len len) ∧ a.isNone = isNil ∧ (isNil = false → a = some ⟨b, 0, none⟩ ∧ w'.rowIs b e (len * size) f) ∧ Below w.heap.size w w'

theorem clone29_any (a : Option Addr) (b off len cap : Nat) (S : Nat → ByteArray) (w : World) (h1 : Docs w a b off len cap S) (hl : len ≤ 65536) :
    Calls Try.prog 29 #[.slice a len cap] w fun e w' => Cloned w.heap.size 54 2 len (fun i => .string (S i)) a.isNone w e w' := by
  cases a with
  | none =>
    obtain ⟨rfl, rfl⟩ := h1.nil rfl
    refine (clone29_nil w).mono ?_
    rintro e w' ⟨rfl, rfl⟩
    exact ⟨none, rfl, rfl, fun h => by simp at h, Below.refl _ _⟩
  | some x =>
    refine (clone29 x b off len cap S w h1 hl).mono ?_
    rintro e w' ⟨rfl, hB, hR⟩
    exact ⟨_, rfl, rfl, fun _ => ⟨rfl, hR⟩, hB⟩
end Go.Proofs.Qxb6603048a
