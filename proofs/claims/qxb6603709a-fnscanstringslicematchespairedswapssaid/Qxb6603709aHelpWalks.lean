/-
  THE WALKS of the laws' own helpers: zzBytes (7, 13, 15), zzBytesOK (8), zzClone (9), zzSwap (10), zzEqual (12).
-/
import Derived.Test.Qxb6603709aStrWalks
set_option linter.unusedVariables false
namespace Go.Proofs.Qxb6603709a
open Go.RowKit ScanMath

theorem Try.info9 : (Try.prog.info? 9).map (fun i => (i.zero, i.size, i.bytes)) = some (some (.string ByteArray.empty), 1, 16) := by kernel_rfl

/-- A slice of strings as it came in. -/
structure Came (w : World) (a : Option Addr) (b off len cap : Nat) (S : Nat → ByteArray) : Prop where
  at' : 0 < len → a = some ⟨b, off, none⟩
  nil : a = none → len = 0 ∧ cap = 0
  cell : ∀ i, i < len → w.cell? ⟨b, off + i, none⟩ = some (.string (S i))
  size : ∀ i, (S i).size ≤ 9223372036854775807

theorem Came.lt {w : World} {a : Option Addr} {b off len cap : Nat} {S : Nat → ByteArray} (h : Came w a b off len cap S) (h0 : 0 < len) : b < w.heap.size := World.block_lt_of_cell? _ _ (h.cell 0 h0)
theorem Came.below {w w' : World} {a : Option Addr} {b off len cap B : Nat} {S : Nat → ByteArray} (h : Came w a b off len cap S) (hb : Below B w w') (hB : w.heap.size ≤ B) : Came w' a b off len cap S :=
  ⟨h.at', h.nil, fun i hi => (hb.cell (p := ⟨b, off + i, none⟩) (by have := h.lt (by omega); show b < B; omega)).trans (h.cell i hi), h.size⟩

def SomeBool (w : World) (e : Ending) (w' : World) : Prop := ∃ r : Bool, e = .returned (.bool r) ∧ w' = w


/-- 7: zzBytes -/
theorem bytes7 (a : Option Addr) (b off len cap : Nat) (S : Nat → ByteArray) (x0 x1 x2 : Int) (w : World) (h1 : Came w a b off len cap S) (hl : len ≤ maxLen) :
    Calls Try.prog 7 #[.slice a len cap, .int .i64 x0, .int .i64 x1, .int .i64 x2] w fun e w' => SomeBool w e w' := by
  unfold maxLen at hl
  go_enter Try.func7, Try.ntmps7
  go_wp2
  · go_ret
    exact ⟨_, rfl, rfl⟩
  · have hlb : (len : Int) ≤ 1048576 := by assumption
    go_loopg [9, 10] len (fun g z i wr => wr = w ∧ ∃ (q : Int) (k : Nat), 0 ≤ q ∧ q ≤ 1048576 ∧ k ≤ len ∧ g = len - k ∧ i = .int .i64 k ∧ z = .int .i64 q)
    case atStart => exact ⟨rfl, len, 0, by omega, by omega, Nat.zero_le _, rfl, rfl, rfl⟩
    case round =>
      obtain ⟨rfl, q, k, hq0, hq1, hk, rfl, rfl, rfl⟩ := hrel
      by_cases hlt : k < len
      · obtain rfl := h1.at' (by omega)
        have hlz : (k : Int) < (len : Int) := by omega
        have g0 := h1.cell k hlt
        have s0 := h1.size k
        go_wp2
        all_goals first
          | (go_ret; exact ⟨_, rfl, rfl⟩)
          | (go_roundg (len - (k + 1))
             case measure => go_light; omega
             case rel => go_light; exact ⟨rfl, _, k + 1, by omega, by omega, by omega, rfl, by go_num, rfl⟩)
      · have hlz : ¬ (k : Int) < (len : Int) := by omega
        go_wp2
        go_ret
        exact ⟨_, rfl, rfl⟩

/-- 13: zzBytes -/
theorem bytes13 (a : Option Addr) (b off len cap : Nat) (S : Nat → ByteArray) (x0 x1 x2 x3 x4 : Int) (w : World) (h1 : Came w a b off len cap S) (hl : len ≤ maxLen) :
    Calls Try.prog 13 #[.slice a len cap, .int .i64 x0, .int .i64 x1, .int .i64 x2, .int .i64 x3, .int .i64 x4] w fun e w' => SomeBool w e w' := by
  unfold maxLen at hl
  go_enter Try.func13, Try.ntmps13
  go_wp2
  · go_ret
    exact ⟨_, rfl, rfl⟩
  · have hlb : (len : Int) ≤ 1048576 := by assumption
    go_loopg [13, 14] len (fun g z i wr => wr = w ∧ ∃ (q : Int) (k : Nat), 0 ≤ q ∧ q ≤ 1048576 ∧ k ≤ len ∧ g = len - k ∧ i = .int .i64 k ∧ z = .int .i64 q)
    case atStart => exact ⟨rfl, len, 0, by omega, by omega, Nat.zero_le _, rfl, rfl, rfl⟩
    case round =>
      obtain ⟨rfl, q, k, hq0, hq1, hk, rfl, rfl, rfl⟩ := hrel
      by_cases hlt : k < len
      · obtain rfl := h1.at' (by omega)
        have hlz : (k : Int) < (len : Int) := by omega
        have g0 := h1.cell k hlt
        have s0 := h1.size k
        go_wp2
        all_goals first
          | (go_ret; exact ⟨_, rfl, rfl⟩)
          | (go_roundg (len - (k + 1))
             case measure => go_light; omega
             case rel => go_light; exact ⟨rfl, _, k + 1, by omega, by omega, by omega, rfl, by go_num, rfl⟩)
      · have hlz : ¬ (k : Int) < (len : Int) := by omega
        go_wp2
        go_ret
        exact ⟨_, rfl, rfl⟩

/-- 15: zzBytes -/
theorem bytes15 (a : Option Addr) (b off len cap : Nat) (S : Nat → ByteArray) (x0 x1 x2 x3 x4 : Int) (w : World) (h1 : Came w a b off len cap S) (hl : len ≤ maxLen) :
    Calls Try.prog 15 #[.slice a len cap, .int .i64 x0, .int .i64 x1, .int .i64 x2, .int .i64 x3, .int .i64 x4] w fun e w' => SomeBool w e w' := by
  unfold maxLen at hl
  go_enter Try.func15, Try.ntmps15
  go_wp2
  · go_ret
    exact ⟨_, rfl, rfl⟩
  · have hlb : (len : Int) ≤ 1048576 := by assumption
    go_loopg [13, 14] len (fun g z i wr => wr = w ∧ ∃ (q : Int) (k : Nat), 0 ≤ q ∧ q ≤ 1048576 ∧ k ≤ len ∧ g = len - k ∧ i = .int .i64 k ∧ z = .int .i64 q)
    case atStart => exact ⟨rfl, len, 0, by omega, by omega, Nat.zero_le _, rfl, rfl, rfl⟩
    case round =>
      obtain ⟨rfl, q, k, hq0, hq1, hk, rfl, rfl, rfl⟩ := hrel
      by_cases hlt : k < len
      · obtain rfl := h1.at' (by omega)
        have hlz : (k : Int) < (len : Int) := by omega
        have g0 := h1.cell k hlt
        have s0 := h1.size k
        go_wp2
        all_goals first
          | (go_ret; exact ⟨_, rfl, rfl⟩)
          | (go_roundg (len - (k + 1))
             case measure => go_light; omega
             case rel => go_light; exact ⟨rfl, _, k + 1, by omega, by omega, by omega, rfl, by go_num, rfl⟩)
      · have hlz : ¬ (k : Int) < (len : Int) := by omega
        go_wp2
        go_ret
        exact ⟨_, rfl, rfl⟩


/-- 8: zzBytesOK -/
theorem ok8 (a : Option Addr) (b off len cap : Nat) (S : Nat → ByteArray) (w : World) (h1 : Came w a b off len cap S) (hl : len ≤ 65536) :
    Calls Try.prog 8 #[.slice a len cap] w fun e w' => SomeBool w e w' := by
  go_enter Try.func8, Try.ntmps8
  go_wp2
  go_loopg [3, 4] len (fun g z i wr => wr = w ∧ ∃ (q : Int) (k : Nat), k ≤ len ∧ g = len - k ∧ i = .int .i64 k ∧ z = .int .i64 q)
  case atStart => exact ⟨rfl, 16 * len, 0, Nat.zero_le _, rfl, rfl, rfl⟩
  case round =>
    obtain ⟨rfl, q, k, hk, rfl, rfl, rfl⟩ := hrel
    by_cases hlt : k < len
    · obtain rfl := h1.at' (by omega)
      have hlz : (k : Int) < (len : Int) := by omega
      have g0 := h1.cell k hlt
      go_wp2
      all_goals first
        | (go_ret; exact ⟨_, rfl, rfl⟩)
        | (go_roundg (len - (k + 1))
           case measure => go_light; omega
           case rel => go_light; exact ⟨rfl, _, k + 1, by omega, rfl, by go_num, rfl⟩)
    · have hlz : ¬ (k : Int) < (len : Int) := by omega
      go_wp2
      go_ret
      exact ⟨_, rfl, rfl⟩

theorem clone9_nil (w : World) :
    Calls Try.prog 9 #[.slice none 0 0] w fun e w' => e = .returned (.slice none 0 0) ∧ w' = w := by
  have hn := fun w => Lib.run_eql_slice_nil (P := Try.prog) w 22 9 none 0 0 0 0 Try.underlying22
  go_enter Try.func9, Try.ntmps9
  go_wp2
  go_ret
  exact ⟨rfl, rfl⟩

/-- 9: zzClone of a slice that is not nil: a new row. -/
theorem clone9 (x : Addr) (b off len cap : Nat) (S : Nat → ByteArray) (w : World) (hl : len ≤ 65536) (h1 : Came w (some x) b off len cap S) :
    Calls Try.prog 9 #[.slice (some x) len cap] w fun e w' => e = .returned (.slice (some ⟨w.heap.size, 0, none⟩) len len) ∧ Below w.heap.size w w' ∧ Strs w' w.heap.size len S := by
  have hn := fun w => Lib.run_eql_slice_nil (P := Try.prog) w 22 9 (some x) len cap 0 0 Try.underlying22
  have hmk := run_make_row' (P := Try.prog) 22 9 (.string ByteArray.empty) 16 Try.underlying22 Try.info9 rfl .i64 .i64 len (by omega) (by omega)
  go_enter Try.func9, Try.ntmps9
  go_wp2
  clear hmk hn
  go_loopg [4] len (fun g i wr => ∃ k : Nat, k ≤ len ∧ g = len - k ∧ i = .int .i64 k ∧ Below w.heap.size w wr ∧ wr.rowIs w.heap.size 9 len (fill (fun i => .string (S i)) (.string ByteArray.empty) k))
  case atStart => exact ⟨0, Nat.zero_le _, rfl, rfl, (Below.refl _ _).alloc (Nat.le_refl _) _, by rw [fill_zero]; exact World.rowIs_made w _ len 9⟩
  case round =>
    obtain ⟨k, hk, rfl, rfl, hB, hR⟩ := hrel
    by_cases hlt : k < len
    · have h1' := h1.below hB (Nat.le_refl _)
      obtain rfl : x = ⟨b, off, none⟩ := by simpa using h1.at' (by omega)
      have hlz : (k : Int) < (len : Int) := by omega
      have g0 := h1'.cell k hlt
      have g1 : wr.cell? ⟨w.heap.size, k, none⟩ = some (.string ByteArray.empty) := by rw [hR.cell hlt]; simp [fill]
      have g2 : wr.frozen? ⟨w.heap.size, k, none⟩ = false := hR.frozen k
      have R : Below w.heap.size w (wr.setCell ⟨w.heap.size, k, none⟩ (.string (S k))) ∧ (wr.setCell ⟨w.heap.size, k, none⟩ (.string (S k))).rowIs w.heap.size 9 len (fill (fun i => .string (S i)) (.string ByteArray.empty) (k + 1)) :=
        ⟨hB.setCell (Nat.le_refl _) _, by rw [← fill_set]; exact hR.set k _⟩
      clear hB hR h1 h1'
      go_wp2
      go_roundg (len - (k + 1))
      case measure => go_light; omega
      case rel => go_light; exact ⟨k + 1, by omega, rfl, by simp, R.1, R.2⟩
    · have hlz : ¬ (k : Int) < (len : Int) := by omega
      go_wp2
      go_ret
      exact ⟨rfl, hB, fill_all hR (by omega), h1.size⟩

/-- A row of the call's own as zzClone asks for it. -/
theorem Strs.came {w : World} {b n : Nat} {S : Nat → ByteArray} (h : Strs w b n S) : Came w (some ⟨b, 0, none⟩) b 0 n n S :=
  ⟨fun _ => rfl, fun h => by simp at h, fun i hi => by rw [Nat.zero_add]; exact h.row.cell hi, h.size⟩

theorem Strs.below {w w' : World} {b n B : Nat} {S : Nat → ByteArray} (h : Strs w b n S) (hb : Below B w w') (hB : b < B) : Strs w' b n S := ⟨rowIs_below h.row hb hB, h.size⟩
theorem Strs.only {w w' : World} {b c n : Nat} {S : Nat → ByteArray} (h : Strs w b n S) (ho : Only c w w') (hc : b ≠ c) : Strs w' b n S := ⟨ho.rowIs h.row hc, h.size⟩
theorem Strs.congr {w : World} {b n : Nat} {S T : Nat → ByteArray} (h : Strs w b n S) (e : S = T) : Strs w b n T := e ▸ h

/-- 10: zzSwap -/
theorem swap10 (b n i j : Nat) (S : Nat → ByteArray) (w : World) (hn : n ≤ 65536) (h : Strs w b n S) (hi : i < n) (hj : j < n) (hij : i < j) :
    Calls Try.prog 10 #[.slice (some ⟨b, 0, none⟩) n n, .int .i64 i, .int .i64 j] w fun e w' => e = .returned (.tuple #[]) ∧ Strs w' b n (swapF S i j) ∧ Only b w w' := by
  have g0 := h.row.cell hi
  have g1 := h.row.cell hj
  have f0 := h.row.frozen i
  have f1 := h.row.frozen j
  have iz : (i : Int) < (n : Int) := by omega
  have jz : (j : Int) < (n : Int) := by omega
  have hne : i ≠ j := by omega
  have R := strs_swap (i := i) (j := j) h
  have HR : Hid _ := R
  have HO : Hid (Only b w ((w.setCell ⟨b, i, none⟩ (.string (S j))).setCell ⟨b, j, none⟩ (.string (S i)))) := ((Only.refl b w).setCell i _).setCell j _
  clear h R
  go_enter Try.func10, Try.ntmps10
  go_wp2
  go_end0
  exact ⟨rfl, HR.out, HO.out⟩

/-- 12: zzEqual of two rows that hold the same. -/
theorem equal12 (b c n : Nat) (S : Nat → ByteArray) (w : World) (hn : n ≤ 65536) (h1 : Strs w b n S) (h2 : Strs w c n S) :
    Calls Try.prog 12 #[.slice (some ⟨b, 0, none⟩) n n, .slice (some ⟨c, 0, none⟩) n n] w fun e w' => e = .returned (.bool true) ∧ Still w w' := by
  go_enter Try.func12, Try.ntmps12
  go_wp2
  go_loopg [5] n (fun g i wr => Still w wr ∧ ∃ k : Nat, k ≤ n ∧ g = n - k ∧ i = .int .i64 k)
  case atStart => exact ⟨Still.refl _, 0, Nat.zero_le _, rfl, rfl⟩
  case round =>
    obtain ⟨hA, k, hk, rfl, rfl⟩ := hrel
    by_cases hlt : k < n
    · have hlz : (k : Int) < (n : Int) := by omega
      have g0 := (hA.cell _).trans (h1.row.cell hlt)
      have g1 := (hA.cell _).trans (h2.row.cell hlt)
      clear h1 h2
      go_wp2
      go_quiet (fail)
      go_wp2
      go_roundg (n - (k + 1))
      case measure => go_light; omega
      case rel => go_light; exact ⟨by repeat (first | exact hA | apply Still.drewN | apply Still.drew), k + 1, by omega, rfl, by go_num⟩
    · have hlz : ¬ (k : Int) < (n : Int) := by omega
      go_wp2
      go_ret
      exact ⟨rfl, hA⟩
end Go.Proofs.Qxb6603709a
