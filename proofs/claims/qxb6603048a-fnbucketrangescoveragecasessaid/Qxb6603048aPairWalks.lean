/-
  THE WALKS of zzBytes (10), clonePairs (12), toRanges (15). A row of pairs is told by its cells: 'D (2 * i)', 'D (2 * i + 1)'.
-/
import Derived.Test.Qxb6603048aBucketWalks
namespace Go.Proofs.Qxb6603048a
open Go.RowKit
attribute [local go_sem] run_store_float

theorem Try.info34 : (Try.prog.info? 34).map (fun i => (i.zero, i.size, i.bytes)) = some (some (.agg #[.float .f64 0, .float .f64 0]), 2, 16) := by kernel_rfl

/-- A slice of pairs as it is met: nil or not; its cells. -/
structure Prs (w : World) (a : Option Addr) (b off len cap : Nat) (D : Nat → Nat) : Prop where
  at' : 0 < len → a = some ⟨b, off, none⟩
  nil : a = none → len = 0 ∧ cap = 0
  cell : ∀ i, i < len * 2 → w.cell? ⟨b, off + i, none⟩ = some (.float .f64 (D i))

theorem Prs.lt {w : World} {a : Option Addr} {b off len cap : Nat} {D : Nat → Nat} (h : Prs w a b off len cap D) (h0 : 0 < len) : b < w.heap.size :=
  World.block_lt_of_cell? _ _ (h.cell 0 (by omega))

theorem Prs.below {w w' : World} {a : Option Addr} {b off len cap B : Nat} {D : Nat → Nat} (h : Prs w a b off len cap D) (hb : Below B w w') (hB : 0 < len → b < B) : Prs w' a b off len cap D :=
  ⟨h.at', h.nil, fun i hi => (hb.cell (p := ⟨b, off + i, none⟩) (hB (by omega))).trans (h.cell i hi)⟩

/-- 10: zzBytes -/
theorem bytes10 (a a2 : Option Addr) (len cap len2 cap2 : Nat) (n : Int) (c : Nat) (w : World) (hl : len ≤ maxLen) (hl2 : len2 ≤ maxLen) :
    Calls Try.prog 10 #[.slice a len cap, .int .i64 n, .float .f64 c, .slice a2 len2 cap2] w fun e w' => ∃ r : Bool, e = .returned (.bool r) ∧ w' = w := by
  unfold maxLen at hl hl2
  go_enter Try.func10, Try.ntmps10
  go_wp2
  all_goals
    go_ret
    simp

theorem made2 (t : TypeId) (w : World) (cs : Array Value) (hcs : (Value.agg #[.float .f64 0, .float .f64 0]).cells = cs) (n : Nat) (f : Nat → Value) : (w.alloc (.cells (madeCells cs n) t)).rowIs w.heap.size t n (fl f (fun _ => .float .f64 0) (0 * 2)) := by
  rw [Nat.zero_mul, fl_zero, ← hcs]
  refine rowIs_madeN w _ _ _ _ (by simp [Value.cells]) (fun i hi => ?_) (fun i => rfl)
  match i, hi with
  | 0, _ => rfl
  | 1, _ => rfl

theorem clone12_nil (w : World) :
    Calls Try.prog 12 #[.slice none 0 0] w fun e w' => e = .returned (.slice none 0 0) ∧ w' = w := by
  have hn := fun w => Lib.run_eql_slice_nil (P := Try.prog) w 22 34 none 0 0 0 0 Try.underlying22
  go_enter Try.func12, Try.ntmps12
  go_wp2
  go_ret
  exact ⟨rfl, rfl⟩

theorem ranges15_nil (w : World) :
    Calls Try.prog 15 #[.slice none 0 0] w fun e w' => e = .returned (.slice none 0 0) ∧ w' = w := by
  have hn := fun w => Lib.run_eql_slice_nil (P := Try.prog) w 22 34 none 0 0 0 0 Try.underlying22
  go_enter Try.func15, Try.ntmps15
  go_wp2
  go_ret
  exact ⟨rfl, rfl⟩

/-- 12: a slice that is not nil: a new row. -/
theorem clone12 (x : Addr) (b off len cap : Nat) (D : Nat → Nat) (w : World) (h1 : Prs w (some x) b off len cap D) (hl : len ≤ 65536) :
    Calls Try.prog 12 #[.slice (some x) len cap] w fun e w' => e = .returned (.slice (some ⟨w.heap.size, 0, none⟩) len len) ∧ Below w.heap.size w w' ∧ w'.rowIs w.heap.size 34 (len * 2) (fun i => .float .f64 (D i)) := by
  have hn := fun w => Lib.run_eql_slice_nil (P := Try.prog) w 22 34 (some x) len cap 0 0 Try.underlying22
  have hmk := run_make_rows (P := Try.prog) 22 34 _ 2 16 Try.underlying22 Try.info34 .i64 .i64 len (by omega) (by omega)
  obtain ⟨cs, hcs⟩ : ∃ cs, (Value.agg #[.float .f64 0, .float .f64 0]).cells = cs := ⟨_, rfl⟩
  rw [hcs] at hmk
  have hR0 := made2 34 w cs hcs (len * 2) (fun i => .float .f64 (D i))
  clear hcs
  go_enter Try.func12, Try.ntmps12
  go_wp2
  clear hmk hn
  go_loopg [4] len (fun g i wr => ∃ k : Nat, k ≤ len ∧ g = len - k ∧ i = .int .i64 k ∧ Below w.heap.size w wr ∧ wr.rowIs w.heap.size 34 (len * 2) (fl (fun i => .float .f64 (D i)) (fun _ => .float .f64 0) (k * 2)))
  case atStart => exact ⟨0, Nat.zero_le _, rfl, rfl, (Below.refl _ _).alloc (Nat.le_refl _) _, hR0⟩
  case round =>
    obtain ⟨k, hk, rfl, rfl, hB, hR⟩ := hrel
    clear hR0
    by_cases hlt : k < len
    · have h1' := h1.below hB (fun h => h1.lt h)
      obtain rfl : x = ⟨b, off, none⟩ := by simpa using h1.at' (by omega)
      have hlz : (k : Int) < (len : Int) := by omega
      have g0 : wr.cell? ⟨b, off + k * 2, none⟩ = some (.float .f64 (D (k * 2))) := h1'.cell _ (by omega)
      have g0' : wr.cell? ⟨b, off + k * 2 + 1, none⟩ = some (.float .f64 (D (k * 2 + 1))) := by rw [Nat.add_assoc]; exact h1'.cell _ (by omega)
      have g1 : wr.cell? ⟨w.heap.size, k * 2, none⟩ = some (.float .f64 0) := fl_cell hR (by omega) (Nat.le_refl _)
      have g1' : wr.cell? ⟨w.heap.size, k * 2 + 1, none⟩ = some (.float .f64 0) := fl_cell hR (by omega) (by omega)
      have g2 : wr.frozen? ⟨w.heap.size, k * 2, none⟩ = false := hR.frozen _
      have g2' : wr.frozen? ⟨w.heap.size, k * 2 + 1, none⟩ = false := hR.frozen _
      have R : Below w.heap.size w ((wr.setCell ⟨w.heap.size, k * 2, none⟩ (.float .f64 (D (k * 2)))).setCell ⟨w.heap.size, k * 2 + 1, none⟩ (.float .f64 (D (k * 2 + 1)))) ∧
          ((wr.setCell ⟨w.heap.size, k * 2, none⟩ (.float .f64 (D (k * 2)))).setCell ⟨w.heap.size, k * 2 + 1, none⟩ (.float .f64 (D (k * 2 + 1)))).rowIs w.heap.size 34 (len * 2) (fl (fun i => .float .f64 (D i)) (fun _ => .float .f64 0) ((k + 1) * 2)) :=
        ⟨(hB.setCell (Nat.le_refl _) _).setCell (Nat.le_refl _) _, by rw [show (k + 1) * 2 = k * 2 + 1 + 1 by omega]; exact fl_step (fl_step hR rfl) rfl⟩
      clear hB hR h1 h1'
      go_wp2
      go_roundg (len - (k + 1))
      case measure => go_light; omega
      case rel => go_light; exact ⟨k + 1, by omega, rfl, by go_num, R.1, R.2⟩
    · have hlz : ¬ (k : Int) < (len : Int) := by omega
      go_wp2
      go_ret
      exact ⟨rfl, hB, fl_all hR (by omega)⟩


/-- 15: a slice that is not nil: a new row. -/
theorem ranges15 (x : Addr) (b off len cap : Nat) (D : Nat → Nat) (w : World) (h1 : Prs w (some x) b off len cap D) (hl : len ≤ 65536) :
    Calls Try.prog 15 #[.slice (some x) len cap] w fun e w' => e = .returned (.slice (some ⟨w.heap.size, 0, none⟩) len len) ∧ Below w.heap.size w w' ∧ w'.rowIs w.heap.size 35 (len * 2) (fun i => .float .f64 (D i)) := by
  have hn := fun w => Lib.run_eql_slice_nil (P := Try.prog) w 22 34 (some x) len cap 0 0 Try.underlying22
  have hmk := run_make_rows (P := Try.prog) 29 35 _ 2 16 Try.underlying29 Try.info35 .i64 .i64 len (by omega) (by omega)
  obtain ⟨cs, hcs⟩ : ∃ cs, (Value.agg #[.float .f64 0, .float .f64 0]).cells = cs := ⟨_, rfl⟩
  rw [hcs] at hmk
  have hR0 := made2 35 w cs hcs (len * 2) (fun i => .float .f64 (D i))
  clear hcs
  go_enter Try.func15, Try.ntmps15
  go_wp2
  clear hmk hn
  go_loopg [4] len (fun g i wr => ∃ k : Nat, k ≤ len ∧ g = len - k ∧ i = .int .i64 k ∧ Below w.heap.size w wr ∧ wr.rowIs w.heap.size 35 (len * 2) (fl (fun i => .float .f64 (D i)) (fun _ => .float .f64 0) (k * 2)))
  case atStart => exact ⟨0, Nat.zero_le _, rfl, rfl, (Below.refl _ _).alloc (Nat.le_refl _) _, hR0⟩
  case round =>
    obtain ⟨k, hk, rfl, rfl, hB, hR⟩ := hrel
    clear hR0
    by_cases hlt : k < len
    · have h1' := h1.below hB (fun h => h1.lt h)
      obtain rfl : x = ⟨b, off, none⟩ := by simpa using h1.at' (by omega)
      have hlz : (k : Int) < (len : Int) := by omega
      have g0 : wr.cell? ⟨b, off + k * 2, none⟩ = some (.float .f64 (D (k * 2))) := h1'.cell _ (by omega)
      have g0' : wr.cell? ⟨b, off + k * 2 + 1, none⟩ = some (.float .f64 (D (k * 2 + 1))) := by rw [Nat.add_assoc]; exact h1'.cell _ (by omega)
      have g1 : wr.cell? ⟨w.heap.size, k * 2, none⟩ = some (.float .f64 0) := fl_cell hR (by omega) (Nat.le_refl _)
      have g1' : wr.cell? ⟨w.heap.size, k * 2 + 1, none⟩ = some (.float .f64 0) := fl_cell hR (by omega) (by omega)
      have g2 : wr.frozen? ⟨w.heap.size, k * 2, none⟩ = false := hR.frozen _
      have g2' : wr.frozen? ⟨w.heap.size, k * 2 + 1, none⟩ = false := hR.frozen _
      have R : Below w.heap.size w ((wr.setCell ⟨w.heap.size, k * 2, none⟩ (.float .f64 (D (k * 2)))).setCell ⟨w.heap.size, k * 2 + 1, none⟩ (.float .f64 (D (k * 2 + 1)))) ∧
          ((wr.setCell ⟨w.heap.size, k * 2, none⟩ (.float .f64 (D (k * 2)))).setCell ⟨w.heap.size, k * 2 + 1, none⟩ (.float .f64 (D (k * 2 + 1)))).rowIs w.heap.size 35 (len * 2) (fl (fun i => .float .f64 (D i)) (fun _ => .float .f64 0) ((k + 1) * 2)) :=
        ⟨(hB.setCell (Nat.le_refl _) _).setCell (Nat.le_refl _) _, by rw [show (k + 1) * 2 = k * 2 + 1 + 1 by omega]; exact fl_step (fl_step hR rfl) rfl⟩
      clear hB hR h1 h1'
      go_wp2
      go_roundg (len - (k + 1))
      case measure => go_light; omega
      case rel => go_light; exact ⟨k + 1, by omega, rfl, by go_num, R.1, R.2⟩
    · have hlz : ¬ (k : Int) < (len : Int) := by omega
      go_wp2
      go_ret
      exact ⟨rfl, hB, fl_all hR (by omega)⟩


/-- What a clone left: nil or a new row. -/
def Cloned2 (t : TypeId) (len : Nat) (D : Nat → Nat) (isNil : Bool) (w : World) (en : Ending) (w' : World) : Prop :=
  ∃ a, en = .returned (.slice a len len) ∧ (isNil = true → a = none ∧ len = 0) ∧ (isNil = false → a = some ⟨w.heap.size, 0, none⟩ ∧ w'.rowIs w.heap.size t (len * 2) (fun i => .float .f64 (D i))) ∧ Below w.heap.size w w'

theorem clone12_any (a : Option Addr) (b off len cap : Nat) (D : Nat → Nat) (w : World) (h1 : Prs w a b off len cap D) (hl : len ≤ 65536) :
    Calls Try.prog 12 #[.slice a len cap] w fun e w' => Cloned2 34 len D a.isNone w e w' := by
  cases a with
  | none =>
    obtain ⟨rfl, rfl⟩ := h1.nil rfl
    refine (clone12_nil w).mono ?_
    rintro e w' ⟨rfl, rfl⟩
    exact ⟨none, rfl, fun _ => ⟨rfl, rfl⟩, fun h => by simp at h, Below.refl _ _⟩
  | some x =>
    refine (clone12 x b off len cap D w h1 hl).mono ?_
    rintro e w' ⟨rfl, hB, hR⟩
    exact ⟨_, rfl, fun h => by simp at h, fun _ => ⟨rfl, hR⟩, hB⟩

theorem ranges15_any (a : Option Addr) (b off len cap : Nat) (D : Nat → Nat) (w : World) (h1 : Prs w a b off len cap D) (hl : len ≤ 65536) :
    Calls Try.prog 15 #[.slice a len cap] w fun e w' => Cloned2 35 len D a.isNone w e w' := by
  cases a with
  | none =>
    obtain ⟨rfl, rfl⟩ := h1.nil rfl
    refine (ranges15_nil w).mono ?_
    rintro e w' ⟨rfl, rfl⟩
    exact ⟨none, rfl, fun _ => ⟨rfl, rfl⟩, fun h => by simp at h, Below.refl _ _⟩
  | some x =>
    refine (ranges15 x b off len cap D w h1 hl).mono ?_
    rintro e w' ⟨rfl, hB, hR⟩
    exact ⟨_, rfl, fun h => by simp at h, fun _ => ⟨rfl, hR⟩, hB⟩

/-- A clone as the next callee asks for it. -/
theorem Cloned2.prs {w' : World} {a : Option Addr} {b len : Nat} {D : Nat → Nat} {t : TypeId} (z : Bool) (h0 : z = true → a = none ∧ len = 0) (h1 : z = false → a = some ⟨b, 0, none⟩ ∧ w'.rowIs b t (len * 2) (fun i => .float .f64 (D i))) : Prs w' a b 0 len len D := by
  cases z with
  | true =>
    obtain ⟨rfl, rfl⟩ := h0 rfl
    exact ⟨fun h => absurd h (Nat.lt_irrefl _), fun _ => ⟨rfl, rfl⟩, fun i h => absurd h (by omega)⟩
  | false =>
    obtain ⟨rfl, hr⟩ := h1 rfl
    exact ⟨fun _ => rfl, fun h => by simp at h, fun i h => by rw [Nat.zero_add]; exact hr.cell h⟩

/-- The ranges made of dst, as appendBucketRanges asks for them. -/
theorem Cloned2.own {w' : World} {a : Option Addr} {b len base : Nat} {D : Nat → Nat} (z : Bool) (hlen : len ≤ 65536) (hb : base ≤ b) (h0 : z = true → a = none ∧ len = 0) (h1 : z = false → a = some ⟨b, 0, none⟩ ∧ w'.rowIs b 35 (len * 2) (fun i => .float .f64 (D i))) :
    w'.ownsRow base 35 2 (.slice a len len) len ((List.range (len * 2)).map (fun i => Value.float .f64 (D i))) := by
  cases z with
  | true =>
    obtain ⟨rfl, rfl⟩ := h0 rfl
    exact World.ownsRow_nil _ _ _ _
  | false =>
    obtain ⟨rfl, cur, hr, hn, hc⟩ := h1 rfl
    refine ⟨by simp, .inr ⟨b, len, cur, rfl, hb, hr, Nat.le_refl _, by unfold maxLen; omega, hn, ?_⟩⟩
    apply List.ext_getElem?
    intro i
    rw [List.getElem?_take]
    by_cases hi : i < len * 2
    · rw [if_pos hi, Array.getElem?_toList, hc i hi]
      simp [hi]
    · rw [if_neg hi, List.getElem?_eq_none (by simp; omega)]

end Go.Proofs.Qxb6603048a
