/-
  THE WALKS of the small float functions on the bucket laws' roads: nonNeg (16), bucketBytes (11), cloneF64 (13), sameFloat (17), usableWeights (36).
-/
import Derived.Test.Qxb6603048aRows
import Derived.Test.Qxb6603048aKitRows
import Derived.Test.Qxb6603048aFloatKit
import Derived.WalkSpells
import Derived.Deep.LoopGhost
import Derived.Deep.Light
import Derived.Deep.QuietTactic
import Derived.BigQuiet
namespace Go.Proofs.Qxb6603048a
open Go.RowKit
attribute [local go_sem] run_store_float

theorem Try.info23 : (Try.prog.info? 23).map (fun i => (i.zero, i.size, i.bytes)) = some (some (.float .f64 0), 1, 8) := by kernel_rfl

/-- 16: nonNeg -/
theorem nonNeg16 (n : Int) (w : World) : Calls Try.prog 16 #[.int .i64 n] w fun e w' => e = .returned (.int .i64 (n.toNat : Int)) ∧ w' = w := by
  by_cases h : n < 0
  · go_enter Try.func16, Try.ntmps16
    go_wp2
    go_ret
    exact ⟨ret_int (by omega), rfl⟩
  · go_enter Try.func16, Try.ntmps16
    go_wp2
    go_ret
    exact ⟨ret_int (by omega), rfl⟩

/-- 11: bucketBytes -/
theorem bucketBytes11 (a b n : Int) (w : World) : Calls Try.prog 11 #[.int .i64 a, .int .i64 b, .int .i64 n] w fun e w' => ∃ r : Int, e = .returned (.int .i64 r) ∧ w' = w := by
  go_enter Try.func11, Try.ntmps11
  go_wp2_with (go_at_call 16; refine (nonNeg16 _ _).mono ?_; rintro e w' ⟨rfl, rfl⟩)
  go_ret
  exact ⟨_, rfl, rfl⟩

/-- A slice of floats as it is met: nil or not; its cells. -/
structure Flts (w : World) (a : Option Addr) (b off len cap : Nat) (W : Nat → Nat) : Prop where
  at' : 0 < len → a = some ⟨b, off, none⟩
  nil : a = none → len = 0 ∧ cap = 0
  cell : ∀ i, i < len → w.cell? ⟨b, off + i, none⟩ = some (.float .f64 (W i))

theorem Flts.lt {w : World} {a : Option Addr} {b off len cap : Nat} {W : Nat → Nat} (h : Flts w a b off len cap W) (h0 : 0 < len) : b < w.heap.size :=
  World.block_lt_of_cell? _ _ (h.cell 0 (by omega))

theorem Flts.below {w w' : World} {a : Option Addr} {b off len cap B : Nat} {W : Nat → Nat} (h : Flts w a b off len cap W) (hb : Below B w w') (hB : w.heap.size ≤ B) : Flts w' a b off len cap W :=
  ⟨h.at', h.nil, fun i hi => (hb.cell (p := ⟨b, off + i, none⟩) (by have := h.lt (by omega); show b < B; omega)).trans (h.cell i hi)⟩

theorem clone13_nil (w : World) :
    Calls Try.prog 13 #[.slice none 0 0] w fun e w' => e = .returned (.slice none 0 0) ∧ w' = w := by
  have hn := fun w => Lib.run_eql_slice_nil (P := Try.prog) w 24 23 none 0 0 0 0 Try.underlying24
  go_enter Try.func13, Try.ntmps13
  go_wp2
  go_ret
  exact ⟨rfl, rfl⟩

/-- 13: cloneF64 of a slice that is not nil: a new row. -/
theorem clone13 (x : Addr) (b off len cap : Nat) (W : Nat → Nat) (w : World) (hl : len ≤ 65536) (h1 : Flts w (some x) b off len cap W) :
    Calls Try.prog 13 #[.slice (some x) len cap] w fun e w' => e = .returned (.slice (some ⟨w.heap.size, 0, none⟩) len len) ∧ Below w.heap.size w w' ∧ w'.rowIs w.heap.size 23 len (fun i => .float .f64 (W i)) := by
  have hn := fun w => Lib.run_eql_slice_nil (P := Try.prog) w 24 23 (some x) len cap 0 0 Try.underlying24
  have hmk := run_make_row' (P := Try.prog) 24 23 (.float .f64 0) 8 Try.underlying24 Try.info23 rfl .i64 .i64 len (by omega) (by omega)
  go_enter Try.func13, Try.ntmps13
  go_wp2
  clear hmk hn
  go_loopg [4] len (fun g i wr => ∃ k : Nat, k ≤ len ∧ g = len - k ∧ i = .int .i64 k ∧ Below w.heap.size w wr ∧ wr.rowIs w.heap.size 23 len (fl (fun i => .float .f64 (W i)) (fun _ => .float .f64 0) k))
  case atStart => exact ⟨0, Nat.zero_le _, rfl, rfl, (Below.refl _ _).alloc (Nat.le_refl _) _, by rw [fl_zero]; exact World.rowIs_made w _ len 23⟩
  case round =>
    obtain ⟨k, hk, rfl, rfl, hB, hR⟩ := hrel
    by_cases hlt : k < len
    · have h1' := h1.below hB (Nat.le_refl _)
      obtain rfl : x = ⟨b, off, none⟩ := by simpa using h1.at' (by omega)
      have hlz : (k : Int) < (len : Int) := by omega
      have g0 := h1'.cell k hlt
      have g1 : wr.cell? ⟨w.heap.size, k, none⟩ = some (.float .f64 0) := fl_cell hR hlt (Nat.le_refl _)
      have g2 : wr.frozen? ⟨w.heap.size, k, none⟩ = false := hR.frozen k
      have R : Below w.heap.size w (wr.setCell ⟨w.heap.size, k, none⟩ (.float .f64 (W k))) ∧ (wr.setCell ⟨w.heap.size, k, none⟩ (.float .f64 (W k))).rowIs w.heap.size 23 len (fl (fun i => .float .f64 (W i)) (fun _ => .float .f64 0) (k + 1)) :=
        ⟨hB.setCell (Nat.le_refl _) _, fl_step hR rfl⟩
      clear hB hR h1 h1'
      go_wp2
      go_roundg (len - (k + 1))
      case measure => go_light; omega
      case rel => go_light; exact ⟨k + 1, by omega, rfl, by simp, R.1, R.2⟩
    · have hlz : ¬ (k : Int) < (len : Int) := by omega
      go_wp2
      go_ret
      exact ⟨rfl, hB, fl_all hR (by omega)⟩

/-- A row of floats of the call's own, or nothing. -/
structure OwnF (w : World) (a : Option Addr) (b n : Nat) (W : Nat → Nat) : Prop where
  at' : 0 < n → a = some ⟨b, 0, none⟩
  row : 0 < n → w.rowIs b 23 n (fun i => .float .f64 (W i))

/-- The clone, nil or not. -/
def Cloned13 (len : Nat) (W : Nat → Nat) (w : World) (en : Ending) (w' : World) : Prop :=
  ∃ a, en = .returned (.slice a len len) ∧ OwnF w' a w.heap.size len W ∧ Below w.heap.size w w'

theorem clone13_any (a : Option Addr) (b off len cap : Nat) (W : Nat → Nat) (w : World) (hl : len ≤ 65536) (h1 : Flts w a b off len cap W) :
    Calls Try.prog 13 #[.slice a len cap] w fun e w' => Cloned13 len W w e w' := by
  cases a with
  | none =>
    obtain ⟨rfl, rfl⟩ := h1.nil rfl
    refine (clone13_nil w).mono ?_
    rintro e w' ⟨rfl, rfl⟩
    exact ⟨none, rfl, ⟨fun h => absurd h (Nat.lt_irrefl _), fun h => absurd h (Nat.lt_irrefl _)⟩, Below.refl _ _⟩
  | some x =>
    refine (clone13 x b off len cap W w hl h1).mono ?_
    rintro e w' ⟨rfl, hB, hR⟩
    exact ⟨_, rfl, ⟨fun _ => rfl, fun _ => hR⟩, hB⟩

theorem order_self {x : Nat} (h : nanB x = false) : FloatKind.f64.format.order x x = some .eq := by
  unfold nanB at h
  unfold Ieee.Format.order
  cases hr : FloatKind.f64.format.read x with
  | number s m i => simp [Ieee.Datum.order, compare, compareOfLessAndEq]
  | infinity s => simp [Ieee.Datum.order, compare, compareOfLessAndEq]
  | nan s t => have e : F64.read x = .nan s t := hr; rw [e] at h; cases h

theorem order_nan {x y : Nat} (h : nanB x = true ∨ nanB y = true) : FloatKind.f64.format.order x y = none := by
  unfold nanB at h
  unfold Ieee.Format.order
  rcases h with h | h
  · cases hr : FloatKind.f64.format.read x with
    | number s m i => have e : F64.read x = _ := hr; rw [e] at h; cases h
    | infinity s => have e : F64.read x = _ := hr; rw [e] at h; cases h
    | nan s t => simp [Ieee.Datum.order]
  · cases hr : FloatKind.f64.format.read y with
    | number s m i => have e : F64.read y = _ := hr; rw [e] at h; cases h
    | infinity s => have e : F64.read y = _ := hr; rw [e] at h; cases h
    | nan s t => cases FloatKind.f64.format.read x <;> simp [Ieee.Datum.order]

theorem zero_div {x : Nat} (h : FloatKind.f64.format.order x 0 = some .eq) : ∃ r, floatBits .quo .f64 4607182418800017408 x = some r ∧ nanB r = false := by
  have r0 : FloatKind.f64.format.read 0 = .number false 0 (-1074) := by decide
  have r1 : FloatKind.f64.format.read 4607182418800017408 = .number false 4503599627370496 (-52) := by decide
  unfold Ieee.Format.order at h
  rw [r0] at h
  have hz : ∃ s i, FloatKind.f64.format.read x = .number s 0 i := by
    cases hr : FloatKind.f64.format.read x with
    | number s m i =>
      rw [hr] at h
      simp only [Ieee.Datum.order, Option.some.injEq] at h
      have h' := Int.compare_eq_eq.1 h
      have : m = 0 := by
        unfold Ieee.signed at h'
        have e0 : (0 <<< (-1074 - min i (-1074)).toNat : Nat) = 0 := Nat.zero_shiftLeft _
        simp only [e0] at h'
        rw [Nat.shiftLeft_eq] at h'
        have hp : 0 < 2 ^ (i - min i (-1074)).toNat := Nat.two_pow_pos _
        rcases Nat.eq_zero_or_pos m with h0 | h0
        · exact h0
        · have := Nat.mul_pos h0 hp
          exfalso
          split at h' <;> omega
      subst this
      exact ⟨s, i, rfl⟩
    | infinity s => rw [hr] at h; cases s <;> simp [Ieee.Datum.order] at h
    | nan s t => rw [hr] at h; simp [Ieee.Datum.order] at h
  obtain ⟨s, i, hr⟩ := hz
  refine ⟨FloatKind.f64.format.write (.infinity (false ^^ s)), ?_, ?_⟩
  · show FloatKind.f64.format.div 4607182418800017408 x = _
    unfold Ieee.Format.div
    rw [r1, hr]
    rfl
  · cases s <;> decide

/-- 17: sameFloat at two words that are one or both NaN. -/
theorem same17 (x y : Nat) (h : Eqv x y) (w : World) : Calls Try.prog 17 #[.float .f64 x, .float .f64 y] w fun e w' => e = .returned (.bool true) ∧ w' = w := by
  cases hx : nanB x with
  | true =>
    have hy : nanB y = true := by rw [← h.nan, hx]
    have o1 := order_nan (x := x) (y := x) (.inl hx)
    have o2 := order_nan (x := y) (y := y) (.inl hy)
    go_enter Try.func17, Try.ntmps17
    go_wp2
    go_ret
    exact ⟨rfl, rfl⟩
  | false =>
    obtain rfl : x = y := h.symm.eq (by rw [hx]) |>.symm
    have o1 := order_self hx
    by_cases h0 : FloatKind.f64.format.order x 0 = some .eq
    · obtain ⟨r, hr, hn⟩ := zero_div h0
      have hdiv := fun w => run_float_arith (P := Try.prog) w .quo 23 .f64 4607182418800017408 x r hr
      have o2 := order_self hn
      clear h hx hn hr
      go_enter Try.func17, Try.ntmps17
      go_wp2
      go_ret
      exact ⟨rfl, rfl⟩
    · have h1 : (FloatKind.f64.format.order x 0 == some .eq) = false := by simpa using h0
      clear h hx h0
      go_enter Try.func17, Try.ntmps17
      go_wp2
      go_ret
      exact ⟨rfl, rfl⟩
theorem order_eqv {s s' : Nat} (h : Eqv s s') (c : Nat) : FloatKind.f64.format.order s c = FloatKind.f64.format.order s' c := by
  rcases h with rfl | ⟨h1, h2⟩
  · rfl
  · rw [order_nan (.inl h1), order_nan (.inl h2)]

/-- The sum of the first k weights, as Go sums them. -/
def sumC (W : Nat → Nat) : Nat → Nat
  | 0 => 0
  | k + 1 => fo .add (sumC W k) (W k)

/-- '>= 0.99' -/
def atLeast (s : Nat) : Bool := FloatKind.f64.format.order s 4607092346807469998 == some .gt || FloatKind.f64.format.order s 4607092346807469998 == some .eq
/-- '<= 1.01' -/
def atMost (s : Nat) : Bool := FloatKind.f64.format.order s 4607227454796291113 == some .lt || FloatKind.f64.format.order s 4607227454796291113 == some .eq

def usableB (n : Int) (nw : Nat) (W : Nat → Nat) : Bool := decide ((nw : Int) = n) && (atLeast (sumC W nw) && atMost (sumC W nw))

/-- 36: usableWeights -/
theorem usable36 (n : Int) (a : Option Addr) (b nw cw : Nat) (W : Nat → Nat) (w : World) (hl : nw ≤ 65536) (h1 : OwnF w a b nw W) :
    Calls Try.prog 36 #[.int .i64 n, .slice a nw cw] w fun e w' => e = .returned (.bool (usableB n nw W)) ∧ Still w w' := by
  by_cases hn : (nw : Int) = n
  · subst hn
    have hneq : ((nw : Int) != (nw : Int)) = false := by simp
    have hadd := run_float_add (P := Try.prog) 23
    have HU : Hid (usableB nw nw W = (atLeast (sumC W nw) && atMost (sumC W nw))) := by show _ = _; simp [usableB]
    go_enter Try.func36, Try.ntmps36
    go_wp2
    go_loopg [5, 14] nw (fun g s i wr => ∃ (k sb : Nat), k ≤ nw ∧ g = nw - k ∧ i = .int .i64 k ∧ s = .float .f64 sb ∧ Eqv sb (sumC W k) ∧ Still w wr)
    case atStart => exact ⟨0, 0, Nat.zero_le _, rfl, rfl, rfl, Eqv.refl _, Still.refl _⟩
    case round =>
      obtain ⟨k, sb, hk, rfl, rfl, rfl, hE, hS⟩ := hrel
      by_cases hlt : k < nw
      · obtain rfl := h1.at' (by omega)
        have hlz : (k : Int) < (nw : Int) := by omega
        have g0 : wr.cell? ⟨b, k, none⟩ = some (.float .f64 (W k)) := (hS.cell _).trans ((h1.row (by omega)).cell hlt)
        go_wp2
        go_roundg (nw - (k + 1))
        case measure => go_light; omega
        case rel => go_light; exact ⟨k + 1, _, by omega, rfl, by go_num, rfl, fres_eqv .add hE (Eqv.refl _) _, by repeat (first | exact hS | apply Still.drewN | apply Still.drew)⟩
      · have hlz : ¬ (k : Int) < (nw : Int) := by omega
        obtain rfl : k = nw := by omega
        have o1 := order_eqv hE 4607092346807469998
        have o2 := order_eqv hE 4607227454796291113
        have HA : Hid (atLeast (sumC W k) = (FloatKind.f64.format.order sb 4607092346807469998 == some .gt || FloatKind.f64.format.order sb 4607092346807469998 == some .eq)) := by show _ = _; unfold atLeast; rw [o1]
        have HM : Hid (atMost (sumC W k) = (FloatKind.f64.format.order sb 4607227454796291113 == some .lt || FloatKind.f64.format.order sb 4607227454796291113 == some .eq)) := by show _ = _; unfold atMost; rw [o2]
        clear o1 o2
        go_wp2
        · have h : FloatKind.f64.format.order sb 4607092346807469998 = some .gt ∨ FloatKind.f64.format.order sb 4607092346807469998 = some .eq := by assumption
          have h' : (FloatKind.f64.format.order sb 4607092346807469998 == some .gt || FloatKind.f64.format.order sb 4607092346807469998 == some .eq) = true := by simpa using h
          go_ret
          exact ⟨ret_bool (by rw [HU.out, HA.out, HM.out, h', Bool.true_and]), hS⟩
        · have h : ¬ (FloatKind.f64.format.order sb 4607092346807469998 = some .gt ∨ FloatKind.f64.format.order sb 4607092346807469998 = some .eq) := by assumption
          have h' : (FloatKind.f64.format.order sb 4607092346807469998 == some .gt || FloatKind.f64.format.order sb 4607092346807469998 == some .eq) = false := by simpa using h
          go_ret
          exact ⟨ret_bool (by rw [HU.out, HA.out, h', Bool.false_and]), hS⟩
  · have hneq : ((nw : Int) != n) = true := by simpa using hn
    have HU : Hid (usableB n nw W = false) := by show _ = _; simp [usableB, hn]
    go_enter Try.func36, Try.ntmps36
    go_wp2
    go_ret
    exact ⟨ret_bool HU.out.symm, Still.refl _⟩
end Go.Proofs.Qxb6603048a
