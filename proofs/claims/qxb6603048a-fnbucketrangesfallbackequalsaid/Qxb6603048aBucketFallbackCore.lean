/-
  THE WALKS of zzBytes (19), weightsPlainlyRefused (20) and FnBucketRangesFallbackEqual (5).
-/
import Derived.Test.Qxb6603048aBucketOut
import Derived.Test.Qxb6603048aFloatRefuse
import Derived.Deep.RegionWith
set_option linter.unusedVariables false
namespace Go.Proofs.Qxb6603048a.fnBucketFallback
open Go.RowKit
attribute [local go_sem] run_store_float

/-- 19: zzBytes -/
theorem bytes19 (a2 : Option Addr) (len2 cap2 : Nat) (n : Int) (c : Nat) (w : World) (hl2 : len2 ≤ maxLen) :
    Calls Try.prog 19 #[.int .i64 n, .float .f64 c, .slice a2 len2 cap2] w fun e w' => ∃ r : Bool, e = .returned (.bool r) ∧ w' = w := by
  unfold maxLen at hl2
  go_enter Try.func19, Try.ntmps19
  go_wp2
  all_goals
    go_ret
    simp

/-- What the flags have seen. -/
structure Flags (n : Int) (nw k : Nat) (W : Nat → Nat) (r p q ab : Bool) : Prop where
  refused : r = true → (nw : Int) ≠ n ∨ ∃ i, i < k ∧ finB (W i) = false
  nonpos : p = true → ∀ i, i < k → F64.order (W i) 0 ≠ some .gt
  nonneg : q = true → ∀ i, i < k → F64.order (W i) 0 ≠ some .lt
  above : ab = true → ∃ i, i < k ∧ F64.order (W i) 4607227454796291113 = some .gt

theorem Flags.step {n : Int} {nw k : Nat} {W : Nat → Nat} {r p q ab r' p' q' ab' : Bool} (h : Flags n nw k W r p q ab) (hr : r' = true → r = true ∨ finB (W k) = false) (hp : p' = true → p = true ∧ F64.order (W k) 0 ≠ some .gt)
    (hq : q' = true → q = true ∧ F64.order (W k) 0 ≠ some .lt) (ha : ab' = true → ab = true ∨ F64.order (W k) 4607227454796291113 = some .gt) : Flags n nw (k + 1) W r' p' q' ab' := by
  refine ⟨fun e => ?_, fun e i hi => ?_, fun e i hi => ?_, fun e => ?_⟩
  · rcases hr e with h1 | h1
    · rcases h.refused h1 with h2 | ⟨i, hi, h2⟩
      · exact .inl h2
      · exact .inr ⟨i, by omega, h2⟩
    · exact .inr ⟨k, by omega, h1⟩
  · obtain ⟨h1, h2⟩ := hp e
    by_cases ek : i = k
    · subst ek; exact h2
    · exact h.nonpos h1 i (by omega)
  · obtain ⟨h1, h2⟩ := hq e
    by_cases ek : i = k
    · subst ek; exact h2
    · exact h.nonneg h1 i (by omega)
  · rcases ha e with h1 | h1
    · obtain ⟨i, hi, h2⟩ := h.above h1
      exact ⟨i, by omega, h2⟩
    · exact ⟨k, by omega, h1⟩

theorem Flags.refuse {n : Int} {nw : Nat} {W : Nat → Nat} {r p q ab : Bool} (h : Flags n nw nw W r p q ab) (hW : ∀ i, i < nw → W i < 18446744073709551616) (e : r = true ∨ p = true ∨ (q = true ∧ ab = true)) : usableB n nw W = false := by
  by_cases hb : ∃ i, i < nw ∧ finB (W i) = false
  · obtain ⟨i, hi, hf⟩ := hb
    exact refuse_nonfin hi hf
  · have hf : ∀ i, i < nw → finB (W i) = true := fun i hi => by
      cases hc : finB (W i) with
      | true => rfl
      | false => exact absurd ⟨i, hi, hc⟩ hb
    rcases e with e | e | ⟨e1, e2⟩
    · rcases h.refused e with h1 | h1
      · simp [usableB, h1]
      · exact absurd h1 hb
    · exact refuse_npos hW hf (h.nonpos e)
    · obtain ⟨j, hj, ha⟩ := h.above e2
      exact refuse_above hW hf (h.nonneg e1) hj ha

theorem beq_no {o v : Option Ordering} (h : (o == v) = false) : o ≠ v := by simpa using h
theorem beq_yes {o v : Option Ordering} (h : (o == v) = true) : o = v := by simpa using h
theorem bad_of_ne {x : Nat} (h : ¬ FloatKind.f64.format.order x x = some .eq) : finB x = false := bad_of_neq (by simpa using h)

def Post20 (n : Int) (nw : Nat) (W : Nat → Nat) (w : World) (e : Ending) (w' : World) : Prop := ∃ r : Bool, e = .returned (.bool r) ∧ (r = true → usableB n nw W = false) ∧ Still w w'

set_option maxHeartbeats 1000000 in
theorem refused20 (n : Int) (a : Option Addr) (b off nw cw : Nat) (W : Nat → Nat) (w : World) (hl : nw ≤ 65536) (h1 : Flts w a b off nw cw W) (hW : ∀ i, i < nw → W i < 18446744073709551616) :
    Calls Try.prog 20 #[.int .i64 n, .slice a nw cw] w fun e w' => Post20 n nw W w e w' := by
  have hsub := run_float_sub (P := Try.prog) 23
  go_enter Try.func20, Try.ntmps20
  go_wp2
  go_loopg [5, 6, 7, 8, 9] nw (fun g r p q ab i wr => ∃ (k : Nat) (r' p' q' ab' : Bool), k ≤ nw ∧ g = nw - k ∧ i = .int .i64 k ∧ r = .bool r' ∧ p = .bool p' ∧ q = .bool q' ∧ ab = .bool ab' ∧ Flags n nw k W r' p' q' ab' ∧ Still w wr)
  case atStart => exact ⟨0, _, _, _, _, Nat.zero_le _, rfl, rfl, rfl, rfl, rfl, rfl, ⟨fun e => .inl (by simpa using e), fun _ i h => absurd h (Nat.not_lt_zero _), fun _ i h => absurd h (Nat.not_lt_zero _), fun e => by cases e⟩, Still.refl _⟩
  case round =>
    obtain ⟨k, r', p', q', ab', hk, rfl, rfl, rfl, rfl, rfl, rfl, hF, hS⟩ := hrel
    by_cases hlt : k < nw
    · obtain rfl := h1.at' (by omega)
      have hlz : (k : Int) < (nw : Int) := by omega
      have g0 : wr.cell? ⟨b, off + k, none⟩ = some (.float .f64 (W k)) := (hS.cell _).trans (h1.cell k hlt)
      go_wp2
      all_goals
        go_roundg (nw - (k + 1))
        case measure => go_light; omega
        case rel =>
          go_light
          refine ⟨k + 1, _, _, _, _, by omega, rfl, by go_num, rfl, rfl, rfl, rfl, hF.step ?_ ?_ ?_ ?_, by repeat (first | exact hS | apply Still.drewN | apply Still.drew)⟩
          · first | (intro h; exact .inl h) | (intro _; exact .inr (bad_of_sub ‹_›)) | (intro _; exact .inr (bad_of_neq ‹_›)) | (intro _; exact .inr (bad_of_ne ‹_›))
          · first | (intro h; cases h; done) | (intro h; exact ⟨h, beq_no ‹_›⟩)
          · first | (intro h; cases h; done) | (intro h; exact ⟨h, beq_no ‹_›⟩)
          · first | (intro h; exact .inl h) | (intro _; exact .inr (beq_yes ‹_›))
    · have hlz : ¬ (k : Int) < (nw : Int) := by omega
      obtain rfl : k = nw := by omega
      go_wp2
      all_goals
        go_ret
        refine ⟨_, rfl, fun e => hF.refuse hW ?_, hS⟩
        first | exact .inl e | exact .inr (.inl ‹_›) | exact .inr (.inr ⟨‹_›, ‹_›⟩)

def Good (w : World) (e : Ending) (w' : World) : Prop := e = .returned (.bool true) ∧ Below w.heap.size w w'

/-- What the last loop reads, and what has been kept. -/
structure Hold (w0 wy : World) (a5 a6 : Option Addr) (g5 g6 m c : Nat) (W : Nat → Nat) : Prop where
  below : Below w0.heap.size w0 wy
  one : Out wy a5 g5 0 m (fun _ => 0) c W
  two : Out wy a6 g6 0 m (fun _ => 0) c W

theorem Hold.still {w0 wy wz : World} {a5 a6 : Option Addr} {g5 g6 m c : Nat} {W : Nat → Nat} (h : Hold w0 wy a5 a6 g5 g6 m c W) (k : Still wy wz) : Hold w0 wz a5 a6 g5 g6 m c W :=
  ⟨h.below.trans (k.below _), h.one.still k, h.two.still k⟩

theorem wts_no {n : Int} {nw : Nat} {W : Nat → Nat} (h : usableB n nw W = false) : wts n nw W = fun _ => eqW n := by unfold wts; rw [h]; rfl
theorem wts_eq (n : Int) (nw : Nat) : wts n nw (fun _ => eqW n) = fun _ => eqW n := by unfold wts; split <;> rfl

set_option maxRecDepth 100000 in
set_option maxHeartbeats 4000000 in
theorem core (a2 : Option Addr) (b2 off2 nw cap2 : Nat) (n : Int) (c : Nat) (W : Nat → Nat) (w : World) (h2 : Flts w a2 b2 off2 nw cap2 W) (hl2 : nw ≤ maxLen) (hn1 : -9223372036854775808 ≤ n) (hn2 : n ≤ 9223372036854775807) (hW : ∀ i, i < nw → W i < 18446744073709551616) :
    Calls Try.prog 5 #[.int .i64 n, .float .f64 c, .slice a2 nw cap2] w fun e w' => Good w e w' := by
  have C10 := bytes19 a2 nw cap2 n c w hl2
  unfold maxLen at hl2
  go_enter Try.func5, Try.ntmps5
  go_wp2_with fail
  refine C10.mono ?_
  rintro e w' ⟨r, rfl, hw⟩
  subst hw
  clear C10
  cases r
  · go_wp2
    go_ret
    exact ⟨rfl, Below.refl _ _⟩
  by_cases hk4 : nw ≤ 65536
  rotate_left
  · have h5 : decide ((65536 : Int) < (nw : Int)) = true := decide_eq_true (by omega)
    go_wp2
    go_ret
    exact ⟨rfl, Below.refl _ _⟩
  have h5 : decide ((65536 : Int) < (nw : Int)) = false := decide_eq_false (by omega)
  by_cases hn4 : n ≤ 65536
  rotate_left
  · have h6 : decide ((65536 : Int) < n) = true := decide_eq_true (by omega)
    go_wp2
    go_ret
    exact ⟨rfl, Below.refl _ _⟩
  have h6 : decide ((65536 : Int) < n) = false := decide_eq_false (by omega)
  go_wp2_with fail
  refine (bucketBytes11 _ _ _ _).mono ?_
  rintro e w1 ⟨r1, rfl, hw⟩
  subst hw
  go_wp2_with fail
  · go_ret
    exact ⟨rfl, Below.refl _ _⟩
  clear h5 h6
  refine (refused20 n a2 b2 off2 nw cap2 W _ hk4 h2 hW).mono ?_
  rintro e w2 ⟨r2, rfl, hr2, hS2⟩
  cases r2
  · clear hr2
    go_wp2
    go_ret
    exact ⟨rfl, hS2.below _⟩
  have HU : Hid (wts n nw W = fun _ => eqW n) := wts_no (hr2 rfl)
  clear hr2
  have h22 : Flts w2 a2 b2 off2 nw cap2 W := ⟨h2.at', h2.nil, fun i hi => (hS2.cell _).trans (h2.cell i hi)⟩
  go_wp2_with fail
  refine (clone13_any a2 b2 off2 nw cap2 W _ hk4 h22).mono ?_
  rintro e w3 ⟨aW, rfl, oW, hBW⟩
  have HB : Hid (Below w1.heap.size w1 w3) := (hS2.below _).trans (hS2.size ▸ hBW)
  have hsz : w1.heap.size ≤ w3.heap.size := HB.out.size
  clear h2 h22 hBW hS2 hW
  go_wp2_with fail
  refine (nonNeg16 n _).mono ?_
  rintro e w4 ⟨rfl, hw⟩
  subst hw
  by_cases hpos : 0 < n
  · obtain ⟨m, rfl⟩ : ∃ m : Nat, n = (m : Int) := ⟨n.toNat, by omega⟩
    simp only [Int.toNat_natCast]
    have hmp : (0 : Int) < (m : Int) := by omega
    obtain ⟨q, hq⟩ := one_quo (floatOfInt_nan (m : Int))
    have HQ : Hid (eqW (m : Int) = q) := by show _ = _; simp [eqW, fo, hq]
    have hdiv := fun w => run_float_arith (P := Try.prog) w .quo 23 .f64 _ _ q hq
    have hmk := run_make_row' (P := Try.prog) 24 23 (.float .f64 0) 8 Try.underlying24 Try.info23 rfl .i64 .i64 m (by omega) (by omega)
    clear hq
    go_wp2
    clear hmk
    have HB' : Hid (Below w1.heap.size w1 (w4.alloc (.cells (madeCells #[.float .f64 0] m) 23))) := HB.out.alloc hsz _
    go_loopg [9] m (fun g i wr => ∃ k : Nat, k ≤ m ∧ g = m - k ∧ i = .int .i64 k ∧ Below w4.heap.size w4 wr ∧ wr.rowIs w4.heap.size 23 m (fl (fun _ => .float .f64 q) (fun _ => .float .f64 0) k))
    case atStart => exact ⟨0, Nat.zero_le _, rfl, rfl, (Below.refl _ _).alloc (Nat.le_refl _) _, by rw [fl_zero]; exact World.rowIs_made w4 _ m 23⟩
    case round =>
      obtain ⟨k, hk, rfl, rfl, hB, hR⟩ := hrel
      by_cases hlt : k < m
      · have hlz : (k : Int) < (m : Int) := by omega
        have g1 : wr.cell? ⟨w4.heap.size, k, none⟩ = some (.float .f64 0) := fl_cell hR hlt (Nat.le_refl _)
        have g2 : wr.frozen? ⟨w4.heap.size, k, none⟩ = false := hR.frozen k
        have RR : Below w4.heap.size w4 (wr.setCell ⟨w4.heap.size, k, none⟩ (.float .f64 q)) ∧ (wr.setCell ⟨w4.heap.size, k, none⟩ (.float .f64 q)).rowIs w4.heap.size 23 m (fl (fun _ => .float .f64 q) (fun _ => .float .f64 0) (k + 1)) :=
          ⟨hB.setCell (Nat.le_refl _) _, fl_step hR rfl⟩
        clear hB hR
        go_wp2
        go_roundg (m - (k + 1))
        case measure => go_light; omega
        case rel => go_light; exact ⟨k + 1, by omega, rfl, by simp, RR.1, RR.2⟩
      · have hlz : ¬ (k : Int) < (m : Int) := by omega
        have oW5 := oW.below hB (fun h => (oW.row h).lt)
        have oE : OwnF wr (some ⟨w4.heap.size, 0, none⟩) w4.heap.size m (fun _ => q) := ⟨fun _ => rfl, fun _ => fl_all hR (by omega)⟩
        have HB2 : Hid (Below w1.heap.size w1 wr) := HB.out.trans (hB.mono hsz)
        have hsz2 : w1.heap.size ≤ wr.heap.size := HB2.out.size
        clear hdiv HB HB' hR hB
        go_wp2_with fail
        refine (ranges14_nil (m : Int) c aW _ nw nw W _ hn4 hk4 oW5).mono ?_
        rintro e w6 ⟨a6, g6, cap6, rfl, o6, hB6⟩
        have oE6 := oE.below hB6 (fun h => (oE.row h).lt)
        have s6 := hB6.size
        simp only [Int.toNat_natCast] at o6 ⊢
        go_wp2_with fail
        refine (ranges14_nil (m : Int) c _ _ m m _ _ hn4 (by omega) oE6).mono ?_
        rintro e w7 ⟨a7, g7, cap7, rfl, o7, hB7⟩
        simp only [Int.toNat_natCast] at o7 ⊢
        have H0 : Hold w1 w7 a6 a7 g6 g7 m (clampC c) (fun _ => q) := by
          refine ⟨(HB2.out.trans (hB6.mono hsz2)).trans (hB7.mono (by omega)), ?_, ?_⟩
          · have := o6.below hB7 (Nat.le_refl _)
            rw [HU.out, HQ.out] at this
            exact this
          · have e : wts (m : Int) m (fun _ => q) = fun _ => q := by have := wts_eq (m : Int) m; rw [HQ.out] at this; exact this
            rw [e] at o7
            exact o7
        clear oW oW5 oE oE6 o6 o7 hB6 hB7 HB2 HU HQ
        generalize clampC c = cl at H0
        go_wp2
        go_loopg [12] m (fun gk i wy => ∃ k : Nat, k ≤ m ∧ gk = m - k ∧ i = .int .i64 k ∧ Hold w1 wy a6 a7 g6 g7 m cl (fun _ => q))
        case atStart => exact ⟨0, Nat.zero_le _, rfl, rfl, H0⟩
        case round =>
          clear H0
          obtain ⟨k, hk, rfl, rfl, H⟩ := hrel
          by_cases hlt : k < m
          · have hlz : (k : Int) < (m : Int) := by omega
            obtain ⟨s1, e1, q0, q1, y0, y1⟩ := H.one.new k hlt
            obtain ⟨s2, e2, p0, p1, z0, z1⟩ := H.two.new k hlt
            rw [Nat.zero_add] at p0 p1 q0 q1
            have E0 := y0.trans z0.symm
            have E1 := y1.trans z1.symm
            obtain rfl := H.one.at' (by omega)
            obtain rfl := H.two.at' (by omega)
            clear y0 y1 z0 z1
            go_wp2
            go_quiet ((first | (go_at_call_of 17 (Value.float .f64 s1); exact Calls.quiet_of_same (same17 _ _ E0 _)) | (go_at_call_of 17 (Value.float .f64 e1); exact Calls.quiet_of_same (same17 _ _ E1 _))))
            go_wp2
            go_roundg (m - (k + 1))
            case measure => go_light; omega
            case rel => go_light; exact ⟨k + 1, by omega, rfl, by go_num, H.still ((Still.refl _).drewN _)⟩
          · have hlz : ¬ (k : Int) < (m : Int) := by omega
            go_wp2
            go_ret
            exact ⟨rfl, H.below⟩
  · have hz : n.toNat = 0 := by omega
    rw [hz]
    go_wp2_with fail
    refine (ranges14_nil n c aW _ nw nw W _ hn4 hk4 oW).mono ?_
    rintro e w6 ⟨a6, g6, cap6, rfl, o6, hB6⟩
    have s6 := hB6.size
    rw [hz]
    go_wp2_with fail
    refine (ranges14_nil n c none 0 0 0 (fun _ => 0) _ hn4 (by omega) ⟨fun h => absurd h (Nat.lt_irrefl _), fun h => absurd h (Nat.lt_irrefl _)⟩).mono ?_
    rintro e w7 ⟨a7, g7, cap7, rfl, o7, hB7⟩
    rw [hz]
    have HF : Hid (Below w1.heap.size w1 w7) := (HB.out.trans (hB6.mono hsz)).trans (hB7.mono (by omega))
    clear oW o6 o7 hB6 hB7 HB HU
    go_wp2
    refine wp_loop_rounds 1 ?_
    rw [rounds_succ]
    go_wp2
    go_ret
    exact ⟨rfl, HF.out⟩
end Go.Proofs.Qxb6603048a.fnBucketFallback
