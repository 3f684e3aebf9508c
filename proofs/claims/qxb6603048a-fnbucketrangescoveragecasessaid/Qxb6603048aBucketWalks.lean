/-
  THE WALKS of appendEqualWeights (37), appendBucketRanges (33) and its shim (14).
-/
import Derived.Test.Qxb6603048aBucketParts
import Derived.Test.Qxb6603048aFloatWords
namespace Go.Proofs.Qxb6603048a
open Go.RowKit
attribute [local go_sem] run_store_float

/-- 37: appendEqualWeights onto the buffer. 'hq': the quotient is a number. -/
theorem equal37 (w0 w : World) (bb q : Nat) (n : Int) (hn : n ≤ 65536) (hq : 0 < n → floatBits .quo .f64 4607182418800017408 (floatOfInt .f64 n) = some q) (hW : Wts w0 bb q w (.slice (some ⟨bb, 0, none⟩) 0 8) 0) :
    Calls Try.prog 37 #[.slice (some ⟨bb, 0, none⟩) 0 8, .int .i64 n] w fun e w' => ∃ v, e = .returned v ∧ Wts w0 bb q w' v n.toNat := by
  obtain ⟨i0, hi, hz0, hz1, hz2⟩ := info_parts Try.info23
  go_enter Try.func37, Try.ntmps37
  go_wp2
  go_loopg [0, 6] n.toNat (fun g v i wr => ∃ k : Nat, k ≤ n.toNat ∧ g = n.toNat - k ∧ i = .int .i64 k ∧ Wts w0 bb q wr v k)
  case atStart => exact ⟨0, Nat.zero_le _, rfl, rfl, hW⟩
  case round =>
    obtain ⟨k, hk, rfl, rfl, hWk⟩ := hrel
    by_cases hlt : k < n.toNat
    · have hlz : (k : Int) < n := by omega
      have hdiv := fun w => run_float_arith (P := Try.prog) w .quo 23 .f64 _ _ q (hq (by omega))
      clear hW hq
      go_wp2_with (at_builtin; refine wpList_append_wts _ rfl _ _ 24 rfl i0 Try.underlying24 hi hz0 hz1 hz2 rfl (hWk.alloc _) (by omega) ⟨wr.heap.size, 0, none⟩ 1 rfl (by simp) rfl ?_; intro v' w' hW')
      go_roundg (n.toNat - (k + 1))
      case measure => go_light; omega
      case rel => go_light; exact ⟨k + 1, by omega, rfl, by go_num, hW'⟩
    · have hlz : ¬ (k : Int) < n := by omega
      obtain rfl : k = n.toNat := by omega
      go_wp2
      go_ret
      exact ⟨_, rfl, hWk⟩

/-- What appendBucketRanges leaves. -/
def Post33 (base nd : Nat) (xs0 : List Value) (m c : Nat) (W : Nat → Nat) (w : World) (e : Ending) (w' : World) : Prop :=
  ∃ (v : Value) (R : List (Nat × Nat)), e = .returned v ∧ R.length = m ∧ RangesAre c W R ∧ w'.ownsRow base 35 2 v (nd + m) (xs0 ++ pcells R) ∧ Below base w w'

theorem still_own {w w' : World} {base : Nat} {e : TypeId} {size : Nat} {v : Value} {n : Nat} {xs : List Value} (h : w.ownsRow base e size v n xs) (s : Still w w') : w'.ownsRow base e size v n xs :=
  h.kept (row := none) ⟨s.os, s.tape, s.output, by rw [s.heap]; exact Nat.le_refl _, fun i _ _ => by rw [s.heap]⟩ (by cases v.ownBlock <;> simp)

theorem cells_new2 (w : World) (a b : Value) (t : TypeId) : ∀ j u, [a, b][j]? = some u → (w.alloc (.cells #[a, b] t)).cell? ((⟨w.heap.size, 0, none⟩ : Addr).add j) = some u := by
  intro j u hu
  have h := World.rowIs_alloc w #[a, b] t (fun i => [a, b].getD i a) (fun i hi => by
    match i, hi with
    | 0, _ => rfl
    | 1, _ => rfl)
  rw [WideShapes.add_plain, Nat.zero_add]
  have hj : j < 2 := by
    have := (List.getElem?_eq_some_iff.1 hu).1
    simpa using this
  rw [h.cell hj, List.getD_eq_getElem?_getD, hu]
  rfl

theorem ones2 (a b : Nat) : ∀ u ∈ [Value.float .f64 a, .float .f64 b], u.oneCell' = true := by
  intro u hu
  simp at hu
  rcases hu with rfl | rfl <;> rfl

/-- What one append does to what the loop carries. -/
theorem ranges_step {w wr w' : World} {base nd k m g nw : Nat} {a : Option Addr} {W : Nat → Nat} {xs0 : List Value} {R : List (Nat × Nat)} {v v' : Value} {sb e : Nat} (o : Obj) (hbase : base ≤ w.heap.size)
    (hO : wr.ownsRow base 35 2 v (nd + k) (xs0 ++ pcells R)) (hB : Below base w wr) (hWr : WRow wr a g nw W)
    (hown' : w'.ownsRow base 35 2 v' (nd + k + 1) ((xs0 ++ pcells R) ++ [.float .f64 sb, .float .f64 e])) (hgrow : ((wr.drewN m).alloc o).grownBy w' v.ownBlock) :
    w'.ownsRow base 35 2 v' (nd + (k + 1)) (xs0 ++ pcells (R ++ [(sb, e)])) ∧ Below base w w' ∧ WRow w' a g nw W := by
  have hsz := hB.size
  have hO2 : ((wr.drewN m).alloc o).ownsRow base 35 2 v (nd + k) (xs0 ++ pcells R) := (still_own hO ((Still.refl _).drewN m)).alloc o
  refine ⟨?_, ?_, ?_⟩
  · rw [pcells_append, ← List.append_assoc, ← Nat.add_assoc]; exact hown'
  · have h1 : Below base w ((wr.drewN m).alloc o) := (hB.trans (((Still.refl wr).drewN m).below base)).alloc (by show base ≤ wr.heap.size; omega) o
    exact h1.grown hgrow (by simp; omega) (fun k hk => (hO2.lt k hk).1)
  · exact ((hWr.still ((Still.refl _).drewN m)).alloc o).grown hO2 hgrow

set_option maxHeartbeats 1000000 in
/-- 33: appendBucketRanges -/
theorem ranges33 (base nd cD : Nat) (aD : Option Addr) (xs0 : List Value) (n : Int) (c : Nat) (a : Option Addr) (b nw cw : Nat) (W : Nat → Nat) (w : World) (hnd : nd ≤ 65536) (hn : n ≤ 65536) (hl : nw ≤ 65536)
    (hown : w.ownsRow base 35 2 (.slice aD nd cD) nd xs0) (hbase : base ≤ w.heap.size) (h1 : OwnF w a b nw W) :
    Calls Try.prog 33 #[.slice aD nd cD, .int .i64 n, .float .f64 c, .slice a nw cw] w fun e w' => Post33 base nd xs0 n.toNat (clampC c) (wts n nw W) w e w' := by
  have C36 := usable36 n a b nw cw W
  have hmax := run_float_max (P := Try.prog)
  have hmin := run_float_min (P := Try.prog)
  obtain ⟨i0, hi, hz0, hz1, hz2⟩ := info_parts Try.info35
  have HC : ∀ w w', Hid (Eqv (fmin (fmax c 0 w) 4607182418800017408 w') (clampC c)) := clamp_eqv c
  cases hu : usableB n nw W with
  | true =>
    rw [hu] at C36
    have hnn : (nw : Int) = n := by
      have := hu
      simp [usableB] at this
      exact this.1
    have HW : Hid (wts n nw W = W) := by show _ = _; simp [wts, hu]
    have HN : Hid (n.toNat = nw) := by show _ = _; omega
    clear hu hnn
    go_enter Try.func33, Try.ntmps33
    go_wp2_with fail
    refine (C36 _ hl ?_).mono ?_
    · exact ⟨h1.at', fun h => ((Still.refl w).drewN _).rowIs (h1.row h)⟩
    rintro e w1 ⟨rfl, hS⟩
    have hS' : Still w w1 := ((Still.refl w).drewN _).trans hS
    have hc' := HC w (w.drewN (odr c 0))
    clear hS HC C36 hmax hmin
    generalize fmin (fmax c 0 w) 4607182418800017408 (w.drewN (odr c 0)) = c' at hc' ⊢
    have H0 := still_own hown hS'
    have W0 := (WRow.of_own h1).still hS'
    have B0 := hS'.below base
    have hadd := run_float_add (P := Try.prog) 23
    have hmul := run_float_mul (P := Try.prog) 23
    go_wp2
    go_loopg [0, 10, 25] nw (fun gk v s i wr => ∃ (k sb : Nat) (R : List (Nat × Nat)), k ≤ nw ∧ gk = nw - k ∧ i = .int .i64 k ∧ s = .float .f64 sb ∧ R.length = k ∧ RangesAre (clampC c) W R ∧ Eqv sb (sumC W k) ∧ wr.ownsRow base 35 2 v (nd + k) (xs0 ++ pcells R) ∧ Below base w wr ∧ WRow wr a b nw W)
    case atStart => exact ⟨0, 0, [], Nat.zero_le _, rfl, rfl, rfl, rfl, RangesAre.nil _ _, Eqv.refl _, by simpa [pcells] using H0, B0, W0⟩
    case round =>
      obtain ⟨k, sb, R, hk, rfl, rfl, rfl, hRl, hRa, hE, hO, hB, hWr⟩ := hrel
      clear H0 B0 W0 hown h1
      by_cases hlt : k < nw
      · have hlz : (k : Int) < ((nw : Nat) : Int) := by omega
        have g0 := hWr.cell hlt
        obtain ⟨rfl, hdrop⟩ := hWr (by omega)
        clear hdrop
        have HR : Hid (R.length = k) := hRl
        have hBs := hB.size
        clear hRl
        go_wp2_with (at_builtin; refine wpList_append_own _ rfl _ _ 29 rfl base 35 i0 _ 2 16 Try.underlying29 hi hz0 hz1 hz2 rfl (by decide) _ _ _ rfl ((still_own hO ((Still.refl _).drewN _)).alloc _) ⟨wr.heap.size, 0, none⟩ 1 1 [.float .f64 sb, _] rfl rfl (by exact cells_new2 (wr.drewN _) _ _ _) (by exact ones2 _ _) (by unfold maxLen; omega) (by omega) (by simp; omega) ?_; intro v' w' hown' hgrow _; obtain ⟨r1, r2, r3⟩ := ranges_step _ hbase hO hB hWr hown' hgrow; clear hown' hgrow hO hB hWr)
        go_roundg (nw - (k + 1))
        case measure => go_light; omega
        case rel =>
          go_light
          exact ⟨k + 1, _, _, by omega, rfl, by go_num, rfl, by rw [List.length_append, HR.out]; rfl, hRa.snoc (by rw [HR.out]; exact hE) (by rw [HR.out]; exact fres_eqv .add hE (fres_eqv .mul hc'.out (Eqv.refl _) _) _), fres_eqv .add hE (Eqv.refl _) _,
            still_own r1 ((Still.refl _).drewN _), r2.trans (((Still.refl _).drewN _).below _), r3.still ((Still.refl _).drewN _)⟩
      · have hlz : ¬ (k : Int) < ((nw : Nat) : Int) := by omega
        obtain rfl : k = nw := by omega
        go_wp2
        go_ret
        exact ⟨_, R, rfl, by rw [hRl, HN.out], by rw [HW.out]; exact hRa, by rw [HN.out]; exact hO, hB⟩
  | false =>
    rw [hu] at C36
    obtain ⟨q, hq⟩ := one_quo (floatOfInt_nan n)
    have HW : Hid (wts n nw W = fun _ => q) := by show _ = _; simp [wts, hu, eqW, fo, hq]
    clear hu
    go_enter Try.func33, Try.ntmps33
    go_wp2_with fail
    refine (C36 _ hl ?_).mono ?_
    · exact ⟨h1.at', fun h => ((Still.refl w).drewN _).rowIs (h1.row h)⟩
    rintro e w1 ⟨rfl, hS⟩
    have hS' : Still w w1 := ((Still.refl w).drewN _).trans hS
    have hc' := HC w (w.drewN (odr c 0))
    clear hS HC C36 hmax hmin
    generalize fmin (fmax c 0 w) 4607182418800017408 (w.drewN (odr c 0)) = c' at hc' ⊢
    go_wp2_with fail
    refine (equal37 w1 _ w1.heap.size q n hn (fun _ => hq) (wts_start w1 q)).mono ?_
    rintro e w2 ⟨v2, rfl, hW2⟩
    have hsz := hS'.size
    have H0 : w2.ownsRow base 35 2 (.slice aD nd cD) nd xs0 := (still_own hown hS').kept (row := none) ⟨hW2.below.os, hW2.below.tape, hW2.below.output, hW2.below.size, fun i hi _ => hW2.below.block i hi⟩ (by cases Value.ownBlock (.slice aD nd cD) <;> simp)
    have B0 : Below base w w2 := (hS'.below base).trans (hW2.below.mono (by omega))
    obtain ⟨aw, g, cw', rfl, W0⟩ := hW2.row
    clear hW2 hq
    have hmz : ((n.toNat : Nat) : Int) ≤ 65536 := by omega
    generalize hgm : n.toNat = m at W0 hmz ⊢
    have HN : Hid (n.toNat = m) := hgm
    clear hgm
    have hadd := run_float_add (P := Try.prog) 23
    have hmul := run_float_mul (P := Try.prog) 23
    go_wp2
    go_loopg [0, 10, 25] m (fun gk v s i wr => ∃ (k sb : Nat) (R : List (Nat × Nat)), k ≤ m ∧ gk = m - k ∧ i = .int .i64 k ∧ s = .float .f64 sb ∧ R.length = k ∧ RangesAre (clampC c) (fun _ => q) R ∧ Eqv sb (sumC (fun _ => q) k) ∧ wr.ownsRow base 35 2 v (nd + k) (xs0 ++ pcells R) ∧ Below base w wr ∧ WRow wr aw g m (fun _ => q))
    case atStart => exact ⟨0, 0, [], Nat.zero_le _, rfl, rfl, rfl, rfl, RangesAre.nil _ _, Eqv.refl _, by simpa [pcells] using H0, B0, W0⟩
    case round =>
      obtain ⟨k, sb, R, hk, rfl, rfl, rfl, hRl, hRa, hE, hO, hB, hWr⟩ := hrel
      clear H0 B0 W0 hown h1
      by_cases hlt : k < m
      · have hlz : (k : Int) < ((m : Nat) : Int) := by omega
        have g0 := hWr.cell hlt
        obtain ⟨rfl, hdrop⟩ := hWr (by omega)
        clear hdrop
        have HR : Hid (R.length = k) := hRl
        have hBs := hB.size
        clear hRl
        go_wp2_with (at_builtin; refine wpList_append_own _ rfl _ _ 29 rfl base 35 i0 _ 2 16 Try.underlying29 hi hz0 hz1 hz2 rfl (by decide) _ _ _ rfl ((still_own hO ((Still.refl _).drewN _)).alloc _) ⟨wr.heap.size, 0, none⟩ 1 1 [.float .f64 sb, _] rfl rfl (by exact cells_new2 (wr.drewN _) _ _ _) (by exact ones2 _ _) (by unfold maxLen; omega) (by omega) (by simp; omega) ?_; intro v' w' hown' hgrow _; obtain ⟨r1, r2, r3⟩ := ranges_step _ hbase hO hB hWr hown' hgrow; clear hown' hgrow hO hB hWr)
        go_roundg (m - (k + 1))
        case measure => go_light; omega
        case rel =>
          go_light
          exact ⟨k + 1, _, _, by omega, rfl, by go_num, rfl, by rw [List.length_append, HR.out]; rfl, hRa.snoc (by rw [HR.out]; exact hE) (by rw [HR.out]; exact fres_eqv .add hE (fres_eqv .mul hc'.out (Eqv.refl _) _) _), fres_eqv .add hE (Eqv.refl _) _,
            still_own r1 ((Still.refl _).drewN _), r2.trans (((Still.refl _).drewN _).below _), r3.still ((Still.refl _).drewN _)⟩
      · have hlz : ¬ (k : Int) < ((m : Nat) : Int) := by omega
        obtain rfl : k = m := by omega
        go_wp2
        go_ret
        exact ⟨_, R, rfl, by rw [hRl, HN.out], by rw [HW.out]; exact hRa, by rw [HN.out]; exact hO, hB⟩

/-- 14: the shim -/
theorem ranges14 (base nd cD : Nat) (aD : Option Addr) (xs0 : List Value) (n : Int) (c : Nat) (a : Option Addr) (b nw cw : Nat) (W : Nat → Nat) (w : World) (hnd : nd ≤ 65536) (hn : n ≤ 65536) (hl : nw ≤ 65536)
    (hown : w.ownsRow base 35 2 (.slice aD nd cD) nd xs0) (hbase : base ≤ w.heap.size) (h1 : OwnF w a b nw W) :
    Calls Try.prog 14 #[.slice aD nd cD, .int .i64 n, .float .f64 c, .slice a nw cw] w fun e w' => Post33 base nd xs0 n.toNat (clampC c) (wts n nw W) w e w' := by
  have H := ranges33 base nd cD aD xs0 n c a b nw cw W w hnd hn hl hown hbase h1
  clear hown h1
  go_enter Try.func14, Try.ntmps14
  go_wp2_with fail
  refine H.mono ?_
  rintro e w' ⟨v, R, rfl, hP⟩
  go_wp2
  go_ret
  exact ⟨v, R, rfl, hP⟩
end Go.Proofs.Qxb6603048a
