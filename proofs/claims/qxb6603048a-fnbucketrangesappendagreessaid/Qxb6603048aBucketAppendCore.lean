/-
  THE WALK of FnBucketRangesAppendAgrees (3) out of the contracts of its callees.
-/
import Derived.Test.Qxb6603048aBucketOut
import Derived.Deep.RegionWith
set_option linter.unusedVariables false
namespace Go.Proofs.Qxb6603048a.fnBucketAppend
open Go.RowKit
attribute [local go_sem] run_store_float

def Good (w : World) (e : Ending) (w' : World) : Prop := e = .returned (.bool true) ∧ Below w.heap.size w w'

/-- What the two last loops read, and what has been kept. -/
structure Hold (w0 wy : World) (a1 a5 a6 : Option Addr) (b1 g5 g6 nd m c : Nat) (D W : Nat → Nat) : Prop where
  below : Below w0.heap.size w0 wy
  dst : Prs wy a1 b1 0 nd nd D
  out : Out wy a5 g5 nd m D c W
  fresh : Out wy a6 g6 0 m (fun _ => 0) c W

theorem Hold.step {w0 wy wz : World} {a1 a5 a6 : Option Addr} {b1 g5 g6 nd m c : Nat} {D W : Nat → Nat} (h : Hold w0 wy a1 a5 a6 b1 g5 g6 nd m c D W) (k : Below wy.heap.size wy wz) : Hold w0 wz a1 a5 a6 b1 g5 g6 nd m c D W :=
  ⟨h.below.trans (k.mono h.below.size), h.dst.below k h.dst.lt, h.out.below k (Nat.le_refl _), h.fresh.below k (Nat.le_refl _)⟩

theorem Hold.dstAt {w0 wy : World} {a1 a5 a6 : Option Addr} {b1 g5 g6 nd m c : Nat} {D W : Nat → Nat} (h : Hold w0 wy a1 a5 a6 b1 g5 g6 nd m c D W) {k : Nat} (hk : k < nd) :
    wy.cell? ⟨b1, k * 2, none⟩ = some (.float .f64 (D (k * 2))) ∧ wy.cell? ⟨b1, k * 2 + 1, none⟩ = some (.float .f64 (D (k * 2 + 1))) := by
  have e0 := h.dst.cell (k * 2) (by omega)
  have e1 := h.dst.cell (k * 2 + 1) (by omega)
  rw [Nat.zero_add] at e0 e1
  exact ⟨e0, e1⟩

set_option maxRecDepth 100000 in
set_option maxHeartbeats 4000000 in
theorem core (a a2 : Option Addr) (b off nd cap b2 off2 nw cap2 : Nat) (n : Int) (c : Nat) (D W : Nat → Nat) (w : World) (h1 : Prs w a b off nd cap D) (h2 : Flts w a2 b2 off2 nw cap2 W) (hl : nd ≤ maxLen) (hl2 : nw ≤ maxLen) (hn1 : -9223372036854775808 ≤ n) (hn2 : n ≤ 9223372036854775807) :
    Calls Try.prog 3 #[.slice a nd cap, .int .i64 n, .float .f64 c, .slice a2 nw cap2] w fun e w' => Good w e w' := by
  have C10 := bytes10 a a2 nd cap nw cap2 n c w hl hl2
  unfold maxLen at hl hl2
  go_enter Try.func3, Try.ntmps3
  go_wp2_with fail
  refine C10.mono ?_
  rintro e w' ⟨r, rfl, hw⟩
  subst hw
  clear C10
  cases r
  · go_wp2
    go_ret
    exact ⟨rfl, Below.refl _ _⟩
  by_cases hs4 : nd ≤ 65536
  rotate_left
  · have h4 : decide ((65536 : Int) < (nd : Int)) = true := decide_eq_true (by omega)
    go_wp2
    go_ret
    exact ⟨rfl, Below.refl _ _⟩
  have h4 : decide ((65536 : Int) < (nd : Int)) = false := decide_eq_false (by omega)
  by_cases hk4 : nw ≤ 65536
  rotate_left
  · have h5 : decide ((65536 : Int) < (nw : Int)) = true := decide_eq_true (by omega)
    go_wp2
    go_ret
    exact ⟨rfl, Below.refl _ _⟩
  have h5 : decide ((65536 : Int) < (nw : Int)) = false := decide_eq_false (by omega)
  by_cases hn4 : n ≤ 65536
  rotate_left
  · have h6 : decide ((65536 : Int) < n) = true := decide_eq_true (by omega)
    go_wp2
    go_ret
    exact ⟨rfl, Below.refl _ _⟩
  have h6 : decide ((65536 : Int) < n) = false := decide_eq_false (by omega)
  go_wp2_with fail
  refine (bucketBytes11 _ _ _ _).mono ?_
  rintro e w1 ⟨r1, rfl, hw⟩
  subst hw
  go_wp2_with fail
  · go_ret
    exact ⟨rfl, Below.refl _ _⟩
  clear h4 h5 h6
  refine (clone12_any a b off nd cap D _ h1 hs4).mono ?_
  rintro e w2 ⟨a1, rfl, hz0, hz1, hB1⟩
  have d1 := Cloned2.prs a.isNone hz0 hz1
  have h22 := h2.below hB1 (Nat.le_refl _)
  go_wp2_with fail
  refine (clone13_any a2 b2 off2 nw cap2 W _ hk4 h22).mono ?_
  rintro e w3 ⟨aW, rfl, oW, hBW⟩
  have d13 := d1.below hBW (fun h => d1.lt h)
  go_wp2_with fail
  refine (ranges15_any a1 _ 0 nd nd D _ d13 hs4).mono ?_
  rintro e w4 ⟨aR, rfl, hy0, hy1, hBR⟩
  have s1 := hB1.size
  have sW := hBW.size
  have sR := hBR.size
  have d14 := d13.below hBR (fun h => by have := d13.lt h; omega)
  have oW4 := oW.below hBR (fun h => (oW.row h).lt)
  have oR := Cloned2.own (base := w3.heap.size) a1.isNone hs4 (Nat.le_refl _) hy0 hy1
  go_wp2_with fail
  refine (ranges14 w3.heap.size nd nd aR _ n c aW _ nw nw W _ hs4 hn4 hk4 oR sR oW4).mono ?_
  rintro e w5 ⟨v, R, rfl, hR, hA, hO, hB5⟩
  obtain ⟨a5, g5, cap5, rfl, o5⟩ := out_of hR hA hO
  have oW5 := oW4.below hB5 (fun h => (oW.row h).lt)
  have d15 := d14.below hB5 (fun h => by have := d1.lt h; omega)
  have s5 := hB5.size
  go_wp2_with fail
  refine (ranges14_nil n c aW _ nw nw W _ hn4 hk4 oW5).mono ?_
  rintro e w6 ⟨a6, g6, cap6, rfl, o6, hB6⟩
  have o56 := o5.below hB6 (Nat.le_refl _)
  have d16 := d15.below hB6 (fun h => d15.lt h)
  have HB : Hid (Below w1.heap.size w1 w6) := ((((hB1.trans (hBW.mono s1)).trans (hBR.mono (by omega))).trans (hB5.mono (by omega))).trans (hB6.mono (by omega)))
  go_wp2_with fail
  refine (nonNeg16 n _).mono ?_
  rintro e w7 ⟨rfl, hw⟩
  subst hw
  have hm : n.toNat ≤ 65536 := by omega
  clear hz0 hz1 hB1 d1 h22 oW hBW d13 hy0 hy1 hBR s1 sW sR d14 oW4 oR hR hA hO hB5 o5 oW5 d15 s5 hB6 h1 h2
  have H0 : Hold w1 w7 a1 a5 a6 _ g5 g6 nd n.toNat (clampC c) D (wts n nw W) := ⟨HB.out, d16, o56, o6⟩
  clear o56 o6 d16 HB
  generalize n.toNat = m at *
  generalize clampC c = cl at H0
  generalize wts n nw W = Wt at H0
  go_wp2
  go_loopg [12] nd (fun gk i wy => ∃ k : Nat, k ≤ nd ∧ gk = nd - k ∧ i = .int .i64 k ∧ Hold w1 wy a1 a5 a6 w1.heap.size g5 g6 nd m cl D Wt)
  case atStart => exact ⟨0, Nat.zero_le _, rfl, rfl, H0⟩
  case round =>
    clear H0
    obtain ⟨k, hk, rfl, rfl, H⟩ := hrel
    by_cases hlt : k < nd
    · have hlz : (k : Int) < (nd : Int) := by omega
      have hlz2 : (k : Int) < (nd : Int) + (m : Int) := by omega
      obtain ⟨k0, k1⟩ := H.dstAt hlt
      obtain ⟨q0, q1⟩ := H.out.old k hlt
      obtain rfl := H.dst.at' (by omega)
      obtain rfl := H.out.at' (by omega)
      go_wp2
      go_quiet ((go_at_call 17; exact Calls.quiet_of_same (same17 _ _ (Eqv.refl _) _)))
      go_wp2
      go_roundg (nd - (k + 1))
      case measure => go_light; omega
      case rel => go_light; exact ⟨k + 1, by omega, rfl, by go_num, H.step (((Still.refl _).drewN _).below _)⟩
    · have hlz : ¬ (k : Int) < (nd : Int) := by omega
      go_wp2
      go_loopg [13] m (fun gk i wy => ∃ k : Nat, k ≤ m ∧ gk = m - k ∧ i = .int .i64 k ∧ Hold w1 wy a1 a5 a6 w1.heap.size g5 g6 nd m cl D Wt)
      case atStart => exact ⟨0, Nat.zero_le _, rfl, rfl, H⟩
      case round =>
        clear H
        obtain ⟨k, hk, rfl, rfl, H⟩ := hrel
        by_cases hlt : k < m
        · have hlz : (k : Int) < (m : Int) := by omega
          have hlz2 : (nd : Int) + (k : Int) < (nd : Int) + (m : Int) := by omega
          obtain ⟨s1, e1, q0, q1, y0, y1⟩ := H.out.new k hlt
          obtain ⟨s2, e2, p0, p1, z0, z1⟩ := H.fresh.new k hlt
          rw [Nat.zero_add] at p0 p1
          have E0 := y0.trans z0.symm
          have E1 := y1.trans z1.symm
          have l5 := H.out.lt (by omega)
          have l6 := H.fresh.lt (by omega)
          obtain rfl := H.out.at' (by omega)
          obtain rfl := H.fresh.at' (by omega)
          clear y0 y1 z0 z1
          go_wp2
          go_quiet ((first | (go_at_call_of 17 (Value.float .f64 s1); exact Calls.quiet_of_same (same17 _ _ E0 _)) | (go_at_call_of 17 (Value.float .f64 e1); exact Calls.quiet_of_same (same17 _ _ E1 _))))
          go_wp2
          go_roundg (m - (k + 1))
          case measure => go_light; omega
          case rel => go_light; exact ⟨k + 1, by omega, rfl, by go_num, (H.step ((Below.refl _ _).alloc (Nat.le_refl _) _)).step (((Still.refl _).drewN _).below _)⟩
        · have hlz : ¬ (k : Int) < (m : Int) := by omega
          go_wp2
          go_ret
          exact ⟨rfl, H.below⟩
end Go.Proofs.Qxb6603048a.fnBucketAppend
