/-
  THE WALKS of zzBytes (18) and FnBucketRangesCoverageCases (4).
-/
import Derived.Test.Qxb6603048aBucketOut
import Derived.Test.Qxb6603048aFloatCover
import Derived.Deep.RegionWith
set_option linter.unusedVariables false
namespace Go.Proofs.Qxb6603048a.fnBucketCoverage
open Go.RowKit
attribute [local go_sem] run_store_float

/-- 18: zzBytes -/
theorem bytes18 (a2 : Option Addr) (len2 cap2 : Nat) (n : Int) (c : Nat) (w : World) (hl2 : len2 ≤ maxLen) :
    Calls Try.prog 18 #[.int .i64 n, .float .f64 c, .slice a2 len2 cap2] w fun e w' => ∃ r : Bool, e = .returned (.bool r) ∧ w' = w := by
  unfold maxLen at hl2
  go_enter Try.func18, Try.ntmps18
  go_wp2
  all_goals
    go_ret
    simp

def Good (w : World) (e : Ending) (w' : World) : Prop := e = .returned (.bool true) ∧ Below w.heap.size w w'

/-- What the loop reads, and what has been kept: the ranges at the coverage, at 0, at 1. -/
structure Hold (w0 wy : World) (a5 a6 a7 : Option Addr) (g5 g6 g7 m c : Nat) (W : Nat → Nat) : Prop where
  below : Below w0.heap.size w0 wy
  cov : Out wy a5 g5 0 m (fun _ => 0) c W
  zero : Out wy a6 g6 0 m (fun _ => 0) 0 W
  one : Out wy a7 g7 0 m (fun _ => 0) 4607182418800017408 W

theorem Hold.still {w0 wy wz : World} {a5 a6 a7 : Option Addr} {g5 g6 g7 m c : Nat} {W : Nat → Nat} (h : Hold w0 wy a5 a6 a7 g5 g6 g7 m c W) (k : Still wy wz) : Hold w0 wz a5 a6 a7 g5 g6 g7 m c W :=
  ⟨h.below.trans (k.below _), h.cov.still k, h.zero.still k, h.one.still k⟩

set_option maxRecDepth 100000 in
set_option maxHeartbeats 8000000 in
theorem core (a2 : Option Addr) (b2 off2 nw cap2 : Nat) (n : Int) (c : Nat) (W : Nat → Nat) (w : World) (h2 : Flts w a2 b2 off2 nw cap2 W) (hl2 : nw ≤ maxLen) (hn1 : -9223372036854775808 ≤ n) (hn2 : n ≤ 9223372036854775807) (hW : ∀ i, i < nw → W i < 18446744073709551616) (hc0 : (Lit.float .f64 c).wf = true) :
    Calls Try.prog 4 #[.int .i64 n, .float .f64 c, .slice a2 nw cap2] w fun e w' => Good w e w' := by
  have hc : c < 18446744073709551616 := by simpa [Lit.wf] using hc0
  clear hc0
  have C10 := bytes18 a2 nw cap2 n c w hl2
  unfold maxLen at hl2
  go_enter Try.func4, Try.ntmps4
  go_wp2_with fail
  refine C10.mono ?_
  rintro e w' ⟨r, rfl, hw⟩
  subst hw
  clear C10
  cases r
  · go_wp2
    go_ret
    exact ⟨rfl, Below.refl _ _⟩
  by_cases hk4 : nw ≤ 65536
  rotate_left
  · have h5 : decide ((65536 : Int) < (nw : Int)) = true := decide_eq_true (by omega)
    go_wp2
    go_ret
    exact ⟨rfl, Below.refl _ _⟩
  have h5 : decide ((65536 : Int) < (nw : Int)) = false := decide_eq_false (by omega)
  by_cases hn4 : n ≤ 65536
  rotate_left
  · have h6 : decide ((65536 : Int) < n) = true := decide_eq_true (by omega)
    go_wp2
    go_ret
    exact ⟨rfl, Below.refl _ _⟩
  have h6 : decide ((65536 : Int) < n) = false := decide_eq_false (by omega)
  go_wp2_with fail
  refine (bucketBytes11 _ _ _ _).mono ?_
  rintro e w1 ⟨r1, rfl, hw⟩
  subst hw
  go_wp2_with fail
  · go_ret
    exact ⟨rfl, Below.refl _ _⟩
  clear h5 h6
  refine (clone13_any a2 b2 off2 nw cap2 W _ hk4 h2).mono ?_
  rintro e w3 ⟨aW, rfl, oW, hBW⟩
  have z3 := hBW.size
  go_wp2_with fail
  refine (ranges14_nil n c aW _ nw nw W _ hn4 hk4 oW).mono ?_
  rintro e w5 ⟨a5, g5, cap5, rfl, o5, hB5⟩
  have z5 := hB5.size
  have oW5 := oW.below hB5 (fun h => (oW.row h).lt)
  go_wp2_with fail
  refine (ranges14_nil n 0 aW _ nw nw W _ hn4 hk4 oW5).mono ?_
  rintro e w6 ⟨a6, g6, cap6, rfl, o6, hB6⟩
  have z6 := hB6.size
  have oW6 := oW5.below hB6 (fun h => (oW5.row h).lt)
  go_wp2_with fail
  refine (ranges14_nil n 4607182418800017408 aW _ nw nw W _ hn4 hk4 oW6).mono ?_
  rintro e w7 ⟨a7, g7, cap7, rfl, o7, hB7⟩
  have H0 : Hold w1 w7 a5 a6 a7 g5 g6 g7 n.toNat (clampC c) (wts n nw W) := by
    refine ⟨(((hBW.trans (hB5.mono z3)).trans (hB6.mono (by omega))).trans (hB7.mono (by omega))), (o5.below hB6 (Nat.le_refl _)).below hB7 (Nat.le_refl _), ?_, ?_⟩
    · have := o6.below hB7 (Nat.le_refl _)
      rw [clamp_zero] at this
      exact this
    · rw [clamp_one] at o7
      exact o7
  have HF : Hid (∀ i, i < n.toNat → finB (wts n nw W i) = true ∧ wts n nw W i < 18446744073709551616) := fun i hi => wts_fin hW hi
  have hm : n.toNat ≤ 65536 := by omega
  clear h2 oW hBW z3 o5 hB5 z5 oW5 o6 hB6 z6 oW6 o7 hB7 hW
  go_wp2_with fail
  refine (nonNeg16 n _).mono ?_
  rintro e w8 ⟨rfl, hw⟩
  subst hw
  generalize n.toNat = m at *
  generalize wts n nw W = Wt at *
  by_cases hmz : 0 < m
  · have hmp : (0 : Int) < (m : Int) := by omega
    obtain ⟨s7, e7, q0, q1, y0, y1⟩ := H0.one.new 0 hmz
    have E0 : Eqv s7 0 := y0
    obtain rfl := H0.one.at' (by omega)
    clear q1 y0 y1
    simp only [Nat.zero_add, Nat.zero_mul] at q0
    go_wp2_with (go_at_call 17; refine (same17 _ _ E0 _).mono ?_; rintro e w' ⟨rfl, rfl⟩)
    clear q0 E0
    go_loopg [12] m (fun gk i wy => ∃ k : Nat, k ≤ m ∧ gk = m - k ∧ i = .int .i64 k ∧ Hold w1 wy a5 a6 (some ⟨g7, 0, none⟩) g5 g6 g7 m (clampC c) Wt)
    case atStart => exact ⟨0, Nat.zero_le _, rfl, rfl, H0⟩
    case round =>
      clear H0
      obtain ⟨k, hk, rfl, rfl, H⟩ := hrel
      by_cases hlt : k < m
      · have hlz : (k : Int) < (m : Int) := by omega
        obtain ⟨s5, e5, c50, c51, ys5, ye5⟩ := H.cov.new k hlt
        obtain ⟨s6, e6, c60, c61, ys6, ye6⟩ := H.zero.new k hlt
        obtain ⟨s7, e7, c70, c71, ys7, ye7⟩ := H.one.new k hlt
        rw [Nat.zero_add] at c50 c51 c60 c61 c70 c71
        have E57 := ys5.trans ys7.symm
        have E67 := ys6.trans ys7.symm
        have E66 : Eqv e6 s6 := (by rw [end_zero HF.out hlt] at ye6; exact ye6 : Eqv e6 (sumC Wt k)).trans ys6.symm
        obtain rfl := H.cov.at' (by omega)
        obtain rfl := H.zero.at' (by omega)
        by_cases hk1 : k + 1 < m
        · have hd : (k : Int) + 1 < (m : Int) := by omega
          obtain ⟨s8, e8, c80, c81, ys8, ye8⟩ := H.one.new (k + 1) hk1
          rw [Nat.zero_add] at c80 c81
          have E78 : Eqv e7 s8 := (by rw [end_one HF.out hlt] at ye7; exact ye7 : Eqv e7 (sumC Wt (k + 1))).trans ys8.symm
          clear ys5 ys6 ys7 ys8 ye8 c81
          cases hn : nanB c with
          | true =>
            have o1 : (FloatKind.f64.format.order c c != some .eq) = true := by rw [order_nan (.inl hn)]; rfl
            have o2 : FloatKind.f64.format.order e5 e5 = none := order_nan (.inl (by rw [ye5.nan]; exact end_nan (clamp_nan hn) _ _))
            clear ye5 ye6 ye7
            go_wp2
            go_quiet ((first | (go_at_call_of 17 (Value.float .f64 s5); exact (same17 _ _ E57 _).mono (fun _ _ h => ⟨h.1, _, h.2⟩)) | (go_at_call_of 17 (Value.float .f64 s6); exact (same17 _ _ E67 _).mono (fun _ _ h => ⟨h.1, _, h.2⟩))))
            go_wp2
            go_quiet ((go_at_call_of 17 (Value.float .f64 e6); exact (same17 _ _ E66 _).mono (fun _ _ h => ⟨h.1, _, h.2⟩)))
            go_wp2
            go_quiet ((go_at_call_of 17 (Value.float .f64 e7); exact (same17 _ _ E78 _).mono (fun _ _ h => ⟨h.1, _, h.2⟩)))
            go_wp2
            go_quiet (fail)
            go_wp2
            go_roundg (m - (k + 1))
            case measure => go_light; omega
            case rel => go_light; exact ⟨k + 1, by omega, rfl, by go_num, by repeat (first | exact H | apply Hold.still _ (Still.drewN (Still.refl _) _))⟩
          | false =>
            have o1 : (FloatKind.f64.format.order c c != some .eq) = false := by rw [order_self hn]; rfl
            by_cases hge : FloatKind.f64.format.order c 4607182418800017408 = some .gt ∨ FloatKind.f64.format.order c 4607182418800017408 = some .eq
            · have o2 : (FloatKind.f64.format.order c 4607182418800017408 == some .gt || FloatKind.f64.format.order c 4607182418800017408 == some .eq) = true := by simpa using hge
              rw [clamp_high hc hge] at ye5
              have E57e := ye5.trans ye7.symm
              clear ye5 ye6 ye7 hge
              go_wp2
              go_quiet ((first | (go_at_call_of 17 (Value.float .f64 s5); exact (same17 _ _ E57 _).mono (fun _ _ h => ⟨h.1, _, h.2⟩)) | (go_at_call_of 17 (Value.float .f64 s6); exact (same17 _ _ E67 _).mono (fun _ _ h => ⟨h.1, _, h.2⟩))))
              go_wp2
              go_quiet ((go_at_call_of 17 (Value.float .f64 e6); exact (same17 _ _ E66 _).mono (fun _ _ h => ⟨h.1, _, h.2⟩)))
              go_wp2
              go_quiet ((go_at_call_of 17 (Value.float .f64 e7); exact (same17 _ _ E78 _).mono (fun _ _ h => ⟨h.1, _, h.2⟩)))
              go_wp2
              go_quiet ((go_at_call_of 17 (Value.float .f64 e5); exact (same17 _ _ E57e _).mono (fun _ _ h => ⟨h.1, _, h.2⟩)))
              go_wp2
              go_roundg (m - (k + 1))
              case measure => go_light; omega
              case rel => go_light; exact ⟨k + 1, by omega, rfl, by go_num, by repeat (first | exact H | apply Hold.still _ (Still.drewN (Still.refl _) _))⟩
            · have o2 : (FloatKind.f64.format.order c 4607182418800017408 == some .gt || FloatKind.f64.format.order c 4607182418800017408 == some .eq) = false := by simpa using hge
              clear hge
              by_cases hle : FloatKind.f64.format.order c 0 = some .lt ∨ FloatKind.f64.format.order c 0 = some .eq
              · have o3 : (FloatKind.f64.format.order c 0 == some .lt || FloatKind.f64.format.order c 0 == some .eq) = true := by simpa using hle
                rw [clamp_low hc hle] at ye5
                have E56e := ye5.trans ye6.symm
                clear ye5 ye6 ye7 hle
                go_wp2
                go_quiet ((first | (go_at_call_of 17 (Value.float .f64 s5); exact (same17 _ _ E57 _).mono (fun _ _ h => ⟨h.1, _, h.2⟩)) | (go_at_call_of 17 (Value.float .f64 s6); exact (same17 _ _ E67 _).mono (fun _ _ h => ⟨h.1, _, h.2⟩))))
                go_wp2
                go_quiet ((go_at_call_of 17 (Value.float .f64 e6); exact (same17 _ _ E66 _).mono (fun _ _ h => ⟨h.1, _, h.2⟩)))
                go_wp2
                go_quiet ((go_at_call_of 17 (Value.float .f64 e7); exact (same17 _ _ E78 _).mono (fun _ _ h => ⟨h.1, _, h.2⟩)))
                go_wp2
                go_quiet ((go_at_call_of 17 (Value.float .f64 e5); exact (same17 _ _ E56e _).mono (fun _ _ h => ⟨h.1, _, h.2⟩)))
                go_wp2
                go_roundg (m - (k + 1))
                case measure => go_light; omega
                case rel => go_light; exact ⟨k + 1, by omega, rfl, by go_num, by repeat (first | exact H | apply Hold.still _ (Still.drewN (Still.refl _) _))⟩
              · have o3 : (FloatKind.f64.format.order c 0 == some .lt || FloatKind.f64.format.order c 0 == some .eq) = false := by simpa using hle
                clear ye5 ye6 ye7 hle
                go_wp2
                go_quiet ((first | (go_at_call_of 17 (Value.float .f64 s5); exact (same17 _ _ E57 _).mono (fun _ _ h => ⟨h.1, _, h.2⟩)) | (go_at_call_of 17 (Value.float .f64 s6); exact (same17 _ _ E67 _).mono (fun _ _ h => ⟨h.1, _, h.2⟩))))
                go_wp2
                go_quiet ((go_at_call_of 17 (Value.float .f64 e6); exact (same17 _ _ E66 _).mono (fun _ _ h => ⟨h.1, _, h.2⟩)))
                go_wp2
                go_quiet ((go_at_call_of 17 (Value.float .f64 e7); exact (same17 _ _ E78 _).mono (fun _ _ h => ⟨h.1, _, h.2⟩)))
                go_wp2
                go_roundg (m - (k + 1))
                case measure => go_light; omega
                case rel => go_light; exact ⟨k + 1, by omega, rfl, by go_num, by repeat (first | exact H | apply Hold.still _ (Still.drewN (Still.refl _) _))⟩
        · have hd : decide ((k : Int) + 1 < (m : Int)) = false := decide_eq_false (by omega)
          clear ys5 ys6 ys7
          cases hn : nanB c with
          | true =>
            have o1 : (FloatKind.f64.format.order c c != some .eq) = true := by rw [order_nan (.inl hn)]; rfl
            have o2 : FloatKind.f64.format.order e5 e5 = none := order_nan (.inl (by rw [ye5.nan]; exact end_nan (clamp_nan hn) _ _))
            clear ye5 ye6 ye7
            go_wp2
            go_quiet ((first | (go_at_call_of 17 (Value.float .f64 s5); exact (same17 _ _ E57 _).mono (fun _ _ h => ⟨h.1, _, h.2⟩)) | (go_at_call_of 17 (Value.float .f64 s6); exact (same17 _ _ E67 _).mono (fun _ _ h => ⟨h.1, _, h.2⟩))))
            go_wp2
            go_quiet ((go_at_call_of 17 (Value.float .f64 e6); exact (same17 _ _ E66 _).mono (fun _ _ h => ⟨h.1, _, h.2⟩)))
            go_wp2
            go_quiet (fail)
            go_wp2
            go_quiet (fail)
            go_wp2
            go_roundg (m - (k + 1))
            case measure => go_light; omega
            case rel => go_light; exact ⟨k + 1, by omega, rfl, by go_num, by repeat (first | exact H | apply Hold.still _ (Still.drewN (Still.refl _) _))⟩
          | false =>
            have o1 : (FloatKind.f64.format.order c c != some .eq) = false := by rw [order_self hn]; rfl
            by_cases hge : FloatKind.f64.format.order c 4607182418800017408 = some .gt ∨ FloatKind.f64.format.order c 4607182418800017408 = some .eq
            · have o2 : (FloatKind.f64.format.order c 4607182418800017408 == some .gt || FloatKind.f64.format.order c 4607182418800017408 == some .eq) = true := by simpa using hge
              rw [clamp_high hc hge] at ye5
              have E57e := ye5.trans ye7.symm
              clear ye5 ye6 ye7 hge
              go_wp2
              go_quiet ((first | (go_at_call_of 17 (Value.float .f64 s5); exact (same17 _ _ E57 _).mono (fun _ _ h => ⟨h.1, _, h.2⟩)) | (go_at_call_of 17 (Value.float .f64 s6); exact (same17 _ _ E67 _).mono (fun _ _ h => ⟨h.1, _, h.2⟩))))
              go_wp2
              go_quiet ((go_at_call_of 17 (Value.float .f64 e6); exact (same17 _ _ E66 _).mono (fun _ _ h => ⟨h.1, _, h.2⟩)))
              go_wp2
              go_quiet (fail)
              go_wp2
              go_quiet ((go_at_call_of 17 (Value.float .f64 e5); exact (same17 _ _ E57e _).mono (fun _ _ h => ⟨h.1, _, h.2⟩)))
              go_wp2
              go_roundg (m - (k + 1))
              case measure => go_light; omega
              case rel => go_light; exact ⟨k + 1, by omega, rfl, by go_num, by repeat (first | exact H | apply Hold.still _ (Still.drewN (Still.refl _) _))⟩
            · have o2 : (FloatKind.f64.format.order c 4607182418800017408 == some .gt || FloatKind.f64.format.order c 4607182418800017408 == some .eq) = false := by simpa using hge
              clear hge
              by_cases hle : FloatKind.f64.format.order c 0 = some .lt ∨ FloatKind.f64.format.order c 0 = some .eq
              · have o3 : (FloatKind.f64.format.order c 0 == some .lt || FloatKind.f64.format.order c 0 == some .eq) = true := by simpa using hle
                rw [clamp_low hc hle] at ye5
                have E56e := ye5.trans ye6.symm
                clear ye5 ye6 ye7 hle
                go_wp2
                go_quiet ((first | (go_at_call_of 17 (Value.float .f64 s5); exact (same17 _ _ E57 _).mono (fun _ _ h => ⟨h.1, _, h.2⟩)) | (go_at_call_of 17 (Value.float .f64 s6); exact (same17 _ _ E67 _).mono (fun _ _ h => ⟨h.1, _, h.2⟩))))
                go_wp2
                go_quiet ((go_at_call_of 17 (Value.float .f64 e6); exact (same17 _ _ E66 _).mono (fun _ _ h => ⟨h.1, _, h.2⟩)))
                go_wp2
                go_quiet (fail)
                go_wp2
                go_quiet ((go_at_call_of 17 (Value.float .f64 e5); exact (same17 _ _ E56e _).mono (fun _ _ h => ⟨h.1, _, h.2⟩)))
                go_wp2
                go_roundg (m - (k + 1))
                case measure => go_light; omega
                case rel => go_light; exact ⟨k + 1, by omega, rfl, by go_num, by repeat (first | exact H | apply Hold.still _ (Still.drewN (Still.refl _) _))⟩
              · have o3 : (FloatKind.f64.format.order c 0 == some .lt || FloatKind.f64.format.order c 0 == some .eq) = false := by simpa using hle
                clear ye5 ye6 ye7 hle
                go_wp2
                go_quiet ((first | (go_at_call_of 17 (Value.float .f64 s5); exact (same17 _ _ E57 _).mono (fun _ _ h => ⟨h.1, _, h.2⟩)) | (go_at_call_of 17 (Value.float .f64 s6); exact (same17 _ _ E67 _).mono (fun _ _ h => ⟨h.1, _, h.2⟩))))
                go_wp2
                go_quiet ((go_at_call_of 17 (Value.float .f64 e6); exact (same17 _ _ E66 _).mono (fun _ _ h => ⟨h.1, _, h.2⟩)))
                go_wp2
                go_quiet (fail)
                go_wp2
                go_roundg (m - (k + 1))
                case measure => go_light; omega
                case rel => go_light; exact ⟨k + 1, by omega, rfl, by go_num, by repeat (first | exact H | apply Hold.still _ (Still.drewN (Still.refl _) _))⟩
      · have hlz : ¬ (k : Int) < (m : Int) := by omega
        go_wp2
        go_ret
        exact ⟨rfl, H.below⟩
  · have hmp : decide ((0 : Int) < (m : Int)) = false := decide_eq_false (by omega)
    have hz0 : m = 0 := by omega
    subst hz0
    go_wp2
    refine wp_loop_rounds 1 ?_
    rw [rounds_succ]
    go_wp2
    go_ret
    exact ⟨rfl, H0.below⟩
end Go.Proofs.Qxb6603048a.fnBucketCoverage
