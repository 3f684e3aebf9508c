/-
  THE WALKS of scanApartStringSlice (21), scanStringSlice (20) and their shims (14, 11).
-/
import Derived.Test.Qxb6603709aStrWalks
import Derived.Deep.CutBlock
import Derived.Deep.DeepCutAuto
set_option linter.unusedVariables false
namespace Go.Proofs.Qxb6603709a
open Go.RowKit ScanMath

/-- Less against the pivot, where the answer is known. -/
theorem lessP (b n lo p : Nat) (q : Int) (f : Nat → ByteArray) (piv : ByteArray) (r : Bool) (w : World) (hn : n ≤ 65536) (h : Strs w b n f) (hp : p < n) (hlo : lo < n) (hpiv : f lo = piv) (hq : q = (p : Int)) (hr : ltb (f p) piv = r) :
    Calls Try.prog 24 #[.slice (some ⟨b, 0, none⟩) n n, .int .i64 q, .int .i64 lo] w fun e w' => e = .returned (.bool r) ∧ Strs w' b n f ∧ Still w w' := by
  subst hq
  refine (less24 b n p lo f w hn h hp hlo).mono ?_
  rintro e w' ⟨rfl, k, rfl⟩
  rw [hpiv, hr]
  exact ⟨rfl, h.still ((Still.refl _).drewN k), (Still.refl _).drewN k⟩

/-- What stands at a place of the scan: the world holds f, and only block b has turned. -/
structure At (w0 w : World) (b n : Nat) (S : Nat → ByteArray) (piv : ByteArray) (i0 X Y e0 i e t : Nat) (f : Nat → ByteArray) : Prop where
  strs : Strs w b n f
  inv : Inv S piv i0 X Y e0 i e t f
  only : Only b w0 w

theorem At.still {w0 w w' : World} {b n : Nat} {S : Nat → ByteArray} {piv : ByteArray} {i0 X Y e0 i e t : Nat} {f : Nat → ByteArray} (h : At w0 w b n S piv i0 X Y e0 i e t f) (s : Still w w') : At w0 w' b n S piv i0 X Y e0 i e t f :=
  ⟨h.strs.still s, h.inv, h.only.still s⟩
theorem At.passL {w0 w : World} {b n : Nat} {S : Nat → ByteArray} {piv : ByteArray} {i0 X Y e0 i e t : Nat} {f : Nat → ByteArray} (h : At w0 w b n S piv i0 X Y e0 i e t f) (hx : i < X) (hl : i < e) (hb : ltb (f i) piv = true) : At w0 w b n S piv i0 X Y e0 (i + 1) e t f :=
  ⟨h.strs, h.inv.passL hx hl hb, h.only⟩
theorem At.passR {w0 w : World} {b n : Nat} {S : Nat → ByteArray} {piv : ByteArray} {i0 X Y e0 i e t : Nat} {f : Nat → ByteArray} (h : At w0 w b n S piv i0 X Y e0 i (e + 1) t f) (hy : Y ≤ e) (hl : i ≤ e) (hb : ltb (f e) piv = false) : At w0 w b n S piv i0 X Y e0 i e t f :=
  ⟨h.strs, h.inv.passR hy hl hb, h.only⟩

/-- What scanApart leaves. -/
def Post21 (b n lo i0 L F e0 : Nat) (S : Nat → ByteArray) (w : World) (en : Ending) (w' : World) : Prop :=
  ∃ (i e t : Nat) (f : Nat → ByteArray), en = .returned (.tuple #[.int .i64 i, .int .i64 ((e : Int) - 1)]) ∧ At w w' b n S (S lo) i0 L F e0 i e t f ∧ ApartEnd (nbL (fun p => ltb (S p) (S lo)) i0 L) (bfL (fun p => ltb (S p) (S lo)) F e0) L F e0 i e t

/-- What scan leaves. -/
def Post20 (b n lo i0 e0 : Nat) (S : Nat → ByteArray) (w : World) (en : Ending) (w' : World) : Prop :=
  ∃ (i t : Nat) (f : Nat → ByteArray), en = .returned (.int .i64 i) ∧ At w w' b n S (S lo) i0 e0 i0 e0 i i t f

set_option maxRecDepth 100000 in
set_option maxHeartbeats 8000000 in
theorem apart21 (b n lo i0 L F e0 : Nat) (S : Nat → ByteArray) (w : World) (hn : n ≤ 65536) (h : Strs w b n S) (hlo : lo < n) (h0 : i0 ≤ L) (hLF : L ≤ F) (hF : F ≤ e0) (he : e0 ≤ n) (hlo1 : lo < i0 ∨ L ≤ lo) (hlo2 : lo < F ∨ e0 ≤ lo) :
    Calls Try.prog 21 #[.slice (some ⟨b, 0, none⟩) n n, .int .i64 lo, .int .i64 i0, .int .i64 ((e0 : Int) - 1), .int .i64 ((L : Int) - 1), .int .i64 ((F : Int) - 1)] w fun en w' => Post21 b n lo i0 L F e0 S w en w' := by
  have C23 := prove23 b n lo S w hn h hlo
  have A0 : At w w b n S (S lo) i0 L F e0 i0 e0 0 S := ⟨h, Inv.start h0 hF (by omega), Only.refl _ _⟩
  have HP : Hid (∀ wx i e t f, At w wx b n S (S lo) i0 L F e0 i e t f → f lo = S lo) := fun wx i e t f a => a.inv.same lo (by have := a.inv.hX; have := a.inv.hY; have := a.inv.h0; have := a.inv.he; omega)
  go_enter Try.func21, Try.ntmps21
  go_wp2_with fail
  refine C23.mono ?_
  rintro en w' ⟨rfl, hw⟩
  rw [hw]
  clear C23 h hw
  go_wp2_with fail
  go_loopg [2, 3] (e0 - i0) (fun gk i' j' wr => ∃ (i e t : Nat) (f : Nat → ByteArray), gk = e - i ∧ i' = .int .i64 i ∧ j' = .int .i64 ((e : Int) - 1) ∧ At w wr b n S (S lo) i0 L F e0 i e t f ∧ Hid ((t = 0 ∧ e = e0) ∨ (0 < t ∧ (bfL (fun p => ltb (S p) (S lo)) F e0).getD (t - 1) 0 = e)))
  case atStart => exact ⟨i0, e0, 0, S, rfl, rfl, rfl, A0, .inl ⟨rfl, rfl⟩⟩
  case round =>
    obtain ⟨iH, eH, t, f, rfl, rfl, rfl, hA, HL⟩ := hrel
    clear A0
    have q1 := hA.inv.h0
    have q2 := hA.inv.hX
    have q3 := hA.inv.hY
    have q4 := hA.inv.he
    have hpv : Hid (f lo = S lo) := HP.out _ _ _ _ _ hA
    go_upto_block 2 with fail
    go_cut [2] (fun i' wx => ∃ i : Nat, i' = .int .i64 i ∧ At w wx b n S (S lo) i0 L F e0 i eH t f ∧ Hid (iH ≤ i ∧ (i = L ∨ (i < L ∧ ltb (f i) (S lo) = false))))
    case first =>
      go_wp2_with fail
      go_loopg [2] (L - iH) (fun gk i' wx => ∃ i : Nat, gk = L - i ∧ i' = .int .i64 i ∧ At w wx b n S (S lo) i0 L F e0 i eH t f ∧ iH ≤ i)
      case atStart => exact ⟨iH, rfl, rfl, hA, Nat.le_refl _⟩
      case round =>
        clear hA
        obtain ⟨i, rfl, rfl, hA0, hii⟩ := hrel
        have q1 := hA0.inv.h0
        have q2 := hA0.inv.hX
        have q5 := hA0.inv.hie
        by_cases h4 : i + 4 ≤ L
        · have d4 : ¬ ((L : Int) - 1 - (i : Int) < 3) := by omega
          by_cases b0 : ltb (f i) (S lo) = true
          · by_cases b1 : ltb (f (i + 1)) (S lo) = true
            · by_cases b2 : ltb (f (i + 2)) (S lo) = true
              · by_cases b3 : ltb (f (i + 3)) (S lo) = true
                · skip
                  go_wp2_with fail
                  refine (lessP b n lo (i) _ f (S lo) true _ hn hA0.strs (by omega) hlo hpv.out (by omega) b0).mono ?_
                  rintro en w2 ⟨rfl, hx0, hst0⟩
                  have hA1 := hA0.still hst0
                  clear hx0 hst0 hA0
                  go_wp2_with fail
                  refine (lessP b n lo (i + 1) _ f (S lo) true _ hn hA1.strs (by omega) hlo hpv.out (by omega) b1).mono ?_
                  rintro en w3 ⟨rfl, hx1, hst1⟩
                  have hA2 := hA1.still hst1
                  clear hx1 hst1 hA1
                  go_wp2_with fail
                  refine (lessP b n lo (i + 2) _ f (S lo) true _ hn hA2.strs (by omega) hlo hpv.out (by omega) b2).mono ?_
                  rintro en w4 ⟨rfl, hx2, hst2⟩
                  have hA3 := hA2.still hst2
                  clear hx2 hst2 hA2
                  go_wp2_with fail
                  refine (lessP b n lo (i + 3) _ f (S lo) true _ hn hA3.strs (by omega) hlo hpv.out (by omega) b3).mono ?_
                  rintro en w5 ⟨rfl, hx3, hst3⟩
                  have hA4 := hA3.still hst3
                  clear hx3 hst3 hA3
                  go_wp2
                  go_roundg (L - (i + 4))
                  case measure => go_light; omega
                  case rel => go_light; exact ⟨i + 4, rfl, by go_num, ((((hA4.passL (by omega) (by omega) b0).passL (by omega) (by omega) b1).passL (by omega) (by omega) b2).passL (by omega) (by omega) b3), by omega⟩
                · have b3' : ltb (f (i + 3)) (S lo) = false := by simpa using b3
                  go_wp2_with fail
                  refine (lessP b n lo (i) _ f (S lo) true _ hn hA0.strs (by omega) hlo hpv.out (by omega) b0).mono ?_
                  rintro en w2 ⟨rfl, hx0, hst0⟩
                  have hA1 := hA0.still hst0
                  clear hx0 hst0 hA0
                  go_wp2_with fail
                  refine (lessP b n lo (i + 1) _ f (S lo) true _ hn hA1.strs (by omega) hlo hpv.out (by omega) b1).mono ?_
                  rintro en w3 ⟨rfl, hx1, hst1⟩
                  have hA2 := hA1.still hst1
                  clear hx1 hst1 hA1
                  go_wp2_with fail
                  refine (lessP b n lo (i + 2) _ f (S lo) true _ hn hA2.strs (by omega) hlo hpv.out (by omega) b2).mono ?_
                  rintro en w4 ⟨rfl, hx2, hst2⟩
                  have hA3 := hA2.still hst2
                  clear hx2 hst2 hA2
                  go_wp2_with fail
                  refine (lessP b n lo (i + 3) _ f (S lo) false _ hn hA3.strs (by omega) hlo hpv.out (by omega) b3').mono ?_
                  rintro en w5 ⟨rfl, hx3, hst3⟩
                  have hA4 := hA3.still hst3
                  clear hx3 hst3 hA3
                  go_wp2
                  go_meet
                  case rel => go_light; exact ⟨i + 3, by go_num, (((hA4.passL (by omega) (by omega) b0).passL (by omega) (by omega) b1).passL (by omega) (by omega) b2), ⟨by omega, .inr ⟨by omega, b3'⟩⟩⟩
              · have b2' : ltb (f (i + 2)) (S lo) = false := by simpa using b2
                go_wp2_with fail
                refine (lessP b n lo (i) _ f (S lo) true _ hn hA0.strs (by omega) hlo hpv.out (by omega) b0).mono ?_
                rintro en w2 ⟨rfl, hx0, hst0⟩
                have hA1 := hA0.still hst0
                clear hx0 hst0 hA0
                go_wp2_with fail
                refine (lessP b n lo (i + 1) _ f (S lo) true _ hn hA1.strs (by omega) hlo hpv.out (by omega) b1).mono ?_
                rintro en w3 ⟨rfl, hx1, hst1⟩
                have hA2 := hA1.still hst1
                clear hx1 hst1 hA1
                go_wp2_with fail
                refine (lessP b n lo (i + 2) _ f (S lo) false _ hn hA2.strs (by omega) hlo hpv.out (by omega) b2').mono ?_
                rintro en w4 ⟨rfl, hx2, hst2⟩
                have hA3 := hA2.still hst2
                clear hx2 hst2 hA2
                go_wp2
                go_meet
                case rel => go_light; exact ⟨i + 2, by go_num, ((hA3.passL (by omega) (by omega) b0).passL (by omega) (by omega) b1), ⟨by omega, .inr ⟨by omega, b2'⟩⟩⟩
            · have b1' : ltb (f (i + 1)) (S lo) = false := by simpa using b1
              go_wp2_with fail
              refine (lessP b n lo (i) _ f (S lo) true _ hn hA0.strs (by omega) hlo hpv.out (by omega) b0).mono ?_
              rintro en w2 ⟨rfl, hx0, hst0⟩
              have hA1 := hA0.still hst0
              clear hx0 hst0 hA0
              go_wp2_with fail
              refine (lessP b n lo (i + 1) _ f (S lo) false _ hn hA1.strs (by omega) hlo hpv.out (by omega) b1').mono ?_
              rintro en w3 ⟨rfl, hx1, hst1⟩
              have hA2 := hA1.still hst1
              clear hx1 hst1 hA1
              go_wp2
              go_meet
              case rel => go_light; exact ⟨i + 1, by go_num, (hA2.passL (by omega) (by omega) b0), ⟨by omega, .inr ⟨by omega, b1'⟩⟩⟩
          · have b0' : ltb (f i) (S lo) = false := by simpa using b0
            go_wp2_with fail
            refine (lessP b n lo (i) _ f (S lo) false _ hn hA0.strs (by omega) hlo hpv.out (by omega) b0').mono ?_
            rintro en w2 ⟨rfl, hx0, hst0⟩
            have hA1 := hA0.still hst0
            clear hx0 hst0 hA0
            go_wp2
            go_meet
            case rel => go_light; exact ⟨i, rfl, hA1, ⟨by omega, .inr ⟨by omega, b0'⟩⟩⟩
        · have d4 : (L : Int) - 1 - (i : Int) < 3 := by omega
          go_wp2_with fail
          go_loopg [2] (L - i) (fun gk i' wx => ∃ i : Nat, gk = L - i ∧ i' = .int .i64 i ∧ At w wx b n S (S lo) i0 L F e0 i eH t f ∧ iH ≤ i)
          case atStart => exact ⟨i, rfl, rfl, hA0, hii⟩
          case round =>
            clear hA0
            obtain ⟨i, rfl, rfl, hA0, hii⟩ := hrel
            have q1 := hA0.inv.h0
            have q2 := hA0.inv.hX
            have q5 := hA0.inv.hie
            by_cases hlt : i < L
            · have hlz : (i : Int) ≤ (L : Int) - 1 := by omega
              by_cases b0 : ltb (f i) (S lo) = true
              · skip
                go_wp2_with fail
                refine (lessP b n lo (i) _ f (S lo) true _ hn hA0.strs (by omega) hlo hpv.out (by omega) b0).mono ?_
                rintro en w2 ⟨rfl, hx0, hst0⟩
                have hA1 := hA0.still hst0
                clear hx0 hst0 hA0
                go_wp2
                go_roundg (L - (i + 1))
                case measure => go_light; omega
                case rel => go_light; exact ⟨i + 1, rfl, by go_num, hA1.passL (by omega) (by omega) b0, by omega⟩
              · have b0' : ltb (f i) (S lo) = false := by simpa using b0
                go_wp2_with fail
                refine (lessP b n lo (i) _ f (S lo) false _ hn hA0.strs (by omega) hlo hpv.out (by omega) b0').mono ?_
                rintro en w2 ⟨rfl, hx0, hst0⟩
                have hA1 := hA0.still hst0
                clear hx0 hst0 hA0
                go_wp2
                go_meet
                case rel => go_light; exact ⟨i, rfl, hA1, ⟨by omega, .inr ⟨by omega, b0'⟩⟩⟩
            · have hlz : ¬ (i : Int) ≤ (L : Int) - 1 := by omega
              go_wp2
              go_meet
              case rel => go_light; exact ⟨i, rfl, hA0, ⟨by omega, .inl (by omega)⟩⟩
    case rest =>
      obtain ⟨i, rfl, hA, HE⟩ := hcut
      obtain ⟨hii, hE⟩ := HE.out
      clear HE
      have p1 := hA.inv.h0
      have p2 := hA.inv.hX
      rcases hE with hE | ⟨hiL, hbi⟩
      · have hEz : (L : Int) - 1 < (i : Int) := by omega
        obtain rfl : i = L := hE
        go_wp2
        go_ret2
        exact ⟨i, eH, t, f, rfl, hA, apart_end1 hA.inv HL.out⟩
      · have hEz : ¬ (L : Int) - 1 < (i : Int) := by omega
        clear HL
        go_upto_block 6 with fail
        go_cut [3] (fun j' wx => ∃ e : Nat, j' = .int .i64 ((e : Int) - 1) ∧ At w wx b n S (S lo) i0 L F e0 i e t f ∧ Hid (e ≤ eH ∧ (e ≤ F ∨ ∃ d, e = d + 1 ∧ F ≤ d ∧ ltb (f d) (S lo) = true)))
        case first =>
          go_wp2_with fail
          go_loopg [3] (eH - (F)) (fun gk j' wx => ∃ e : Nat, gk = e - (F) ∧ j' = .int .i64 ((e : Int) - 1) ∧ At w wx b n S (S lo) i0 L F e0 i e t f ∧ e ≤ eH)
          case atStart => exact ⟨eH, rfl, rfl, hA, Nat.le_refl _⟩
          case round =>
            clear hA
            obtain ⟨e, rfl, rfl, hA0, hee⟩ := hrel
            have q3 := hA0.inv.hY
            have q4 := hA0.inv.he
            have q5 := hA0.inv.hie
            by_cases h4 : F + 4 ≤ e
            · obtain ⟨d, rfl⟩ : ∃ d, e = d + 4 := ⟨e - 4, by omega⟩
              have d4 : ¬ (((d + 4 : Nat) : Int) - 1 - ((F : Int) - 1) < 4) := by omega
              have hd0 : F ≤ d := by omega
              by_cases b0 : ltb (f (d + 3)) (S lo) = true
              · skip
                go_wp2_with fail
                refine (lessP b n lo (d + 3) _ f (S lo) true _ hn hA0.strs (by omega) hlo hpv.out (by omega) b0).mono ?_
                rintro en w2 ⟨rfl, hx0, hst0⟩
                have hA1 := hA0.still hst0
                clear hx0 hst0 hA0
                go_wp2
                go_meet
                case rel => go_light; exact ⟨d + 4, by go_num, hA1, ⟨by omega, .inr ⟨d + 3, rfl, by omega, b0⟩⟩⟩
              · have b0' : ltb (f (d + 3)) (S lo) = false := by simpa using b0
                by_cases b1 : ltb (f (d + 2)) (S lo) = true
                · skip
                  go_wp2_with fail
                  refine (lessP b n lo (d + 3) _ f (S lo) false _ hn hA0.strs (by omega) hlo hpv.out (by omega) b0').mono ?_
                  rintro en w2 ⟨rfl, hx0, hst0⟩
                  have hA1 := hA0.still hst0
                  clear hx0 hst0 hA0
                  go_wp2_with fail
                  refine (lessP b n lo (d + 2) _ f (S lo) true _ hn hA1.strs (by omega) hlo hpv.out (by omega) b1).mono ?_
                  rintro en w3 ⟨rfl, hx1, hst1⟩
                  have hA2 := hA1.still hst1
                  clear hx1 hst1 hA1
                  go_wp2
                  go_meet
                  case rel => go_light; exact ⟨d + 3, by go_num, (hA2.passR (by omega) (by omega) b0'), ⟨by omega, .inr ⟨d + 2, rfl, by omega, b1⟩⟩⟩
                · have b1' : ltb (f (d + 2)) (S lo) = false := by simpa using b1
                  by_cases b2 : ltb (f (d + 1)) (S lo) = true
                  · skip
                    go_wp2_with fail
                    refine (lessP b n lo (d + 3) _ f (S lo) false _ hn hA0.strs (by omega) hlo hpv.out (by omega) b0').mono ?_
                    rintro en w2 ⟨rfl, hx0, hst0⟩
                    have hA1 := hA0.still hst0
                    clear hx0 hst0 hA0
                    go_wp2_with fail
                    refine (lessP b n lo (d + 2) _ f (S lo) false _ hn hA1.strs (by omega) hlo hpv.out (by omega) b1').mono ?_
                    rintro en w3 ⟨rfl, hx1, hst1⟩
                    have hA2 := hA1.still hst1
                    clear hx1 hst1 hA1
                    go_wp2_with fail
                    refine (lessP b n lo (d + 1) _ f (S lo) true _ hn hA2.strs (by omega) hlo hpv.out (by omega) b2).mono ?_
                    rintro en w4 ⟨rfl, hx2, hst2⟩
                    have hA3 := hA2.still hst2
                    clear hx2 hst2 hA2
                    go_wp2
                    go_meet
                    case rel => go_light; exact ⟨d + 2, by go_num, ((hA3.passR (by omega) (by omega) b0').passR (by omega) (by omega) b1'), ⟨by omega, .inr ⟨d + 1, rfl, by omega, b2⟩⟩⟩
                  · have b2' : ltb (f (d + 1)) (S lo) = false := by simpa using b2
                    by_cases b3 : ltb (f d) (S lo) = true
                    · skip
                      go_wp2_with fail
                      refine (lessP b n lo (d + 3) _ f (S lo) false _ hn hA0.strs (by omega) hlo hpv.out (by omega) b0').mono ?_
                      rintro en w2 ⟨rfl, hx0, hst0⟩
                      have hA1 := hA0.still hst0
                      clear hx0 hst0 hA0
                      go_wp2_with fail
                      refine (lessP b n lo (d + 2) _ f (S lo) false _ hn hA1.strs (by omega) hlo hpv.out (by omega) b1').mono ?_
                      rintro en w3 ⟨rfl, hx1, hst1⟩
                      have hA2 := hA1.still hst1
                      clear hx1 hst1 hA1
                      go_wp2_with fail
                      refine (lessP b n lo (d + 1) _ f (S lo) false _ hn hA2.strs (by omega) hlo hpv.out (by omega) b2').mono ?_
                      rintro en w4 ⟨rfl, hx2, hst2⟩
                      have hA3 := hA2.still hst2
                      clear hx2 hst2 hA2
                      go_wp2_with fail
                      refine (lessP b n lo (d) _ f (S lo) true _ hn hA3.strs (by omega) hlo hpv.out (by omega) b3).mono ?_
                      rintro en w5 ⟨rfl, hx3, hst3⟩
                      have hA4 := hA3.still hst3
                      clear hx3 hst3 hA3
                      go_wp2
                      go_meet
                      case rel => go_light; exact ⟨d + 1, by go_num, (((hA4.passR (by omega) (by omega) b0').passR (by omega) (by omega) b1').passR (by omega) (by omega) b2'), ⟨by omega, .inr ⟨d, rfl, by omega, b3⟩⟩⟩
                    · have b3' : ltb (f d) (S lo) = false := by simpa using b3
                      go_wp2_with fail
                      refine (lessP b n lo (d + 3) _ f (S lo) false _ hn hA0.strs (by omega) hlo hpv.out (by omega) b0').mono ?_
                      rintro en w2 ⟨rfl, hx0, hst0⟩
                      have hA1 := hA0.still hst0
                      clear hx0 hst0 hA0
                      go_wp2_with fail
                      refine (lessP b n lo (d + 2) _ f (S lo) false _ hn hA1.strs (by omega) hlo hpv.out (by omega) b1').mono ?_
                      rintro en w3 ⟨rfl, hx1, hst1⟩
                      have hA2 := hA1.still hst1
                      clear hx1 hst1 hA1
                      go_wp2_with fail
                      refine (lessP b n lo (d + 1) _ f (S lo) false _ hn hA2.strs (by omega) hlo hpv.out (by omega) b2').mono ?_
                      rintro en w4 ⟨rfl, hx2, hst2⟩
                      have hA3 := hA2.still hst2
                      clear hx2 hst2 hA2
                      go_wp2_with fail
                      refine (lessP b n lo (d) _ f (S lo) false _ hn hA3.strs (by omega) hlo hpv.out (by omega) b3').mono ?_
                      rintro en w5 ⟨rfl, hx3, hst3⟩
                      have hA4 := hA3.still hst3
                      clear hx3 hst3 hA3
                      go_wp2
                      go_roundg (d - (F))
                      case measure => go_light; omega
                      case rel => go_light; exact ⟨d, rfl, by go_num, ((((hA4.passR (by omega) (by omega) b0').passR (by omega) (by omega) b1').passR (by omega) (by omega) b2').passR (by omega) (by omega) b3'), by omega⟩
            · have d4 : (e : Int) - 1 - ((F : Int) - 1) < 4 := by omega
              go_wp2_with fail
              go_loopg [3] (e - (F)) (fun gk j' wx => ∃ e : Nat, gk = e - (F) ∧ j' = .int .i64 ((e : Int) - 1) ∧ At w wx b n S (S lo) i0 L F e0 i e t f ∧ e ≤ eH)
              case atStart => exact ⟨e, rfl, rfl, hA0, hee⟩
              case round =>
                clear hA0
                obtain ⟨e, rfl, rfl, hA0, hee⟩ := hrel
                have q3 := hA0.inv.hY
                have q4 := hA0.inv.he
                have q5 := hA0.inv.hie
                by_cases hlt : F < e
                · obtain ⟨d, rfl⟩ : ∃ d, e = d + 1 := ⟨e - 1, by omega⟩
                  have hlz : ((F : Int) - 1) < ((d + 1 : Nat) : Int) - 1 := by omega
                  by_cases b0 : ltb (f d) (S lo) = true
                  · skip
                    go_wp2_with fail
                    refine (lessP b n lo (d) _ f (S lo) true _ hn hA0.strs (by omega) hlo hpv.out (by omega) b0).mono ?_
                    rintro en w2 ⟨rfl, hx0, hst0⟩
                    have hA1 := hA0.still hst0
                    clear hx0 hst0 hA0
                    go_wp2
                    go_meet
                    case rel => go_light; exact ⟨d + 1, by go_num, hA1, ⟨by omega, .inr ⟨d, rfl, by omega, b0⟩⟩⟩
                  · have b0' : ltb (f d) (S lo) = false := by simpa using b0
                    go_wp2_with fail
                    refine (lessP b n lo (d) _ f (S lo) false _ hn hA0.strs (by omega) hlo hpv.out (by omega) b0').mono ?_
                    rintro en w2 ⟨rfl, hx0, hst0⟩
                    have hA1 := hA0.still hst0
                    clear hx0 hst0 hA0
                    go_wp2
                    go_roundg (d - (F))
                    case measure => go_light; omega
                    case rel => go_light; exact ⟨d, rfl, by go_num, hA1.passR (by omega) (by omega) b0', by omega⟩
                · have hlz : ¬ ((F : Int) - 1) < (e : Int) - 1 := by omega
                  go_wp2
                  go_meet
                  case rel => go_light; exact ⟨e, rfl, hA0, ⟨by omega, .inl (by omega)⟩⟩
        case rest =>
          obtain ⟨e, rfl, hA, HE⟩ := hcut
          obtain ⟨hee, hE⟩ := HE.out
          clear HE
          have p3 := hA.inv.hY
          have p4 := hA.inv.he
          rcases hE with hE | ⟨d, rfl, hFd, hbd⟩
          · obtain rfl : e = F := by omega
            go_wp2
            go_ret2
            exact ⟨i, e, t, f, rfl, hA, apart_end2 hA.inv hiL hLF hbi⟩
          · have hne : ((((d + 1 : Nat) : Int) - 1) == ((F : Int) - 1)) = false ∨ d + 1 = F := by
              by_cases e' : d + 1 = F
              · exact .inr e'
              · exact .inl (by simp; omega)
            rcases hne with hne | hne
            · have C25 := swap25 b n i d f _ hn hA.strs (by omega) (by omega) (by omega)
              have hinv := hA.inv.swap hiL hFd (by omega) hbi hbd
              have hon := hA.only
              have HL2 : Hid ((bfL (fun p => ltb (S p) (S lo)) F e0).getD (t + 1 - 1) 0 = d) := (hA.inv.next_bf hFd (by omega) hbd).1
              have hdd : ((d + 1 : Nat) : Int) - 1 = (d : Int) := by omega
              clear hA
              rw [hdd] at hne ⊢
              go_wp2_with fail
              refine C25.mono ?_
              rintro en w9 ⟨rfl, hs9, ho9⟩
              clear C25
              go_wp2
              go_roundg (d - (i + 1))
              case measure => go_light; omega
              case rel => go_light; exact ⟨i + 1, d, t + 1, swapF f i d, rfl, by go_num, rfl, ⟨hs9, hinv, hon.trans ho9⟩, .inr ⟨by omega, HL2.out⟩⟩
            · omega
set_option maxRecDepth 100000 in
set_option maxHeartbeats 8000000 in
theorem scan20 (b n lo i0 e0 : Nat) (S : Nat → ByteArray) (w : World) (hn : n ≤ 65536) (h : Strs w b n S) (hlo : lo < n) (h0 : i0 ≤ e0) (he : e0 ≤ n) (hlo1 : lo < i0 ∨ e0 ≤ lo) :
    Calls Try.prog 20 #[.slice (some ⟨b, 0, none⟩) n n, .int .i64 lo, .int .i64 i0, .int .i64 ((e0 : Int) - 1)] w fun en w' => Post20 b n lo i0 e0 S w en w' := by
  have C23 := prove23 b n lo S w hn h hlo
  have A0 : At w w b n S (S lo) i0 e0 i0 e0 i0 e0 0 S := ⟨h, Inv.start h0 h0 h0, Only.refl _ _⟩
  have HP : Hid (∀ wx i e t f, At w wx b n S (S lo) i0 e0 i0 e0 i e t f → f lo = S lo) := fun wx i e t f a => a.inv.same lo (by omega)
  go_enter Try.func20, Try.ntmps20
  go_wp2_with fail
  refine C23.mono ?_
  rintro en w' ⟨rfl, hw⟩
  rw [hw]
  clear C23 h hw
  go_wp2_with fail
  go_loopg [2, 3] (e0 - i0) (fun gk i' j' wr => ∃ (i e t : Nat) (f : Nat → ByteArray), gk = e - i ∧ i' = .int .i64 i ∧ j' = .int .i64 ((e : Int) - 1) ∧ At w wr b n S (S lo) i0 e0 i0 e0 i e t f)
  case atStart => exact ⟨i0, e0, 0, S, rfl, rfl, rfl, A0⟩
  case round =>
    obtain ⟨iH, eH, t, f, rfl, rfl, rfl, hA⟩ := hrel
    clear A0
    have q1 := hA.inv.h0
    have q2 := hA.inv.hX
    have q3 := hA.inv.hY
    have q4 := hA.inv.he
    have hpv : Hid (f lo = S lo) := HP.out _ _ _ _ _ hA
    go_upto_block 2 with fail
    go_cut [2] (fun i' wx => ∃ i : Nat, i' = .int .i64 i ∧ At w wx b n S (S lo) i0 e0 i0 e0 i eH t f ∧ Hid (iH ≤ i ∧ (i = eH ∨ (i < eH ∧ ltb (f i) (S lo) = false))))
    case first =>
      go_wp2_with fail
      go_loopg [2] (eH - iH) (fun gk i' wx => ∃ i : Nat, gk = eH - i ∧ i' = .int .i64 i ∧ At w wx b n S (S lo) i0 e0 i0 e0 i eH t f ∧ iH ≤ i)
      case atStart => exact ⟨iH, rfl, rfl, hA, Nat.le_refl _⟩
      case round =>
        clear hA
        obtain ⟨i, rfl, rfl, hA0, hii⟩ := hrel
        have q1 := hA0.inv.h0
        have q2 := hA0.inv.hX
        have q5 := hA0.inv.hie
        by_cases h4 : i + 4 ≤ eH
        · have d4 : ¬ ((eH : Int) - 1 - (i : Int) < 3) := by omega
          by_cases b0 : ltb (f i) (S lo) = true
          · by_cases b1 : ltb (f (i + 1)) (S lo) = true
            · by_cases b2 : ltb (f (i + 2)) (S lo) = true
              · by_cases b3 : ltb (f (i + 3)) (S lo) = true
                · skip
                  go_wp2_with fail
                  refine (lessP b n lo (i) _ f (S lo) true _ hn hA0.strs (by omega) hlo hpv.out (by omega) b0).mono ?_
                  rintro en w2 ⟨rfl, hx0, hst0⟩
                  have hA1 := hA0.still hst0
                  clear hx0 hst0 hA0
                  go_wp2_with fail
                  refine (lessP b n lo (i + 1) _ f (S lo) true _ hn hA1.strs (by omega) hlo hpv.out (by omega) b1).mono ?_
                  rintro en w3 ⟨rfl, hx1, hst1⟩
                  have hA2 := hA1.still hst1
                  clear hx1 hst1 hA1
                  go_wp2_with fail
                  refine (lessP b n lo (i + 2) _ f (S lo) true _ hn hA2.strs (by omega) hlo hpv.out (by omega) b2).mono ?_
                  rintro en w4 ⟨rfl, hx2, hst2⟩
                  have hA3 := hA2.still hst2
                  clear hx2 hst2 hA2
                  go_wp2_with fail
                  refine (lessP b n lo (i + 3) _ f (S lo) true _ hn hA3.strs (by omega) hlo hpv.out (by omega) b3).mono ?_
                  rintro en w5 ⟨rfl, hx3, hst3⟩
                  have hA4 := hA3.still hst3
                  clear hx3 hst3 hA3
                  go_wp2
                  go_roundg (eH - (i + 4))
                  case measure => go_light; omega
                  case rel => go_light; exact ⟨i + 4, rfl, by go_num, ((((hA4.passL (by omega) (by omega) b0).passL (by omega) (by omega) b1).passL (by omega) (by omega) b2).passL (by omega) (by omega) b3), by omega⟩
                · have b3' : ltb (f (i + 3)) (S lo) = false := by simpa using b3
                  go_wp2_with fail
                  refine (lessP b n lo (i) _ f (S lo) true _ hn hA0.strs (by omega) hlo hpv.out (by omega) b0).mono ?_
                  rintro en w2 ⟨rfl, hx0, hst0⟩
                  have hA1 := hA0.still hst0
                  clear hx0 hst0 hA0
                  go_wp2_with fail
                  refine (lessP b n lo (i + 1) _ f (S lo) true _ hn hA1.strs (by omega) hlo hpv.out (by omega) b1).mono ?_
                  rintro en w3 ⟨rfl, hx1, hst1⟩
                  have hA2 := hA1.still hst1
                  clear hx1 hst1 hA1
                  go_wp2_with fail
                  refine (lessP b n lo (i + 2) _ f (S lo) true _ hn hA2.strs (by omega) hlo hpv.out (by omega) b2).mono ?_
                  rintro en w4 ⟨rfl, hx2, hst2⟩
                  have hA3 := hA2.still hst2
                  clear hx2 hst2 hA2
                  go_wp2_with fail
                  refine (lessP b n lo (i + 3) _ f (S lo) false _ hn hA3.strs (by omega) hlo hpv.out (by omega) b3').mono ?_
                  rintro en w5 ⟨rfl, hx3, hst3⟩
                  have hA4 := hA3.still hst3
                  clear hx3 hst3 hA3
                  go_wp2
                  go_meet
                  case rel => go_light; exact ⟨i + 3, by go_num, (((hA4.passL (by omega) (by omega) b0).passL (by omega) (by omega) b1).passL (by omega) (by omega) b2), ⟨by omega, .inr ⟨by omega, b3'⟩⟩⟩
              · have b2' : ltb (f (i + 2)) (S lo) = false := by simpa using b2
                go_wp2_with fail
                refine (lessP b n lo (i) _ f (S lo) true _ hn hA0.strs (by omega) hlo hpv.out (by omega) b0).mono ?_
                rintro en w2 ⟨rfl, hx0, hst0⟩
                have hA1 := hA0.still hst0
                clear hx0 hst0 hA0
                go_wp2_with fail
                refine (lessP b n lo (i + 1) _ f (S lo) true _ hn hA1.strs (by omega) hlo hpv.out (by omega) b1).mono ?_
                rintro en w3 ⟨rfl, hx1, hst1⟩
                have hA2 := hA1.still hst1
                clear hx1 hst1 hA1
                go_wp2_with fail
                refine (lessP b n lo (i + 2) _ f (S lo) false _ hn hA2.strs (by omega) hlo hpv.out (by omega) b2').mono ?_
                rintro en w4 ⟨rfl, hx2, hst2⟩
                have hA3 := hA2.still hst2
                clear hx2 hst2 hA2
                go_wp2
                go_meet
                case rel => go_light; exact ⟨i + 2, by go_num, ((hA3.passL (by omega) (by omega) b0).passL (by omega) (by omega) b1), ⟨by omega, .inr ⟨by omega, b2'⟩⟩⟩
            · have b1' : ltb (f (i + 1)) (S lo) = false := by simpa using b1
              go_wp2_with fail
              refine (lessP b n lo (i) _ f (S lo) true _ hn hA0.strs (by omega) hlo hpv.out (by omega) b0).mono ?_
              rintro en w2 ⟨rfl, hx0, hst0⟩
              have hA1 := hA0.still hst0
              clear hx0 hst0 hA0
              go_wp2_with fail
              refine (lessP b n lo (i + 1) _ f (S lo) false _ hn hA1.strs (by omega) hlo hpv.out (by omega) b1').mono ?_
              rintro en w3 ⟨rfl, hx1, hst1⟩
              have hA2 := hA1.still hst1
              clear hx1 hst1 hA1
              go_wp2
              go_meet
              case rel => go_light; exact ⟨i + 1, by go_num, (hA2.passL (by omega) (by omega) b0), ⟨by omega, .inr ⟨by omega, b1'⟩⟩⟩
          · have b0' : ltb (f i) (S lo) = false := by simpa using b0
            go_wp2_with fail
            refine (lessP b n lo (i) _ f (S lo) false _ hn hA0.strs (by omega) hlo hpv.out (by omega) b0').mono ?_
            rintro en w2 ⟨rfl, hx0, hst0⟩
            have hA1 := hA0.still hst0
            clear hx0 hst0 hA0
            go_wp2
            go_meet
            case rel => go_light; exact ⟨i, rfl, hA1, ⟨by omega, .inr ⟨by omega, b0'⟩⟩⟩
        · have d4 : (eH : Int) - 1 - (i : Int) < 3 := by omega
          go_wp2_with fail
          go_loopg [2] (eH - i) (fun gk i' wx => ∃ i : Nat, gk = eH - i ∧ i' = .int .i64 i ∧ At w wx b n S (S lo) i0 e0 i0 e0 i eH t f ∧ iH ≤ i)
          case atStart => exact ⟨i, rfl, rfl, hA0, hii⟩
          case round =>
            clear hA0
            obtain ⟨i, rfl, rfl, hA0, hii⟩ := hrel
            have q1 := hA0.inv.h0
            have q2 := hA0.inv.hX
            have q5 := hA0.inv.hie
            by_cases hlt : i < eH
            · have hlz : (i : Int) ≤ (eH : Int) - 1 := by omega
              by_cases b0 : ltb (f i) (S lo) = true
              · skip
                go_wp2_with fail
                refine (lessP b n lo (i) _ f (S lo) true _ hn hA0.strs (by omega) hlo hpv.out (by omega) b0).mono ?_
                rintro en w2 ⟨rfl, hx0, hst0⟩
                have hA1 := hA0.still hst0
                clear hx0 hst0 hA0
                go_wp2
                go_roundg (eH - (i + 1))
                case measure => go_light; omega
                case rel => go_light; exact ⟨i + 1, rfl, by go_num, hA1.passL (by omega) (by omega) b0, by omega⟩
              · have b0' : ltb (f i) (S lo) = false := by simpa using b0
                go_wp2_with fail
                refine (lessP b n lo (i) _ f (S lo) false _ hn hA0.strs (by omega) hlo hpv.out (by omega) b0').mono ?_
                rintro en w2 ⟨rfl, hx0, hst0⟩
                have hA1 := hA0.still hst0
                clear hx0 hst0 hA0
                go_wp2
                go_meet
                case rel => go_light; exact ⟨i, rfl, hA1, ⟨by omega, .inr ⟨by omega, b0'⟩⟩⟩
            · have hlz : ¬ (i : Int) ≤ (eH : Int) - 1 := by omega
              go_wp2
              go_meet
              case rel => go_light; exact ⟨i, rfl, hA0, ⟨by omega, .inl (by omega)⟩⟩
    case rest =>
      obtain ⟨i, rfl, hA, HE⟩ := hcut
      obtain ⟨hii, hEl⟩ := HE.out
      clear HE
      have HEl : Hid (i = eH ∨ (i < eH ∧ ltb (f i) (S lo) = false)) := hEl
      clear hEl
      have p1 := hA.inv.h0
      have p2 := hA.inv.hX
      have p5 := hA.inv.hie
      go_upto_block 6 with fail
      go_cut [3] (fun j' wx => ∃ e : Nat, j' = .int .i64 ((e : Int) - 1) ∧ At w wx b n S (S lo) i0 e0 i0 e0 i e t f ∧ Hid (e ≤ eH ∧ (e ≤ i + 1 ∨ ∃ d, e = d + 1 ∧ i + 1 ≤ d ∧ ltb (f d) (S lo) = true)))
      case first =>
        go_wp2_with fail
        go_loopg [3] (eH - (i + 1)) (fun gk j' wx => ∃ e : Nat, gk = e - (i + 1) ∧ j' = .int .i64 ((e : Int) - 1) ∧ At w wx b n S (S lo) i0 e0 i0 e0 i e t f ∧ e ≤ eH)
        case atStart => exact ⟨eH, rfl, rfl, hA, Nat.le_refl _⟩
        case round =>
          clear hA
          obtain ⟨e, rfl, rfl, hA0, hee⟩ := hrel
          have q3 := hA0.inv.hY
          have q4 := hA0.inv.he
          have q5 := hA0.inv.hie
          by_cases h4 : i + 1 + 4 ≤ e
          · obtain ⟨d, rfl⟩ : ∃ d, e = d + 4 := ⟨e - 4, by omega⟩
            have d4 : ¬ (((d + 4 : Nat) : Int) - 1 - (i : Int) < 4) := by omega
            have hd0 : i + 1 ≤ d := by omega
            by_cases b0 : ltb (f (d + 3)) (S lo) = true
            · skip
              go_wp2_with fail
              refine (lessP b n lo (d + 3) _ f (S lo) true _ hn hA0.strs (by omega) hlo hpv.out (by omega) b0).mono ?_
              rintro en w2 ⟨rfl, hx0, hst0⟩
              have hA1 := hA0.still hst0
              clear hx0 hst0 hA0
              go_wp2
              go_meet
              case rel => go_light; exact ⟨d + 4, by go_num, hA1, ⟨by omega, .inr ⟨d + 3, rfl, by omega, b0⟩⟩⟩
            · have b0' : ltb (f (d + 3)) (S lo) = false := by simpa using b0
              by_cases b1 : ltb (f (d + 2)) (S lo) = true
              · skip
                go_wp2_with fail
                refine (lessP b n lo (d + 3) _ f (S lo) false _ hn hA0.strs (by omega) hlo hpv.out (by omega) b0').mono ?_
                rintro en w2 ⟨rfl, hx0, hst0⟩
                have hA1 := hA0.still hst0
                clear hx0 hst0 hA0
                go_wp2_with fail
                refine (lessP b n lo (d + 2) _ f (S lo) true _ hn hA1.strs (by omega) hlo hpv.out (by omega) b1).mono ?_
                rintro en w3 ⟨rfl, hx1, hst1⟩
                have hA2 := hA1.still hst1
                clear hx1 hst1 hA1
                go_wp2
                go_meet
                case rel => go_light; exact ⟨d + 3, by go_num, (hA2.passR (by omega) (by omega) b0'), ⟨by omega, .inr ⟨d + 2, rfl, by omega, b1⟩⟩⟩
              · have b1' : ltb (f (d + 2)) (S lo) = false := by simpa using b1
                by_cases b2 : ltb (f (d + 1)) (S lo) = true
                · skip
                  go_wp2_with fail
                  refine (lessP b n lo (d + 3) _ f (S lo) false _ hn hA0.strs (by omega) hlo hpv.out (by omega) b0').mono ?_
                  rintro en w2 ⟨rfl, hx0, hst0⟩
                  have hA1 := hA0.still hst0
                  clear hx0 hst0 hA0
                  go_wp2_with fail
                  refine (lessP b n lo (d + 2) _ f (S lo) false _ hn hA1.strs (by omega) hlo hpv.out (by omega) b1').mono ?_
                  rintro en w3 ⟨rfl, hx1, hst1⟩
                  have hA2 := hA1.still hst1
                  clear hx1 hst1 hA1
                  go_wp2_with fail
                  refine (lessP b n lo (d + 1) _ f (S lo) true _ hn hA2.strs (by omega) hlo hpv.out (by omega) b2).mono ?_
                  rintro en w4 ⟨rfl, hx2, hst2⟩
                  have hA3 := hA2.still hst2
                  clear hx2 hst2 hA2
                  go_wp2
                  go_meet
                  case rel => go_light; exact ⟨d + 2, by go_num, ((hA3.passR (by omega) (by omega) b0').passR (by omega) (by omega) b1'), ⟨by omega, .inr ⟨d + 1, rfl, by omega, b2⟩⟩⟩
                · have b2' : ltb (f (d + 1)) (S lo) = false := by simpa using b2
                  by_cases b3 : ltb (f d) (S lo) = true
                  · skip
                    go_wp2_with fail
                    refine (lessP b n lo (d + 3) _ f (S lo) false _ hn hA0.strs (by omega) hlo hpv.out (by omega) b0').mono ?_
                    rintro en w2 ⟨rfl, hx0, hst0⟩
                    have hA1 := hA0.still hst0
                    clear hx0 hst0 hA0
                    go_wp2_with fail
                    refine (lessP b n lo (d + 2) _ f (S lo) false _ hn hA1.strs (by omega) hlo hpv.out (by omega) b1').mono ?_
                    rintro en w3 ⟨rfl, hx1, hst1⟩
                    have hA2 := hA1.still hst1
                    clear hx1 hst1 hA1
                    go_wp2_with fail
                    refine (lessP b n lo (d + 1) _ f (S lo) false _ hn hA2.strs (by omega) hlo hpv.out (by omega) b2').mono ?_
                    rintro en w4 ⟨rfl, hx2, hst2⟩
                    have hA3 := hA2.still hst2
                    clear hx2 hst2 hA2
                    go_wp2_with fail
                    refine (lessP b n lo (d) _ f (S lo) true _ hn hA3.strs (by omega) hlo hpv.out (by omega) b3).mono ?_
                    rintro en w5 ⟨rfl, hx3, hst3⟩
                    have hA4 := hA3.still hst3
                    clear hx3 hst3 hA3
                    go_wp2
                    go_meet
                    case rel => go_light; exact ⟨d + 1, by go_num, (((hA4.passR (by omega) (by omega) b0').passR (by omega) (by omega) b1').passR (by omega) (by omega) b2'), ⟨by omega, .inr ⟨d, rfl, by omega, b3⟩⟩⟩
                  · have b3' : ltb (f d) (S lo) = false := by simpa using b3
                    go_wp2_with fail
                    refine (lessP b n lo (d + 3) _ f (S lo) false _ hn hA0.strs (by omega) hlo hpv.out (by omega) b0').mono ?_
                    rintro en w2 ⟨rfl, hx0, hst0⟩
                    have hA1 := hA0.still hst0
                    clear hx0 hst0 hA0
                    go_wp2_with fail
                    refine (lessP b n lo (d + 2) _ f (S lo) false _ hn hA1.strs (by omega) hlo hpv.out (by omega) b1').mono ?_
                    rintro en w3 ⟨rfl, hx1, hst1⟩
                    have hA2 := hA1.still hst1
                    clear hx1 hst1 hA1
                    go_wp2_with fail
                    refine (lessP b n lo (d + 1) _ f (S lo) false _ hn hA2.strs (by omega) hlo hpv.out (by omega) b2').mono ?_
                    rintro en w4 ⟨rfl, hx2, hst2⟩
                    have hA3 := hA2.still hst2
                    clear hx2 hst2 hA2
                    go_wp2_with fail
                    refine (lessP b n lo (d) _ f (S lo) false _ hn hA3.strs (by omega) hlo hpv.out (by omega) b3').mono ?_
                    rintro en w5 ⟨rfl, hx3, hst3⟩
                    have hA4 := hA3.still hst3
                    clear hx3 hst3 hA3
                    go_wp2
                    go_roundg (d - (i + 1))
                    case measure => go_light; omega
                    case rel => go_light; exact ⟨d, rfl, by go_num, ((((hA4.passR (by omega) (by omega) b0').passR (by omega) (by omega) b1').passR (by omega) (by omega) b2').passR (by omega) (by omega) b3'), by omega⟩
          · have d4 : (e : Int) - 1 - (i : Int) < 4 := by omega
            go_wp2_with fail
            go_loopg [3] (e - (i + 1)) (fun gk j' wx => ∃ e : Nat, gk = e - (i + 1) ∧ j' = .int .i64 ((e : Int) - 1) ∧ At w wx b n S (S lo) i0 e0 i0 e0 i e t f ∧ e ≤ eH)
            case atStart => exact ⟨e, rfl, rfl, hA0, hee⟩
            case round =>
              clear hA0
              obtain ⟨e, rfl, rfl, hA0, hee⟩ := hrel
              have q3 := hA0.inv.hY
              have q4 := hA0.inv.he
              have q5 := hA0.inv.hie
              by_cases hlt : i + 1 < e
              · obtain ⟨d, rfl⟩ : ∃ d, e = d + 1 := ⟨e - 1, by omega⟩
                have hlz : (i : Int) < ((d + 1 : Nat) : Int) - 1 := by omega
                by_cases b0 : ltb (f d) (S lo) = true
                · skip
                  go_wp2_with fail
                  refine (lessP b n lo (d) _ f (S lo) true _ hn hA0.strs (by omega) hlo hpv.out (by omega) b0).mono ?_
                  rintro en w2 ⟨rfl, hx0, hst0⟩
                  have hA1 := hA0.still hst0
                  clear hx0 hst0 hA0
                  go_wp2
                  go_meet
                  case rel => go_light; exact ⟨d + 1, by go_num, hA1, ⟨by omega, .inr ⟨d, rfl, by omega, b0⟩⟩⟩
                · have b0' : ltb (f d) (S lo) = false := by simpa using b0
                  go_wp2_with fail
                  refine (lessP b n lo (d) _ f (S lo) false _ hn hA0.strs (by omega) hlo hpv.out (by omega) b0').mono ?_
                  rintro en w2 ⟨rfl, hx0, hst0⟩
                  have hA1 := hA0.still hst0
                  clear hx0 hst0 hA0
                  go_wp2
                  go_roundg (d - (i + 1))
                  case measure => go_light; omega
                  case rel => go_light; exact ⟨d, rfl, by go_num, hA1.passR (by omega) (by omega) b0', by omega⟩
              · have hlz : ¬ (i : Int) < (e : Int) - 1 := by omega
                go_wp2
                go_meet
                case rel => go_light; exact ⟨e, rfl, hA0, ⟨by omega, .inl (by omega)⟩⟩
      case rest =>
        obtain ⟨e, rfl, hA, HE⟩ := hcut
        obtain ⟨hee, hE⟩ := HE.out
        clear HE
        have p3 := hA.inv.hY
        have p4 := hA.inv.he
        have p6 := hA.inv.hie
        rcases hE with hE | ⟨d, rfl, hFd, hbd⟩
        · have hz : (e : Int) - 1 ≤ (i : Int) := by omega
          have HA : Hid (At w wc b n S (S lo) i0 e0 i0 e0 i i t f) := by
            show At w wc b n S (S lo) i0 e0 i0 e0 i i t f
            by_cases e1 : e = i
            · subst e1; exact hA
            · obtain rfl : e = i + 1 := by omega
              rcases HEl.out with h1 | ⟨_, h1⟩
              · omega
              · exact hA.passR (by omega) (Nat.le_refl _) h1
          clear hA
          go_wp2
          go_ret
          exact ⟨i, t, f, rfl, HA.out⟩
        · have hbi : ltb (f i) (S lo) = false := by
            rcases HEl.out with h1 | ⟨_, h1⟩
            · omega
            · exact h1
          have C25 := swap25 b n i d f _ hn hA.strs (by omega) (by omega) (by omega)
          have hinv := hA.inv.swap (by omega) (by omega) (by omega) hbi hbd
          have hon := hA.only
          have hdd : ((d + 1 : Nat) : Int) - 1 = (d : Int) := by omega
          have hz : ¬ ((d : Int) ≤ (i : Int)) := by omega
          clear hA HEl
          rw [hdd]
          go_wp2_with fail
          refine C25.mono ?_
          rintro en w9 ⟨rfl, hs9, ho9⟩
          clear C25
          go_wp2
          go_roundg (d - (i + 1))
          case measure => go_light; omega
          case rel => go_light; exact ⟨i + 1, d, t + 1, swapF f i d, rfl, by go_num, rfl, ⟨hs9, hinv, hon.trans ho9⟩⟩

/-- 14: the shim -/
theorem apart14 (b n lo i0 L F e0 : Nat) (S : Nat → ByteArray) (w : World) (hn : n ≤ 65536) (h : Strs w b n S) (hlo : lo < n) (h0 : i0 ≤ L) (hLF : L ≤ F) (hF : F ≤ e0) (he : e0 ≤ n) (hlo1 : lo < i0 ∨ L ≤ lo) (hlo2 : lo < F ∨ e0 ≤ lo) :
    Calls Try.prog 14 #[.slice (some ⟨b, 0, none⟩) n n, .int .i64 lo, .int .i64 i0, .int .i64 ((e0 : Int) - 1), .int .i64 ((L : Int) - 1), .int .i64 ((F : Int) - 1)] w fun en w' => Post21 b n lo i0 L F e0 S w en w' := by
  have H := apart21 b n lo i0 L F e0 S w hn h hlo h0 hLF hF he hlo1 hlo2
  clear h
  go_enter Try.func14, Try.ntmps14
  go_wp2_with fail
  refine H.mono ?_
  rintro en w' ⟨i, e, t, f, rfl, hP⟩
  go_wp2
  go_ret2
  exact ⟨i, e, t, f, rfl, hP⟩

/-- 11: the shim -/
theorem scan11 (b n lo i0 e0 : Nat) (S : Nat → ByteArray) (w : World) (hn : n ≤ 65536) (h : Strs w b n S) (hlo : lo < n) (h0 : i0 ≤ e0) (he : e0 ≤ n) (hlo1 : lo < i0 ∨ e0 ≤ lo) :
    Calls Try.prog 11 #[.slice (some ⟨b, 0, none⟩) n n, .int .i64 lo, .int .i64 i0, .int .i64 ((e0 : Int) - 1)] w fun en w' => Post20 b n lo i0 e0 S w en w' := by
  have H := scan20 b n lo i0 e0 S w hn h hlo h0 he hlo1
  clear h
  go_enter Try.func11, Try.ntmps11
  go_wp2_with fail
  refine H.mono ?_
  rintro en w' ⟨i, t, f, rfl, hP⟩
  go_wp2
  go_ret
  exact ⟨i, t, f, rfl, hP⟩
end Go.Proofs.Qxb6603709a
