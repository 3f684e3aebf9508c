/-
  THE WALK of FnScanStringSliceMatchesPairedSwaps (3).
-/
import Derived.Test.Qxb6603709aIntRows
set_option linter.unusedVariables false
namespace Go.Proofs.Qxb6603709a
open Go.RowKit ScanMath
namespace Scan

theorem paired_unique {NB BF : List Nat} {t t' : Nat} (h : Paired NB BF t) (h' : Paired NB BF t') : t = t' := by
  rcases Nat.lt_trichotomy t t' with c | c | c
  · exact absurd (h'.lo t c) h.stop
  · exact c
  · exact absurd (h.lo t' c) h'.stop

set_option maxRecDepth 100000 in
set_option maxHeartbeats 8000000 in
theorem core (a : Option Addr) (b off len cap : Nat) (S : Nat → ByteArray) (lo i j : Int) (w : World) (h1 : Came w a b off len cap S) (hl : len ≤ maxLen)
    (blo : -9223372036854775808 ≤ lo ∧ lo ≤ 9223372036854775807) (bi : -9223372036854775808 ≤ i ∧ i ≤ 9223372036854775807) (bj : -9223372036854775808 ≤ j ∧ j ≤ 9223372036854775807) :
    Calls Try.prog 3 #[.slice a len cap, .int .i64 lo, .int .i64 i, .int .i64 j] w fun e w' => e = .returned (.bool true) ∧ Below w.heap.size w w' := by
  have CB := bytes7 a b off len cap S lo i j w h1 hl
  unfold maxLen at hl
  have C8 : len ≤ 65536 → _ := fun h => ok8 a b off len cap S w h1 h
  go_enter Try.func3, Try.ntmps3
  go_wp2_with fail
  refine CB.mono ?_
  rintro e w' ⟨r, rfl, hw⟩
  rw [hw]; clear hw CB
  cases r
  · skip
    go_wp2
    go_ret
    exact ⟨rfl, Below.refl _ _⟩
  by_cases hlen : len ≤ 65536
  case neg =>
    skip
    have hz : (len : Int) > 65536 := by omega
    go_wp2
    go_ret
    exact ⟨rfl, Below.refl _ _⟩
  have hz : ¬ (len : Int) > 65536 := by omega
  go_wp2_with fail
  refine (C8 hlen).mono ?_
  rintro e w' ⟨r, rfl, hw⟩
  rw [hw]; clear hw C8
  cases r
  · skip
    go_wp2
    go_ret
    exact ⟨rfl, Below.refl _ _⟩
  by_cases hgood : (0 ≤ lo ∧ lo < len) ∧ (0 ≤ i ∧ j < len ∧ i - 1 ≤ j) ∧ (lo < i ∨ j < lo)
  case neg =>
    skip
    go_wp2_with fail
    all_goals try (go_ret; exact ⟨rfl, Below.refl _ _⟩)
    all_goals (exfalso; apply hgood; omega)
  obtain ⟨⟨g1, g2⟩, ⟨g3, g4, g5⟩, g9⟩ := hgood
  obtain ⟨lo0, rfl⟩ : ∃ k : Nat, lo = (k : Int) := ⟨lo.toNat, by omega⟩
  obtain ⟨i0, rfl⟩ : ∃ k : Nat, i = (k : Int) := ⟨i.toNat, by omega⟩
  obtain ⟨e0, rfl⟩ : ∃ k : Nat, j = (k : Int) - 1 := ⟨(j + 1).toNat, by omega⟩
  obtain ⟨x, rfl⟩ : ∃ x, a = some x := ⟨_, h1.at' (by omega)⟩
  clear blo bi bj
  go_upto_region 12 with fail
  go_cut [60] from 19 to 60 (fun v wx => v = .bool false ∧ wx = w)
  case first =>
    skip
    by_cases g : (lo0 : Int) < (i0 : Int)
    · go_wp2_with fail
      go_meet
      case rel => exact ⟨rfl, rfl⟩
    · go_wp2_with fail
      go_meet
      case rel => exact ⟨by rw [decide_eq_false (by omega)], rfl⟩
  case rest =>
  obtain ⟨rfl, hw⟩ := hcut
  rw [hw]; clear hw
  have C9 := clone9 x b off len cap S w hlen h1
  go_wp2_with fail
  refine C9.mono ?_
  rintro e w1 ⟨rfl, B1, R1⟩
  clear C9 h1
  have C9 := clone9 _ _ _ _ _ S w1 hlen R1.came
  go_wp2_with fail
  refine C9.mono ?_
  rintro e w2 ⟨rfl, B2, R2⟩
  clear C9
  have hb1 : w.heap.size < w1.heap.size := World.rowIs.lt R1.row
  have hb2 : w1.heap.size < w2.heap.size := World.rowIs.lt R2.row
  have R1a := R1.below B2 hb1
  have g0 := R2.row.cell (i := lo0) (by omega)
  have zlo : (lo0 : Int) < (len : Int) := by omega
  have HB0 : Hid (Below w.heap.size w w2) := B1.trans (B2.mono (Nat.le_of_lt hb1))
  clear R1 B1 B2
  obtain ⟨ti, hti, hz0, hz1, hz2⟩ := info_parts Try.info3
  go_wp2_with fail
  go_loopg [12, 13] (e0 - i0) (fun g v p wr => ∃ (w4 : World) (k : Nat), w4 = wr ∧ i0 ≤ k ∧ k ≤ e0 ∧ g = e0 - k ∧ p = .int .i64 k ∧ Ints w4 w2.heap.size v (nbL (fun p => ltb (S p) (S lo0)) i0 k) ∧ Below w2.heap.size w2 w4)
  case atStart => exact ⟨_, i0, rfl, Nat.le_refl _, by omega, rfl, rfl, by rw [nb_self]; exact Ints.nil _ _, Below.refl _ _⟩
  case round =>
    obtain ⟨w4, k, rfl, hk0, hk, rfl, rfl, hO, hB⟩ := hrel
    have hBs := hB.size
    by_cases hlt : k < e0
    · skip
      have hlz : (k : Int) ≤ (e0 : Int) - 1 := by omega
      have hkz : (k : Int) < (len : Int) := by omega
      have gk := (R2.below hB hb2).row.cell (i := k) (by omega)
      have hln := nb_len (B := fun p => ltb (S p) (S lo0)) hk0
      clear R1a g0
      by_cases c : ltb (S k) (S lo0) = true
      · have c' : Op.bytesLess (S k).toList (S lo0).toList = true := c
        go_wp2
        go_roundg (e0 - (k + 1))
        case measure => go_light; omega
        case rel => go_light; exact ⟨_, k + 1, rfl, by omega, by omega, rfl, by go_num, by rw [nb_no hk0 c]; exact hO, hB⟩
      · have c' : Op.bytesLess (S k).toList (S lo0).toList = false := Bool.eq_false_iff.2 c
        go_wp2_with (at_builtin; refine wpList_append_own _ rfl _ _ 26 rfl w2.heap.size 3 ti _ 1 8 Try.underlying26 hti hz0 hz1 hz2 rfl (by decide) _ _ _ rfl (World.ownsRow.alloc hO _) ⟨w4.heap.size, 0, none⟩ 1 1 [.int .i64 k] rfl rfl (by exact cell_new w4 _ _) (by exact ones1 _) (by unfold maxLen; omega) (by omega) (by simp; omega) ?_; intro v' w' hown' hgrow _; obtain ⟨r1, r2⟩ := ints_step _ (Nat.le_refl _) hO hB hown' hgrow; clear hown' hgrow hO hB)
        go_roundg (e0 - (k + 1))
        case measure => go_light; omega
        case rel => go_light; exact ⟨_, k + 1, rfl, by omega, by omega, rfl, by go_num, by rw [nb_yes hk0 c']; exact r1, r2⟩
    · have hlz : ¬ (k : Int) ≤ (e0 : Int) - 1 := by omega
      have hkX : e0 = k := by omega
      subst hkX
      obtain ⟨a1, gN, cN, hv, hN⟩ := Ints.at hO
      have HNm : Hid (∀ t, t < (nbL (fun p => ltb (S p) (S lo0)) i0 e0).length → (nbL (fun p => ltb (S p) (S lo0)) i0 e0).getD t 0 < e0) := fun t ht => (mem_nb.1 (getD_mem ht)).2.1
      have HNl : (nbL (fun p => ltb (S p) (S lo0)) i0 e0).length ≤ 65536 := by have := nb_len (B := fun p => ltb (S p) (S lo0)) hk0; omega
      clear hO
      generalize hNB : nbL (fun p => ltb (S p) (S lo0)) i0 e0 = NB at hv hN HNm HNl
      have HNB : Hid _ := hNB
      clear hNB
      subst hv
      have R2b := R2.below hB hb2
      have R1b := R1a.below hB (by omega)
      have HB1 : Hid (Below w.heap.size w w4) := HB0.out.trans (hB.mono (by omega))
      clear R2 R1a HB0 hB g0
      go_wp2_with fail
      go_loopg [14, 15] (e0 - i0) (fun g v p wr => ∃ (w5 : World) (m : Nat), w5 = wr ∧ i0 ≤ m ∧ m ≤ e0 ∧ g = m - i0 ∧ p = .int .i64 ((m : Int) - 1) ∧ Ints w5 w4.heap.size v (bfL (fun p => ltb (S p) (S lo0)) m e0) ∧ Below w4.heap.size w4 w5)
      case atStart => exact ⟨_, e0, rfl, by omega, Nat.le_refl _, rfl, rfl, by rw [bf_self]; exact Ints.nil _ _, Below.refl _ _⟩
      case round =>
        obtain ⟨w5, m, rfl, hm0, hm, rfl, rfl, hO, hB⟩ := hrel
        have hBt := hB.size
        by_cases hmt : i0 < m
        · skip
          obtain ⟨d, rfl⟩ : ∃ d, m = d + 1 := ⟨m - 1, by omega⟩
          have hdz : ((d + 1 : Nat) : Int) - 1 = (d : Int) := by omega
          rw [hdz]
          have hmz : (i0 : Int) ≤ (d : Int) := by omega
          have hkz : (d : Int) < (len : Int) := by omega
          have gk := (R2b.below hB (by omega)).row.cell (i := d) (by omega)
          have hln := bf_len (B := fun p => ltb (S p) (S lo0)) hm
          clear R1b R2b hN
          by_cases c : ltb (S d) (S lo0) = true
          · have c' : Op.bytesLess (S d).toList (S lo0).toList = true := c
            go_wp2_with (at_builtin; refine wpList_append_own _ rfl _ _ 26 rfl w4.heap.size 3 ti _ 1 8 Try.underlying26 hti hz0 hz1 hz2 rfl (by decide) _ _ _ rfl (World.ownsRow.alloc hO _) ⟨w5.heap.size, 0, none⟩ 1 1 [.int .i64 d] rfl rfl (by exact cell_new w5 _ _) (by exact ones1 _) (by unfold maxLen; omega) (by omega) (by simp; omega) ?_; intro v' w' hown' hgrow _; obtain ⟨r1, r2⟩ := ints_step _ (Nat.le_refl _) hO hB hown' hgrow; clear hown' hgrow hO hB)
            go_roundg (d - i0)
            case measure => go_light; omega
            case rel => go_light; exact ⟨_, d, rfl, by omega, by omega, rfl, rfl, by rw [bf_yes (by omega) c']; exact r1, r2⟩
          · have c' : Op.bytesLess (S d).toList (S lo0).toList = false := Bool.eq_false_iff.2 c
            go_wp2
            go_roundg (d - i0)
            case measure => go_light; omega
            case rel => go_light; exact ⟨_, d, rfl, by omega, by omega, rfl, rfl, by rw [bf_no (by omega) c']; exact hO, hB⟩
        · have hmY : i0 = m := by omega
          subst hmY
          have hmz : ¬ (i0 : Int) ≤ (i0 : Int) - 1 := by omega
          obtain ⟨a2, gF, cF, hv, hF⟩ := Ints.at hO
          have HFm : Hid (∀ t, t < (bfL (fun p => ltb (S p) (S lo0)) i0 e0).length → i0 ≤ (bfL (fun p => ltb (S p) (S lo0)) i0 e0).getD t 0 ∧ (bfL (fun p => ltb (S p) (S lo0)) i0 e0).getD t 0 < e0) := fun t ht => ⟨(mem_bf.1 (getD_mem ht)).1, (mem_bf.1 (getD_mem ht)).2.1⟩
          have HFl : (bfL (fun p => ltb (S p) (S lo0)) i0 e0).length ≤ 65536 := by have := bf_len (B := fun p => ltb (S p) (S lo0)) hm; omega
          clear hO
          generalize hBF : bfL (fun p => ltb (S p) (S lo0)) i0 e0 = BF at hv hF HFm HFl
          have HBF : Hid _ := hBF
          clear hBF
          subst hv
          have R2c := R2b.below hB (by omega)
          have R1c := R1b.below hB (by omega)
          have HB2 : Hid (Below w.heap.size w w5) := HB1.out.trans (hB.mono (by omega))
          have hN5 := hN.below hB (Nat.le_refl _)
          clear R2b R1b HB1 hB hN
          have C9 := clone9 _ _ _ _ _ S w5 hlen R2c.came
          go_wp2_with fail
          refine C9.mono ?_
          rintro e w6 ⟨rfl, B6, R6⟩
          clear C9
          have hb6 : w5.heap.size < w6.heap.size := World.rowIs.lt R6.row
          have R1d := R1c.below B6 (by omega)
          have hN6 := hN5.below B6 (Nat.le_refl _)
          have hF6 := hF.below B6 (Nat.le_refl _)
          have HNg : Hid (0 < NB.length → gN ≠ w5.heap.size) := fun h => by have := hN5.lt h; omega
          have HFg : Hid (0 < BF.length → gF ≠ w5.heap.size) := fun h => by have := hF.lt h; omega
          have HB3 : Hid (Below w.heap.size w w6) := HB2.out.trans (B6.mono (by omega))
          clear R2c R1c hN5 hF HB2 B6
          go_wp2_with fail
          go_loopg [17] NB.length (fun g p wr => ∃ (w7 : World) (t : Nat), w7 = wr ∧ t ≤ NB.length ∧ g = NB.length - t ∧ p = .int .i64 t ∧ (∀ t', t' < t → (t' < NB.length ∧ t' < BF.length ∧ NB.getD t' 0 < BF.getD t' 0)) ∧ Strs w7 w5.heap.size len (swN NB BF S t) ∧ Only w5.heap.size w6 w7)
          case atStart => exact ⟨_, 0, rfl, Nat.zero_le _, rfl, rfl, fun t' h => absurd h (Nat.not_lt_zero _), R6, Only.refl _ _⟩
          case round =>
            obtain ⟨w7, t, rfl, ht, rfl, rfl, hlo, hW, hO7⟩ := hrel
            have HLO : Hid (∀ t', t' < t → (t' < NB.length ∧ t' < BF.length ∧ NB.getD t' 0 < BF.getD t' 0)) := hlo
            clear R6 hlo
            have hN7 := hN6.only hO7 HNg.out
            have hF7 := hF6.only hO7 HFg.out
            go_upto_region 31 with fail
            go_cut [124] from 104 to 136 (fun v wx => Still w7 wx ∧ v = .bool (decide ((t < NB.length ∧ t < BF.length ∧ NB.getD t 0 < BF.getD t 0))))
            case first =>
              skip
              clear hW R1d hO7 hN6 hF6
              by_cases c1 : t < NB.length
              · have d1 : (t : Int) < (NB.length : Int) := by omega
                by_cases c2 : t < BF.length
                · have d2 : (t : Int) < (BF.length : Int) := by omega
                  have e1 := hN7.cell t c1
                  have e2 := hF7.cell t c2
                  obtain rfl := hN7.at' (by omega)
                  obtain rfl := hF7.at' (by omega)
                  clear hN7 hF7
                  obtain ⟨xN, hxN⟩ : ∃ q, NB.getD t 0 = q := ⟨_, rfl⟩
                  obtain ⟨xF, hxF⟩ : ∃ q, BF.getD t 0 = q := ⟨_, rfl⟩
                  rw [hxN] at e1
                  rw [hxF] at e2
                  have HxN : Hid (NB.getD t 0 = xN) := hxN
                  have HxF : Hid (BF.getD t 0 = xF) := hxF
                  clear hxN hxF
                  by_cases c3 : xN < xF
                  · have d3 : decide ((xN : Int) < (xF : Int)) = true := decide_eq_true (by omega)
                    go_quiet (fail)
                    go_wp2
                    go_meet
                    case rel => exact ⟨by repeat (first | exact Still.refl _ | apply Still.drewN | apply Still.drew), by rw [decide_eq_true ⟨c1, c2, by rw [HxN.out, HxF.out]; exact c3⟩]⟩
                  · have d3 : decide ((xN : Int) < (xF : Int)) = false := decide_eq_false (by omega)
                    go_quiet (fail)
                    go_wp2
                    go_meet
                    case rel => exact ⟨by repeat (first | exact Still.refl _ | apply Still.drewN | apply Still.drew), by rw [decide_eq_false (fun h => by have := h.2.2; rw [HxN.out, HxF.out] at this; exact c3 this)]⟩
                · have d2 : decide ((t : Int) < (BF.length : Int)) = false := decide_eq_false (by omega)
                  go_quiet (fail)
                  go_wp2
                  go_meet
                  case rel => exact ⟨by repeat (first | exact Still.refl _ | apply Still.drewN | apply Still.drew), by rw [decide_eq_false (by omega)]⟩
              · have d1 : decide ((t : Int) < (NB.length : Int)) = false := decide_eq_false (by omega)
                go_quiet (fail)
                go_wp2
                go_meet
                case rel => exact ⟨by repeat (first | exact Still.refl _ | apply Still.drewN | apply Still.drew), by rw [decide_eq_false (by omega)]⟩
            case rest =>
            obtain ⟨hS8, rfl⟩ := hcut
            by_cases c : (t < NB.length ∧ t < BF.length ∧ NB.getD t 0 < BF.getD t 0)
            · skip
              rw [decide_eq_true c]
              have d1 : (t : Int) < (NB.length : Int) := by omega
              have d2 : (t : Int) < (BF.length : Int) := by omega
              have c1 := hN7.cell t (by omega)
              have c2 := hF7.cell t (by omega)
              have n1 := HNm.out t (by omega)
              have n2 := HFm.out t (by omega)
              have e1 := (hS8.cell _).trans c1
              have e2 := (hS8.cell _).trans c2
              obtain rfl := hN7.at' (by omega)
              obtain rfl := hF7.at' (by omega)
              have HW : Hid (Strs wc w5.heap.size len (swN NB BF S t)) := hW.still hS8
              have HO : Hid (Only w5.heap.size w6 wc) := hO7.still hS8
              clear hW hO7 hN6 hF6 hN7 hF7 c1 c2 hS8 R1d
              have HC : Hid ((t < NB.length ∧ t < BF.length ∧ NB.getD t 0 < BF.getD t 0)) := c
              obtain ⟨xN, hxN⟩ : ∃ q, NB.getD t 0 = q := ⟨_, rfl⟩
              obtain ⟨xF, hxF⟩ : ∃ q, BF.getD t 0 = q := ⟨_, rfl⟩
              rw [hxN] at e1 n1
              rw [hxF] at e2 n2
              have hxx : xN < xF := by omega
              have HxN : Hid (NB.getD t 0 = xN) := hxN
              have HxF : Hid (BF.getD t 0 = xF) := hxF
              clear hxN hxF c
              go_wp2_with fail
              go_region_with (go_at_call 10; refine (swap10 w5.heap.size len xN xF (swN NB BF S t) _ hlen ?_ (by omega) (by omega) (by omega)).mono ?_; exact HW.out.still (by repeat (first | exact Still.refl _ | apply Still.drewN | apply Still.drew)); rintro e w9 ⟨rfl, hs9, ho9⟩)
              all_goals
                go_wp2
                go_roundg (NB.length - (t + 1))
                case measure => go_light; omega
                case rel =>
                  go_light
                  exact ⟨_, t + 1, rfl, by omega, rfl, by go_num, fun t' h => by
                    by_cases e : t' = t
                    · rw [e]; exact HC.out
                    · exact HLO.out t' (by omega), hs9.congr (by rw [← HxN.out, ← HxF.out]; rfl), (HO.out.still (by repeat (first | exact Still.refl _ | apply Still.drewN | apply Still.drew))).trans ho9⟩
            · rw [decide_eq_false c]
              have R1e := (R1d.only hO7 (by omega)).still hS8
              have hWc := hW.still hS8
              have HB4 : Hid (Below w.heap.size w wc) := (HB3.out.trans (hO7.below (by omega))).trans (hS8.below _)
              have hN8 := hN7.still hS8
              have hF8 := hF7.still hS8
              clear R1d hW hO7 hN6 hF6 hN7 hF7 hS8 HB3
              clear hN8 hF8
              have HP : Hid (Paired NB BF t) := ⟨HLO.out, c⟩
              have C11 := scan11 w.heap.size len lo0 i0 e0 S wc hlen R1e (by omega) (by omega) (by omega) (by omega)
              go_wp2_with fail
              refine C11.mono ?_
              rintro en w9 ⟨i, t2, f, rfl, hA⟩
              obtain ⟨hP2, hi⟩ := scan_end hA.inv
              have heq := hA.inv.eq
              rw [HNB.out, HBF.out] at hP2 heq
              rw [HBF.out] at hi
              obtain rfl : t2 = t := paired_unique hP2 HP.out
              have hD := hA.strs.congr heq
              have hWe := hWc.only hA.only (by omega)
              have C12 := equal12 w.heap.size w5.heap.size len _ w9 hlen hD hWe
              have HB5 : Hid (Below w.heap.size w w9) := HB4.out.trans (hA.only.below (Nat.le_refl _))
              have hq : ((i : Int) == (i0 : Int) + (BF.length : Int)) = true := by simp; omega
              clear C11 hA hP2 heq hD hWe R1e hWc HB4 hi
              go_wp2_with fail
              refine C12.mono ?_
              rintro en w10 ⟨rfl, hS10⟩
              go_wp2
              go_ret
              exact ⟨rfl, HB5.out.trans (hS10.below _)⟩
end Scan
end Go.Proofs.Qxb6603709a
