/-
  THE WALK of FnScanApartStringSliceLeavesPartsSplit (5).
-/
import Derived.Test.Qxb6603709aScanWalks
import Derived.Test.Qxb6603709aHelpWalks
import Derived.Test.Qxb6603709aScanCount
set_option linter.unusedVariables false
namespace Go.Proofs.Qxb6603709a
open Go.RowKit ScanMath
namespace Split

theorem int_congr {a b : Int} (h : a = b) : Value.int .i64 a = Value.int .i64 b := by rw [h]
theorem inP_in {i0 L F e0 k : Nat} (h : (i0 ≤ k ∧ k < L) ∨ (F ≤ k ∧ k < e0)) : inP i0 L F e0 k = true := by
  unfold inP; simp only [Bool.or_eq_true, Bool.and_eq_true, decide_eq_true_eq]; exact h
theorem inP_out {i0 L F e0 k : Nat} (h : ¬ ((i0 ≤ k ∧ k < L) ∨ (F ≤ k ∧ k < e0))) : inP i0 L F e0 k = false := by
  have : inP i0 L F e0 k ≠ true := fun e => h (by unfold inP at e; simpa only [Bool.or_eq_true, Bool.and_eq_true, decide_eq_true_eq] using e)
  simpa using this

set_option maxRecDepth 100000 in
set_option maxHeartbeats 8000000 in
theorem core (a : Option Addr) (b off len cap : Nat) (S : Nat → ByteArray) (lo i j last first : Int) (w : World) (h1 : Came w a b off len cap S) (hl : len ≤ maxLen)
    (blo : -9223372036854775808 ≤ lo ∧ lo ≤ 9223372036854775807) (bi : -9223372036854775808 ≤ i ∧ i ≤ 9223372036854775807) (bj : -9223372036854775808 ≤ j ∧ j ≤ 9223372036854775807) (bl : -9223372036854775808 ≤ last ∧ last ≤ 9223372036854775807) (bf : -9223372036854775808 ≤ first ∧ first ≤ 9223372036854775807) :
    Calls Try.prog 5 #[.slice a len cap, .int .i64 lo, .int .i64 i, .int .i64 j, .int .i64 last, .int .i64 first] w fun e w' => e = .returned (.bool true) ∧ Below w.heap.size w w' := by
  have C15 := bytes15 a b off len cap S lo i j last first w h1 hl
  unfold maxLen at hl
  have C8 : len ≤ 65536 → _ := fun h => ok8 a b off len cap S w h1 h
  go_enter Try.func5, Try.ntmps5
  go_wp2_with fail
  refine C15.mono ?_
  rintro e w' ⟨r, rfl, hw⟩
  rw [hw]; clear hw C15
  cases r
  · skip
    go_wp2
    go_ret
    exact ⟨rfl, Below.refl _ _⟩
  by_cases hlen : len ≤ 65536
  case neg =>
    skip
    have hz : (len : Int) > 65536 := by omega
    go_wp2
    go_ret
    exact ⟨rfl, Below.refl _ _⟩
  have hz : ¬ (len : Int) > 65536 := by omega
  go_wp2_with fail
  refine (C8 hlen).mono ?_
  rintro e w' ⟨r, rfl, hw⟩
  rw [hw]; clear hw C8
  cases r
  · skip
    go_wp2
    go_ret
    exact ⟨rfl, Below.refl _ _⟩
  by_cases hgood : (0 ≤ lo ∧ lo < len) ∧ (0 ≤ i ∧ last < len ∧ i - 1 ≤ last) ∧ (last ≤ first ∧ j < len ∧ first ≤ j) ∧ (lo < i ∨ last < lo) ∧ (lo ≤ first ∨ j < lo)
  case neg =>
    skip
    go_wp2_with fail
    all_goals try (go_ret; exact ⟨rfl, Below.refl _ _⟩)
    all_goals (exfalso; apply hgood; omega)
  obtain ⟨⟨g1, g2⟩, ⟨g3, g4, g5⟩, ⟨g6, g7, g8⟩, g9, g10⟩ := hgood
  obtain ⟨lo0, rfl⟩ : ∃ k : Nat, lo = (k : Int) := ⟨lo.toNat, by omega⟩
  obtain ⟨i0, rfl⟩ : ∃ k : Nat, i = (k : Int) := ⟨i.toNat, by omega⟩
  obtain ⟨L, rfl⟩ : ∃ k : Nat, last = (k : Int) - 1 := ⟨(last + 1).toNat, by omega⟩
  obtain ⟨F, rfl⟩ : ∃ k : Nat, first = (k : Int) - 1 := ⟨(first + 1).toNat, by omega⟩
  obtain ⟨e0, rfl⟩ : ∃ k : Nat, j = (k : Int) - 1 := ⟨(j + 1).toNat, by omega⟩
  obtain ⟨x, rfl⟩ : ∃ x, a = some x := ⟨_, h1.at' (by omega)⟩
  clear blo bi bj bl bf
  go_upto_region 14 with fail
  go_cut [80] from 24 to 80 (fun v wx => v = .bool false ∧ wx = w)
  case first =>
    skip
    by_cases g : (lo0 : Int) < (i0 : Int)
    · go_wp2_with fail
      go_meet
      case rel => exact ⟨rfl, rfl⟩
    · go_wp2_with fail
      go_meet
      case rel => exact ⟨by rw [decide_eq_false (by omega)], rfl⟩
  case rest =>
  obtain ⟨rfl, hw⟩ := hcut
  rw [hw]; clear hw
  go_upto_region 16 with fail
  go_cut [88] from 81 to 88 (fun v wx => v = .bool false ∧ wx = w)
  case first =>
    skip
    by_cases g : (lo0 : Int) ≤ (F : Int) - 1
    · go_wp2_with fail
      go_meet
      case rel => exact ⟨rfl, rfl⟩
    · go_wp2_with fail
      go_meet
      case rel => exact ⟨by rw [decide_eq_false (by omega)], rfl⟩
  case rest =>
  obtain ⟨rfl, hw⟩ := hcut
  rw [hw]; clear hw
  have C9 := clone9 x b off len cap S w hlen h1
  go_wp2_with fail
  refine C9.mono ?_
  rintro e w1 ⟨rfl, B1, R1⟩
  clear C9 h1
  have C9 := clone9 _ _ _ _ _ S w1 hlen R1.came
  go_wp2_with fail
  refine C9.mono ?_
  rintro e w2 ⟨rfl, B2, R2⟩
  clear C9
  have hb12 : w.heap.size < w1.heap.size := World.rowIs.lt R1.row
  have R1' := R1.below B2 hb12
  have C14 := apart14 w.heap.size len lo0 i0 L F e0 S w2 hlen R1' (by omega) (by omega) (by omega) (by omega) (by omega) (by omega) (by omega)
  have g0 := R2.row.cell (i := lo0) (by omega)
  have zlo : (lo0 : Int) < (len : Int) := by omega
  have HB0 : Hid (Below w.heap.size w w2) := B1.trans (B2.mono (Nat.le_of_lt hb12))
  clear R1 R1' B1 B2
  go_wp2_with fail
  refine C14.mono ?_
  rintro en w3 ⟨i, e, t, f, rfl, hA, hE⟩
  have R2' := R2.only hA.only (by omega)
  have HB : Hid (Below w.heap.size w w3) := HB0.out.trans (hA.only.below (Nat.le_refl _))
  have q1 := hA.inv.h0
  have q2 := hA.inv.hX
  have q3 := hA.inv.hY
  have q4 := hA.inv.he
  have hor := stop_or hE
  have HI : Hid _ := hA.inv
  have HE : Hid _ := hE
  have R0 := hA.strs
  clear C14 R2 HB0 hA hE g0 hb12
  have z1 : ¬ (i : Int) < (i0 : Int) := by omega
  have z2 : ¬ (i : Int) > (L : Int) - 1 + 1 := by omega
  have z3 : ¬ (e : Int) - 1 < (F : Int) - 1 := by omega
  have z4 : ¬ (e : Int) - 1 > (e0 : Int) - 1 := by omega
  go_upto_region 24 with fail
  go_cut [16, 17, 134] from 89 to 134 (fun x y v wx => x = .int .i64 i ∧ y = .int .i64 ((e : Int) - 1) ∧ v = .bool false ∧ wx = w3)
  case first =>
    skip
    by_cases g : i = L
    · have g' : (i : Int) = (L : Int) - 1 + 1 := by omega
      go_wp2_with fail
      go_meet
      case rel => exact ⟨int_congr (by omega), int_congr (by omega), rfl, rfl⟩
    · have g' : ¬ (i : Int) = (L : Int) - 1 + 1 := by omega
      have g'' : (e : Int) - 1 = (F : Int) - 1 := by omega
      go_wp2_with fail
      go_meet
      case rel => exact ⟨int_congr (by omega), int_congr (by omega), rfl, rfl⟩
  case rest =>
  obtain ⟨rfl, rfl, rfl, hw⟩ := hcut
  rw [hw]; clear hw hor
  go_wp2_with fail
  go_loopg [18] (i - i0) (fun g p wr => wr = w3 ∧ ∃ k : Nat, i0 ≤ k ∧ k ≤ i ∧ g = i - k ∧ p = .int .i64 k)
  case atStart => exact ⟨rfl, i0, Nat.le_refl _, q1, rfl, rfl⟩
  case round =>
    obtain ⟨hw, k, hk0, hk, rfl, rfl⟩ := hrel
    rw [hw]; clear hw
    by_cases hlt : k < i
    · skip
      have hlz : (k : Int) < (i : Int) := by omega
      have hkz : (k : Int) < (len : Int) := by omega
      have g0 := R0.row.cell (i := k) (by omega)
      have hb : Op.bytesLess (f k).toList (S lo0).toList = true := HI.out.left k hk0 hlt
      go_wp2
      go_roundg (i - (k + 1))
      case measure => go_light; omega
      case rel => go_light; exact ⟨rfl, k + 1, by omega, by omega, rfl, by go_num⟩
    · have hlz : ¬ (k : Int) < (i : Int) := by omega
      obtain rfl : k = i := by omega
      go_upto_region 31 with fail
      go_cut [158] from 135 to 158 (fun v wx => v = .bool false ∧ wx = w3)
      case first =>
        skip
        by_cases g : (k : Int) ≤ (L : Int) - 1
        · have hkz : (k : Int) < (len : Int) := by omega
          have g0 := R0.row.cell (i := k) (by omega)
          have hb : Op.bytesLess (f k).toList (S lo0).toList = false := stop_nb HI.out HE.out (by omega) (by omega)
          go_wp2_with fail
          go_meet
          case rel => exact ⟨rfl, rfl⟩
        · go_wp2_with fail
          go_meet
          case rel => exact ⟨rfl, rfl⟩
      case rest =>
      obtain ⟨rfl, hw⟩ := hcut
      rw [hw]; clear hw
      go_wp2_with fail
      go_loopg [19] (e0 - e) (fun g p wr => wr = w3 ∧ ∃ m : Nat, e ≤ m ∧ m ≤ e0 ∧ g = e0 - m ∧ p = .int .i64 m)
      case atStart => exact ⟨rfl, e, Nat.le_refl _, q4, rfl, by go_num⟩
      case round =>
        obtain ⟨hw, m, hm0, hm, rfl, rfl⟩ := hrel
        rw [hw]; clear hw
        by_cases hmt : m < e0
        · skip
          have hmz : (m : Int) ≤ (e0 : Int) - 1 := by omega
          have hmz' : (m : Int) < (len : Int) := by omega
          have g0 := R0.row.cell (i := m) (by omega)
          have hb : Op.bytesLess (f m).toList (S lo0).toList = false := HI.out.right m hm0 hmt
          go_wp2
          go_roundg (e0 - (m + 1))
          case measure => go_light; omega
          case rel => go_light; exact ⟨rfl, m + 1, by omega, by omega, rfl, by go_num⟩
        · have hmz : ¬ (m : Int) ≤ (e0 : Int) - 1 := by omega
          go_wp2_with fail
          go_loopg [20, 21, 22, 23] len (fun g c1 c2 p ip wr => Still w3 wr ∧ ∃ y : Nat, y ≤ len ∧ g = len - y ∧ p = .int .i64 y ∧ c1 = .int .i64 (cnt S (S lo0) i0 L F e0 y) ∧ c2 = .int .i64 (cnt f (S lo0) i0 L F e0 y))
          case atStart => exact ⟨Still.refl _, 0, Nat.zero_le _, rfl, rfl, by rw [cnt_zero]; rfl, by rw [cnt_zero]; rfl⟩
          case round =>
            obtain ⟨hS, y, hy, rfl, rfl, rfl, rfl⟩ := hrel
            have ly1 := cnt_le S (S lo0) i0 L F e0 y
            have ly2 := cnt_le f (S lo0) i0 L F e0 y
            by_cases hyt : y < len
            · have hyz : (y : Int) < (len : Int) := by omega
              have g0 := (hS.cell _).trans (R0.row.cell hyt)
              have g1 := (hS.cell _).trans (R2'.row.cell hyt)
              clear R0 R2'
              by_cases p1 : i0 ≤ y ∧ y < L
              · skip
                have d1 : (i0 : Int) ≤ (y : Int) := by omega
                have d2 : (y : Int) ≤ (L : Int) - 1 := by omega
                have hin := inP_in (F := F) (e0 := e0) (.inl p1)
                go_wp2_with fail
                go_quiet (fail)
                by_cases c1 : ltb (S y) (S lo0) = true
                · have c1' : Op.bytesLess (S y).toList (S lo0).toList = true := c1
                  have n1 := cnt_yes hin c1
                  by_cases c2 : ltb (f y) (S lo0) = true
                  · have c2' : Op.bytesLess (f y).toList (S lo0).toList = true := c2
                    have n2 := cnt_yes hin c2
                    go_wp2
                    go_roundg (len - (y + 1))
                    case measure => go_light; omega
                    case rel => go_light; exact ⟨by repeat (first | exact hS | apply Still.drewN | apply Still.drew), y + 1, by omega, rfl, by go_num, by rw [n1] <;> go_num, by rw [n2] <;> go_num⟩
                  · have c2' : Op.bytesLess (f y).toList (S lo0).toList = false := Bool.eq_false_iff.2 c2
                    have n2 := cnt_no (i0 := i0) (L := L) (F := F) (e0 := e0) (.inr c2')
                    go_wp2
                    go_roundg (len - (y + 1))
                    case measure => go_light; omega
                    case rel => go_light; exact ⟨by repeat (first | exact hS | apply Still.drewN | apply Still.drew), y + 1, by omega, rfl, by go_num, by rw [n1] <;> go_num, by rw [n2] <;> go_num⟩
                · have c1' : Op.bytesLess (S y).toList (S lo0).toList = false := Bool.eq_false_iff.2 c1
                  have n1 := cnt_no (i0 := i0) (L := L) (F := F) (e0 := e0) (.inr c1')
                  by_cases c2 : ltb (f y) (S lo0) = true
                  · have c2' : Op.bytesLess (f y).toList (S lo0).toList = true := c2
                    have n2 := cnt_yes hin c2
                    go_wp2
                    go_roundg (len - (y + 1))
                    case measure => go_light; omega
                    case rel => go_light; exact ⟨by repeat (first | exact hS | apply Still.drewN | apply Still.drew), y + 1, by omega, rfl, by go_num, by rw [n1] <;> go_num, by rw [n2] <;> go_num⟩
                  · have c2' : Op.bytesLess (f y).toList (S lo0).toList = false := Bool.eq_false_iff.2 c2
                    have n2 := cnt_no (i0 := i0) (L := L) (F := F) (e0 := e0) (.inr c2')
                    go_wp2
                    go_roundg (len - (y + 1))
                    case measure => go_light; omega
                    case rel => go_light; exact ⟨by repeat (first | exact hS | apply Still.drewN | apply Still.drew), y + 1, by omega, rfl, by go_num, by rw [n1] <;> go_num, by rw [n2] <;> go_num⟩
              · by_cases p2 : F ≤ y ∧ y < e0
                · skip
                  have d1 : (i0 : Int) ≤ (y : Int) := by omega
                  have d2 : ¬ (y : Int) ≤ (L : Int) - 1 := by omega
                  have d3 : (y : Int) > (F : Int) - 1 := by omega
                  have d4 : (y : Int) ≤ (e0 : Int) - 1 := by omega
                  have hin := inP_in (i0 := i0) (L := L) (.inr p2)
                  go_wp2_with fail
                  go_quiet (fail)
                  by_cases c1 : ltb (S y) (S lo0) = true
                  · have c1' : Op.bytesLess (S y).toList (S lo0).toList = true := c1
                    have n1 := cnt_yes hin c1
                    by_cases c2 : ltb (f y) (S lo0) = true
                    · have c2' : Op.bytesLess (f y).toList (S lo0).toList = true := c2
                      have n2 := cnt_yes hin c2
                      go_wp2
                      go_roundg (len - (y + 1))
                      case measure => go_light; omega
                      case rel => go_light; exact ⟨by repeat (first | exact hS | apply Still.drewN | apply Still.drew), y + 1, by omega, rfl, by go_num, by rw [n1] <;> go_num, by rw [n2] <;> go_num⟩
                    · have c2' : Op.bytesLess (f y).toList (S lo0).toList = false := Bool.eq_false_iff.2 c2
                      have n2 := cnt_no (i0 := i0) (L := L) (F := F) (e0 := e0) (.inr c2')
                      go_wp2
                      go_roundg (len - (y + 1))
                      case measure => go_light; omega
                      case rel => go_light; exact ⟨by repeat (first | exact hS | apply Still.drewN | apply Still.drew), y + 1, by omega, rfl, by go_num, by rw [n1] <;> go_num, by rw [n2] <;> go_num⟩
                  · have c1' : Op.bytesLess (S y).toList (S lo0).toList = false := Bool.eq_false_iff.2 c1
                    have n1 := cnt_no (i0 := i0) (L := L) (F := F) (e0 := e0) (.inr c1')
                    by_cases c2 : ltb (f y) (S lo0) = true
                    · have c2' : Op.bytesLess (f y).toList (S lo0).toList = true := c2
                      have n2 := cnt_yes hin c2
                      go_wp2
                      go_roundg (len - (y + 1))
                      case measure => go_light; omega
                      case rel => go_light; exact ⟨by repeat (first | exact hS | apply Still.drewN | apply Still.drew), y + 1, by omega, rfl, by go_num, by rw [n1] <;> go_num, by rw [n2] <;> go_num⟩
                    · have c2' : Op.bytesLess (f y).toList (S lo0).toList = false := Bool.eq_false_iff.2 c2
                      have n2 := cnt_no (i0 := i0) (L := L) (F := F) (e0 := e0) (.inr c2')
                      go_wp2
                      go_roundg (len - (y + 1))
                      case measure => go_light; omega
                      case rel => go_light; exact ⟨by repeat (first | exact hS | apply Still.drewN | apply Still.drew), y + 1, by omega, rfl, by go_num, by rw [n1] <;> go_num, by rw [n2] <;> go_num⟩
                · have hout : inP i0 L F e0 y = false := inP_out (by omega)
                  have hfs : f y = S y := out_same HI.out hout
                  rw [hfs] at g0
                  by_cases p3 : y < i0
                  · have d1 : ¬ (i0 : Int) ≤ (y : Int) := by omega
                    have d3 : ¬ (y : Int) > (F : Int) - 1 := by omega
                    have n1 := cnt_no (S := S) (piv := S lo0) (.inl hout)
                    have n2 := cnt_no (S := f) (piv := S lo0) (.inl hout)
                    go_wp2_with fail
                    go_quiet (fail)
                    go_wp2
                    go_roundg (len - (y + 1))
                    case measure => go_light; omega
                    case rel => go_light; exact ⟨by repeat (first | exact hS | apply Still.drewN | apply Still.drew), y + 1, by omega, rfl, by go_num, by rw [n1] <;> go_num, by rw [n2] <;> go_num⟩
                  · by_cases p4 : y < F
                    · have d1 : (i0 : Int) ≤ (y : Int) := by omega
                      have d2 : ¬ (y : Int) ≤ (L : Int) - 1 := by omega
                      have d3 : ¬ (y : Int) > (F : Int) - 1 := by omega
                      have n1 := cnt_no (S := S) (piv := S lo0) (.inl hout)
                      have n2 := cnt_no (S := f) (piv := S lo0) (.inl hout)
                      go_wp2_with fail
                      go_quiet (fail)
                      go_wp2
                      go_roundg (len - (y + 1))
                      case measure => go_light; omega
                      case rel => go_light; exact ⟨by repeat (first | exact hS | apply Still.drewN | apply Still.drew), y + 1, by omega, rfl, by go_num, by rw [n1] <;> go_num, by rw [n2] <;> go_num⟩
                    · have d1 : (i0 : Int) ≤ (y : Int) := by omega
                      have d2 : ¬ (y : Int) ≤ (L : Int) - 1 := by omega
                      have d3 : (y : Int) > (F : Int) - 1 := by omega
                      have d4 : ¬ (y : Int) ≤ (e0 : Int) - 1 := by omega
                      have n1 := cnt_no (S := S) (piv := S lo0) (.inl hout)
                      have n2 := cnt_no (S := f) (piv := S lo0) (.inl hout)
                      go_wp2_with fail
                      go_quiet (fail)
                      go_wp2
                      go_roundg (len - (y + 1))
                      case measure => go_light; omega
                      case rel => go_light; exact ⟨by repeat (first | exact hS | apply Still.drewN | apply Still.drew), y + 1, by omega, rfl, by go_num, by rw [n1] <;> go_num, by rw [n2] <;> go_num⟩
            · have hyz : ¬ (y : Int) < (len : Int) := by omega
              obtain rfl : y = len := by omega
              have hcc : (cnt S (S lo0) i0 L F e0 y : Int) = (cnt f (S lo0) i0 L F e0 y : Int) := by rw [cnt_same HI.out (by omega) (by omega)]
              go_wp2
              go_ret
              exact ⟨by first | rfl | (apply ret_bool; simpa using hcc), HB.out.trans (hS.below _)⟩
end Split
end Go.Proofs.Qxb6603709a
