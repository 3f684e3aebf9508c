/-
  THE WALKS of the functions on the road of FnClassHoldsExact: zzBytes (22), classWellFormed (23), cloneRunes (24), classHolds (34), its shim (25).
-/
import Derived.Test.Qxb6603048aRows
import Derived.Test.Qxb6603048aClassMath
import Derived.Test.Qxb6603048aKit
import Derived.WalkKit
import Derived.WalkSpells
import Derived.WalkLawsBesides
import Derived.Deep.LoopGhost
import Derived.Deep.OwnRows
import Derived.Deep.Light
import Derived.Deep.QuietTactic
import Derived.BigQuiet
namespace Go.Proofs.Qxb6603048a
open Go.RowKit
open ClassMath

theorem Try.info21 : (Try.prog.info? 21).map (fun i => (i.zero, i.size, i.bytes)) = some (some (.int .i32 0), 1, 4) := by kernel_rfl

/-- 22: zzBytes -/
theorem bytes22 (a : Option Addr) (len cap : Nat) (c : Int) (w : World) (hl : len ≤ maxLen) :
    Calls Try.prog 22 #[.slice a len cap, .int .i32 c] w fun e w' => e = .returned (.bool (decide (len ≤ 1048576))) ∧ w' = w := by
  unfold maxLen at hl
  by_cases h : len ≤ 1048576
  · have hd : decide (len ≤ 1048576) = true := by simpa using h
    go_enter Try.func22, Try.ntmps22
    go_wp2
    go_ret
    exact ⟨by rw [hd]; rfl, rfl⟩
  · have hd : decide (len ≤ 1048576) = false := by simpa using h
    go_enter Try.func22, Try.ntmps22
    go_wp2
    go_ret
    exact ⟨by rw [hd]; rfl, rfl⟩

theorem clone24_nil (w : World) :
    Calls Try.prog 24 #[.slice none 0 0] w fun e w' => e = .returned (.slice none 0 0) ∧ w' = w := by
  have hn := fun w => Lib.run_eql_slice_nil (P := Try.prog) w 39 21 none 0 0 0 0 Try.underlying39
  go_enter Try.func24, Try.ntmps24
  go_wp2
  go_ret
  exact ⟨rfl, rfl⟩

/-- 24: cloneRunes of a slice that is not nil: a new row. -/
theorem clone24 (x : Addr) (b off len cap : Nat) (f : Nat → Int) (w : World) (hl : len ≤ 65536) (hx : 0 < len → x = ⟨b, off, none⟩)
    (hc : ∀ i, i < len → w.cell? ⟨b, off + i, none⟩ = some (.int .i32 (f i))) :
    Calls Try.prog 24 #[.slice (some x) len cap] w fun e w' => e = .returned (.slice (some ⟨w.heap.size, 0, none⟩) len len) ∧ Below w.heap.size w w' ∧ w'.rowIs w.heap.size 21 len (fun i => .int .i32 (f i)) := by
  have hn := fun w => Lib.run_eql_slice_nil (P := Try.prog) w 39 21 (some x) len cap 0 0 Try.underlying39
  have hmk := run_make_row' (P := Try.prog) 39 21 (.int .i32 0) 4 Try.underlying39 Try.info21 rfl .i64 .i64 len (by omega) (by omega)
  go_enter Try.func24, Try.ntmps24
  go_wp2
  clear hmk hn
  go_loopg [4] len (fun g i wr => ∃ k : Nat, k ≤ len ∧ g = len - k ∧ i = .int .i64 k ∧ Below w.heap.size w wr ∧ wr.rowIs w.heap.size 21 len (fill (fun i => .int .i32 (f i)) (.int .i32 0) k))
  case atStart => exact ⟨0, Nat.zero_le _, rfl, rfl, (Below.refl _ _).alloc (Nat.le_refl _) _, by rw [fill_zero]; exact World.rowIs_made w _ len 21⟩
  case round =>
    obtain ⟨k, hk, rfl, rfl, hB, hR⟩ := hrel
    by_cases hlt : k < len
    · obtain rfl := hx (by omega)
      have hlz : (k : Int) < (len : Int) := by omega
      have hcb := World.block_lt_of_cell? _ _ (hc k hlt)
      have g0 : wr.cell? ⟨b, off + k, none⟩ = some (.int .i32 (f k)) := (hB.cell (p := ⟨b, off + k, none⟩) hcb).trans (hc k hlt)
      have g1 : wr.cell? ⟨w.heap.size, k, none⟩ = some (.int .i32 0) := by have := hR.cell hlt; simpa [fill] using this
      have g2 : wr.frozen? ⟨w.heap.size, k, none⟩ = false := hR.frozen k
      have R : Below w.heap.size w (wr.setCell ⟨w.heap.size, k, none⟩ (.int .i32 (f k))) ∧ (wr.setCell ⟨w.heap.size, k, none⟩ (.int .i32 (f k))).rowIs w.heap.size 21 len (fill (fun i => .int .i32 (f i)) (.int .i32 0) (k + 1)) :=
        ⟨hB.setCell (Nat.le_refl _) _, by rw [← fill_set]; exact hR.set k _⟩
      clear hB hR hc
      go_wp2
      go_roundg (len - (k + 1))
      case measure => go_light; omega
      case rel => go_light; exact ⟨k + 1, by omega, rfl, by simp, R.1, R.2⟩
    · have hlz : ¬ (k : Int) < (len : Int) := by omega
      go_wp2
      go_ret
      exact ⟨rfl, hB, fill_all hR (by omega)⟩

/-- 34: classHolds -/
theorem holds34 (a : Option Addr) (b off len cap : Nat) (c : Int) (f : Nat → Int) (w : World) (hl : len ≤ 65536) (ha : 0 < len → a = some ⟨b, off, none⟩) (hwf : WFC f (len / 2))
    (hc : ∀ i, i < len → w.cell? ⟨b, off + i, none⟩ = some (.int .i32 (f i))) :
    Calls Try.prog 34 #[.slice a len cap, .int .i32 c] w fun e w' => e = .returned (.bool (scan f c (len / 2))) ∧ w' = w := by
  have HW : Hid (WFC f (len / 2)) := hwf
  clear hwf
  go_enter Try.func34, Try.ntmps34
  go_wp2
  go_loopg [5, 6, 7] (len / 2) (fun g lo hi _ wr => wr = w ∧ ∃ l h : Nat, l ≤ h ∧ h ≤ len / 2 ∧ g = h - l ∧ lo = .int .i64 l ∧ hi = .int .i64 h ∧ Hid ((∀ i, i < l → f (2 * i + 1) < c) ∧ (∀ i, h ≤ i → i < len / 2 → c ≤ f (2 * i + 1))))
  case atStart => exact ⟨rfl, 0, len / 2, Nat.zero_le _, Nat.le_refl _, by omega, rfl, by go_num, fun i h => absurd h (Nat.not_lt_zero _), fun i h1 h2 => absurd h1 (by omega)⟩
  case round =>
    obtain ⟨rfl, l, h, hlh, hh, rfl, rfl, rfl, HR⟩ := hrel
    by_cases hlt : l < h
    · obtain rfl := ha (by omega)
      have hz : (l : Int) < (h : Int) := by omega
      have hm1 : l ≤ (l + h) / 2 := by omega
      have hm2 : (l + h) / 2 < h := by omega
      have hm3 : 2 * ((l + h) / 2) + 1 < len := by omega
      have g0 : wr.cell? ⟨b, off + (2 * ((l + h) / 2) + 1), none⟩ = some (.int .i32 (f (2 * ((l + h) / 2) + 1))) := hc _ hm3
      go_wp2
      · have hv : f (2 * ((l + h) / 2) + 1) < c := by assumption
        go_roundg (h - ((l + h) / 2 + 1))
        case measure => go_light; omega
        case rel => go_light; exact ⟨rfl, (l + h) / 2 + 1, h, by omega, hh, rfl, by go_num, rfl, search_up HW.out (by omega) hv, HR.out.2⟩
      · have hv : c ≤ f (2 * ((l + h) / 2) + 1) := by assumption
        go_roundg ((l + h) / 2 - l)
        case measure => go_light; omega
        case rel => go_light; exact ⟨rfl, l, (l + h) / 2, by omega, by omega, rfl, rfl, by go_num, HR.out.1, search_down HW.out hv⟩
    · have hF : Hid (AtEnd f c (len / 2) l) := ⟨by omega, HR.out.1, fun i hi => HR.out.2 i (by omega)⟩
      by_cases hlp : l < len / 2
      · obtain rfl := ha (by omega)
        have hz : (l : Int) < (len : Int) / 2 := by omega
        have g0 : wr.cell? ⟨b, off + 2 * l, none⟩ = some (.int .i32 (f (2 * l))) := hc _ (by omega)
        go_wp2
        go_ret
        refine ⟨ret_bool ?_, rfl⟩
        go_light
        by_cases h2 : f (2 * l) ≤ c
        · rw [exact_yes hF.out hlp h2]; simpa using h2
        · rw [exact_no HW.out hF.out (fun _ => by omega)]; simpa using h2
      · go_wp2
        go_ret
        exact ⟨ret_bool (exact_no HW.out hF.out (fun h => absurd h hlp)).symm, rfl⟩

/-- 25: the shim -/
theorem holds25 (a : Option Addr) (b off len cap : Nat) (c : Int) (f : Nat → Int) (w : World) (hl : len ≤ 65536) (ha : 0 < len → a = some ⟨b, off, none⟩) (hwf : WFC f (len / 2))
    (hc : ∀ i, i < len → w.cell? ⟨b, off + i, none⟩ = some (.int .i32 (f i))) :
    Calls Try.prog 25 #[.slice a len cap, .int .i32 c] w fun e w' => e = .returned (.bool (scan f c (len / 2))) ∧ w' = w := by
  have H := holds34 a b off len cap c f w hl ha hwf hc
  clear hwf hc ha
  go_enter Try.func25, Try.ntmps25
  go_wp2_with (go_at_call 34; refine H.mono ?_; rintro e w' ⟨rfl, rfl⟩)
  go_ret
  exact ⟨rfl, rfl⟩

def Post23 (f : Nat → Int) (p : Nat) (w : World) (e : Ending) (w' : World) : Prop := ∃ r : Bool, e = .returned (.bool r) ∧ (r = true → WFC f p) ∧ Still w w'

/-- 23: classWellFormed: it reads in an open order. -/
theorem wellFormed23 (a : Option Addr) (b off len cap : Nat) (f : Nat → Int) (w : World) (hl : len ≤ 65536) (ha : 0 < len → a = some ⟨b, off, none⟩)
    (hc : ∀ i, i < len → w.cell? ⟨b, off + i, none⟩ = some (.int .i32 (f i))) :
    Calls Try.prog 23 #[.slice a len cap] w fun e w' => Post23 f (len / 2) w e w' := by
  go_enter Try.func23, Try.ntmps23
  go_wp2
  go_loopg [4] (len / 2) (fun g i wr => Still w wr ∧ ∃ k : Nat, k ≤ len / 2 ∧ g = len / 2 - k ∧ i = .int .i64 k ∧ Hid (∀ i, i < k → f (2 * i) ≤ f (2 * i + 1) ∧ (i + 1 < len / 2 → f (2 * i + 1) < f (2 * i + 2))))
  case atStart => exact ⟨Still.refl _, 0, Nat.zero_le _, rfl, rfl, fun i h => absurd h (Nat.not_lt_zero _)⟩
  case round =>
    obtain ⟨hA, k, hk, rfl, rfl, HR⟩ := hrel
    by_cases hlt : k < len / 2
    · obtain rfl := ha (by omega)
      have hz : (k : Int) < (len : Int) / 2 := by omega
      have g0 : wr.cell? ⟨b, off + 2 * k, none⟩ = some (.int .i32 (f (2 * k))) := (hA.cell _).trans (hc _ (by omega))
      have g1 : wr.cell? ⟨b, off + (2 * k + 1), none⟩ = some (.int .i32 (f (2 * k + 1))) := (hA.cell _).trans (hc _ (by omega))
      by_cases h1 : f (2 * k + 1) < f (2 * k)
      · go_wp2
        go_quiet (fail)
        go_wp2
        go_ret
        exact ⟨false, rfl, by simp, by repeat (first | exact hA | apply Still.drewN | apply Still.drew)⟩
      · by_cases hk1 : k + 1 < len / 2
        · have hd : (k : Int) + 1 < (len : Int) / 2 := by omega
          have g2 : wr.cell? ⟨b, off + (2 * k + 2), none⟩ = some (.int .i32 (f (2 * k + 2))) := (hA.cell _).trans (hc _ (by omega))
          go_wp2
          go_quiet (fail)
          go_wp2
          go_quiet (fail)
          go_wp2
          · go_ret
            exact ⟨false, rfl, by simp, by repeat (first | exact hA | apply Still.drewN | apply Still.drew)⟩
          · have hv : f (2 * k + 1) < f (2 * k + 2) := by assumption
            go_roundg (len / 2 - (k + 1))
            case measure => go_light; omega
            case rel =>
              go_light
              refine ⟨by repeat (first | exact hA | apply Still.drewN | apply Still.drew), k + 1, by omega, rfl, by go_num, fun i hi => ?_⟩
              by_cases e : i = k
              · subst e; exact ⟨by omega, fun _ => hv⟩
              · exact HR.out i (by omega)
        · have hd : decide ((k : Int) + 1 < (len : Int) / 2) = false := decide_eq_false (by omega)
          go_wp2
          go_quiet (fail)
          go_wp2
          go_quiet (fail)
          go_wp2
          go_roundg (len / 2 - (k + 1))
          case measure => go_light; omega
          case rel =>
            go_light
            refine ⟨by repeat (first | exact hA | apply Still.drewN | apply Still.drew), k + 1, by omega, rfl, by go_num, fun i hi => ?_⟩
            by_cases e : i = k
            · subst e; exact ⟨by omega, fun h => absurd h hk1⟩
            · exact HR.out i (by omega)
    · have hz : ¬ (k : Int) < (len : Int) / 2 := by omega
      go_wp2
      go_ret
      exact ⟨true, rfl, fun _ i hi => HR.out i (by omega), hA⟩

end Go.Proofs.Qxb6603048a
