import Derived.Test.Qxb6603048aClassWalks
set_option linter.unusedVariables false
namespace Go.Proofs.Qxb6603048a.fnClassHoldsExact
open Go.RowKit

def Post24 (f : Nat → Int) (len : Nat) (w : World) (e : Ending) (w' : World) : Prop :=
  ∃ a, e = .returned (.slice a len len) ∧ (0 < len → a = some ⟨w.heap.size, 0, none⟩) ∧ Below w.heap.size w w' ∧ (∀ i, i < len → w'.cell? ⟨w.heap.size, i, none⟩ = some (.int .i32 (f i)))

theorem clone24_any (a : Option Addr) (b off len cap : Nat) (f : Nat → Int) (w : World) (hl : len ≤ 65536) (ha : 0 < len → a = some ⟨b, off, none⟩) (hnil : a = none → len = 0 ∧ cap = 0)
    (hc : ∀ i, i < len → w.cell? ⟨b, off + i, none⟩ = some (.int .i32 (f i))) : Calls Try.prog 24 #[.slice a len cap] w fun e w' => Post24 f len w e w' := by
  cases a with
  | none =>
    obtain ⟨rfl, rfl⟩ := hnil rfl
    refine (clone24_nil w).mono ?_
    rintro e w' ⟨rfl, rfl⟩
    exact ⟨none, rfl, fun h => absurd h (Nat.lt_irrefl _), Below.refl _ _, fun i h => absurd h (Nat.not_lt_zero _)⟩
  | some x =>
    refine (clone24 x b off len cap f w hl (fun h => by simpa using ha h) hc).mono ?_
    rintro e w' ⟨rfl, hB, hR⟩
    exact ⟨_, rfl, fun _ => rfl, hB, fun i hi => hR.cell hi⟩

/-- What stands behind every road of the law: it answers true, and nothing old has turned. -/
def Good (w : World) (e : Ending) (w' : World) : Prop := e = .returned (.bool true) ∧ Below w.heap.size w w'

theorem scan_hit {f : Nat → Int} {c : Int} {k : Nat} (h1 : f (2 * k) ≤ c) (h2 : c ≤ f (2 * k + 1)) : Value.bool true = .bool (ClassMath.scan f c (k + 1)) := by simp [ClassMath.scan, h1, h2]
theorem scan_low {f : Nat → Int} {c : Int} {k : Nat} (h2 : f (2 * k + 1) < c) : Value.bool (ClassMath.scan f c k) = .bool (ClassMath.scan f c (k + 1)) := by
  have : ¬ c ≤ f (2 * k + 1) := by omega
  simp [ClassMath.scan, this]
theorem scan_high {f : Nat → Int} {c : Int} {k : Nat} (h1 : c < f (2 * k)) : Value.bool (ClassMath.scan f c k) = .bool (ClassMath.scan f c (k + 1)) := by
  have : ¬ f (2 * k) ≤ c := by omega
  simp [ClassMath.scan, this]

open ClassMath in
set_option maxHeartbeats 400000 in
theorem core (a : Option Addr) (b off len cap : Nat) (c : Int) (f : Nat → Int) (w : World) (hm : len ≤ maxLen) (ha : 0 < len → a = some ⟨b, off, none⟩) (hnil : a = none → len = 0 ∧ cap = 0)
    (hc : ∀ i, i < len → w.cell? ⟨b, off + i, none⟩ = some (.int .i32 (f i))) :
    Calls Try.prog 7 #[.slice a len cap, .int .i32 c] w fun e w' => Good w e w' := by
  have C22 := bytes22 a len cap c w hm
  unfold maxLen at hm
  by_cases h20 : len ≤ 1048576
  · rw [decide_eq_true h20] at C22
    by_cases h16 : len ≤ 65536
    · have C23 := wellFormed23 a b off len cap f w h16 ha hc
      go_enter Try.func7, Try.ntmps7
      go_wp2_with fail
      refine C22.mono ?_; rintro e w' ⟨rfl, rfl⟩
      go_wp2_with fail
      refine C23.mono ?_; rintro e w1 ⟨r, rfl, hr, hS⟩
      clear C22 C23
      cases r
      · clear hr
        go_wp2
        go_ret
        exact ⟨rfl, hS.below _⟩
      · have HW : Hid (WFC f (len / 2)) := hr rfl
        clear hr
        go_wp2_with fail
        refine (clone24_any a b off len cap f w1 h16 ha hnil (fun i hi => (hS.cell _).trans (hc i hi))).mono ?_
        rintro e w2 ⟨a2, rfl, ha2, hB, hc2⟩
        have HB : Hid (Below w'.heap.size w' w2) := (hS.below _).trans (hS.size ▸ hB)
        clear hB hc ha hnil hS
        generalize w1.heap.size = B2 at ha2 hc2
        go_wp2_with fail
        refine (holds25 a2 B2 0 len len c f w2 h16 ha2 HW.out (fun i hi => by rw [Nat.zero_add]; exact hc2 i hi)).mono ?_
        rintro e w3 ⟨rfl, rfl⟩
        go_wp2
        go_loopg [6, 7] (len / 2) (fun g wt i wr => wr = w3 ∧ ∃ k : Nat, k ≤ len / 2 ∧ g = len / 2 - k ∧ i = .int .i64 (2 * (k : Int)) ∧ wt = .bool (scan f c k))
        case atStart => exact ⟨rfl, 0, Nat.zero_le _, rfl, rfl, rfl⟩
        case round =>
          obtain ⟨rfl, k, hk, rfl, rfl, rfl⟩ := hrel
          by_cases hlt : k < len / 2
          · obtain rfl := ha2 (by omega)
            have hlz : (2 * (k : Int)) + 1 < (len : Int) := by omega
            have g0 : wr.cell? ⟨B2, 2 * k, none⟩ = some (.int .i32 (f (2 * k))) := hc2 _ (by omega)
            have g1 : wr.cell? ⟨B2, 2 * k + 1, none⟩ = some (.int .i32 (f (2 * k + 1))) := hc2 _ (by omega)
            clear hc2 ha2
            go_wp2
            all_goals
              go_roundg (len / 2 - (k + 1))
              case measure => go_light; omega
              case rel => go_light; exact ⟨rfl, k + 1, by omega, rfl, by go_num, by first | exact scan_hit ‹_› ‹_› | exact scan_low ‹_› | exact scan_high ‹_›⟩
          · have hlz : ¬ (2 * (k : Int)) + 1 < (len : Int) := by omega
            have HE : Hid (k = len / 2) := by show k = len / 2; omega
            go_wp2
            go_ret
            exact ⟨ret_bool (by rw [HE.out]; simp), HB.out⟩
    · go_enter Try.func7, Try.ntmps7
      go_wp2_with (go_at_call 22; refine C22.mono ?_; rintro e w' ⟨rfl, rfl⟩)
      go_ret
      exact ⟨rfl, Below.refl _ _⟩
  · rw [decide_eq_false h20] at C22
    go_enter Try.func7, Try.ntmps7
    go_wp2_with (go_at_call 22; refine C22.mono ?_; rintro e w' ⟨rfl, rfl⟩)
    go_ret
    exact ⟨rfl, Below.refl _ _⟩
end Go.Proofs.Qxb6603048a.fnClassHoldsExact
