/-
  THE WALKS of makeDocs (30), document (35) and its shim (31), docsUnchanged (32).
-/
import Derived.Test.Qxb6603048aDocWalks
namespace Go.Proofs.Qxb6603048a
open Go.RowKit

/-- The cells of a row of StickyBucketDocs without assignments, name and value as in S. -/
def doc3 (S : Nat → ByteArray) : Nat → Value := fun c => if c % 3 = 2 then .map none else .string (S (c / 3 * 2 + c % 3))
def zero3 : Nat → Value := fun c => if c % 3 = 2 then .map none else .string ByteArray.empty
theorem doc3_0 (S : Nat → ByteArray) (k : Nat) : doc3 S (k * 3) = .string (S (k * 2)) := by
  have h1 : k * 3 % 3 = 0 := by omega
  have h2 : k * 3 / 3 = k := by omega
  simp [doc3, h1, h2]
theorem doc3_1 (S : Nat → ByteArray) (k : Nat) : doc3 S (k * 3 + 1) = .string (S (k * 2 + 1)) := by
  have h1 : (k * 3 + 1) % 3 = 1 := by omega
  have h2 : (k * 3 + 1) / 3 = k := by omega
  simp [doc3, h1, h2]
theorem doc3_2 (S : Nat → ByteArray) (k : Nat) : doc3 S (k * 3 + 2) = .map none := by
  have h1 : (k * 3 + 2) % 3 = 2 := by omega
  simp [doc3, h1]
theorem zero3_0 (k : Nat) : zero3 (k * 3) = .string ByteArray.empty := by
  have h1 : k * 3 % 3 = 0 := by omega
  simp [zero3, h1]
theorem zero3_1 (k : Nat) : zero3 (k * 3 + 1) = .string ByteArray.empty := by
  have h1 : (k * 3 + 1) % 3 = 1 := by omega
  simp [zero3, h1]
theorem zero3_2 (k : Nat) : zero3 (k * 3 + 2) = .map none := by
  have h1 : (k * 3 + 2) % 3 = 2 := by omega
  simp [zero3, h1]

theorem made60 (w : World) (cs : Array Value) (hcs : (Value.agg #[.string ByteArray.empty, .string ByteArray.empty, .map none]).cells = cs) (n : Nat) (f : Nat → Value) : (w.alloc (.cells (madeCells cs n) 60)).rowIs w.heap.size 60 n (fl f zero3 (0 * 3)) := by
  rw [Nat.zero_mul, fl_zero, ← hcs]
  refine rowIs_madeN w _ _ _ _ (by simp [Value.cells]) (fun i hi => ?_) (fun i => ?_)
  · match i, hi with
    | 0, _ => rfl
    | 1, _ => rfl
    | 2, _ => rfl
  · have : (Value.agg #[.string ByteArray.empty, .string ByteArray.empty, .map none]).cells.size = 3 := rfl
    rw [this]; simp [zero3]

theorem make30_nil (w : World) :
    Calls Try.prog 30 #[.slice none 0 0] w fun e w' => e = .returned (.slice none 0 0) ∧ w' = w := by
  have hn := fun w => Lib.run_eql_slice_nil (P := Try.prog) w 44 54 none 0 0 0 0 Try.underlying44
  go_enter Try.func30, Try.ntmps30
  go_wp2
  go_ret
  exact ⟨rfl, rfl⟩

/-- 30: makeDocs of a slice that is not nil: a new row. -/
theorem make30 (x : Addr) (b off len cap : Nat) (S : Nat → ByteArray) (w : World) (h1 : Docs w (some x) b off len cap S) (hl : len ≤ 65536) :
    Calls Try.prog 30 #[.slice (some x) len cap] w fun e w' => e = .returned (.slice (some ⟨w.heap.size, 0, none⟩) len len) ∧ Below w.heap.size w w' ∧ w'.rowIs w.heap.size 60 (len * 3) (doc3 S) := by
  have hn := fun w => Lib.run_eql_slice_nil (P := Try.prog) w 44 54 (some x) len cap 0 0 Try.underlying44
  have hmk := run_make_rows (P := Try.prog) 49 60 _ 3 40 Try.underlying49 Try.info60 .i64 .i64 len (by omega) (by omega)
  obtain ⟨cs, hcs⟩ : ∃ cs, (Value.agg #[.string ByteArray.empty, .string ByteArray.empty, .map none]).cells = cs := ⟨_, rfl⟩
  rw [hcs] at hmk
  have hR0 := made60 w cs hcs (len * 3) (doc3 S)
  clear hcs
  go_enter Try.func30, Try.ntmps30
  go_wp2
  clear hmk hn
  go_loopg [4] len (fun g i wr => ∃ k : Nat, k ≤ len ∧ g = len - k ∧ i = .int .i64 k ∧ Below w.heap.size w wr ∧ wr.rowIs w.heap.size 60 (len * 3) (fl (doc3 S) zero3 (k * 3)))
  case atStart => exact ⟨0, Nat.zero_le _, rfl, rfl, (Below.refl _ _).alloc (Nat.le_refl _) _, hR0⟩
  case round =>
    obtain ⟨k, hk, rfl, rfl, hB, hR⟩ := hrel
    clear hR0
    by_cases hlt : k < len
    · have hb := h1.lt (by omega)
      have h1' := h1.below hB (Nat.le_refl _)
      obtain rfl : x = ⟨b, off, none⟩ := by simpa using h1.at' (by omega)
      have hlz : (k : Int) < (len : Int) := by omega
      have g0 : wr.cell? ⟨b, off + k * 2, none⟩ = some (.string (S (k * 2))) := h1'.cell _ (by omega)
      have g0' : wr.cell? ⟨b, off + k * 2 + 1, none⟩ = some (.string (S (k * 2 + 1))) := by rw [Nat.add_assoc]; exact h1'.cell _ (by omega)
      have g1 : wr.cell? ⟨w.heap.size, k * 3, none⟩ = some (.string ByteArray.empty) := by rw [fl_cell hR (by omega) (Nat.le_refl _), zero3_0]
      have g1' : wr.cell? ⟨w.heap.size, k * 3 + 1, none⟩ = some (.string ByteArray.empty) := by rw [fl_cell hR (by omega) (by omega), zero3_1]
      have g1'' : wr.cell? ⟨w.heap.size, k * 3 + 2, none⟩ = some (.map none) := by rw [fl_cell hR (by omega) (by omega), zero3_2]
      have g2 : wr.frozen? ⟨w.heap.size, k * 3, none⟩ = false := hR.frozen _
      have g2' : wr.frozen? ⟨w.heap.size, k * 3 + 1, none⟩ = false := hR.frozen _
      have g2'' : wr.frozen? ⟨w.heap.size, k * 3 + 2, none⟩ = false := hR.frozen _
      have R : Below w.heap.size w (((wr.setCell ⟨w.heap.size, k * 3, none⟩ (.string (S (k * 2)))).setCell ⟨w.heap.size, k * 3 + 1, none⟩ (.string (S (k * 2 + 1)))).setCell ⟨w.heap.size, k * 3 + 2, none⟩ (.map none)) ∧
          (((wr.setCell ⟨w.heap.size, k * 3, none⟩ (.string (S (k * 2)))).setCell ⟨w.heap.size, k * 3 + 1, none⟩ (.string (S (k * 2 + 1)))).setCell ⟨w.heap.size, k * 3 + 2, none⟩ (.map none)).rowIs w.heap.size 60 (len * 3) (fl (doc3 S) zero3 ((k + 1) * 3)) :=
        ⟨((hB.setCell (Nat.le_refl _) _).setCell (Nat.le_refl _) _).setCell (Nat.le_refl _) _, by rw [show (k + 1) * 3 = k * 3 + 1 + 1 + 1 by omega]; exact fl_step (fl_step (fl_step hR (doc3_0 S k).symm) (doc3_1 S k).symm) (doc3_2 S k).symm⟩
      clear hB hR h1 h1'
      go_wp2
      go_region
      go_wp2
      go_roundg (len - (k + 1))
      case measure => go_light; omega
      case rel => go_light; exact ⟨k + 1, by omega, rfl, by go_num, R.1.drew, R.2.drew⟩
    · have hlz : ¬ (k : Int) < (len : Int) := by omega
      go_wp2
      go_ret
      exact ⟨rfl, hB, fl_all hR (by omega)⟩

theorem make30_any (a : Option Addr) (b off len cap : Nat) (S : Nat → ByteArray) (w : World) (h1 : Docs w a b off len cap S) (hl : len ≤ 65536) :
    Calls Try.prog 30 #[.slice a len cap] w fun e w' => Cloned w.heap.size 60 3 len (doc3 S) a.isNone w e w' := by
  cases a with
  | none =>
    obtain ⟨rfl, rfl⟩ := h1.nil rfl
    refine (make30_nil w).mono ?_
    rintro e w' ⟨rfl, rfl⟩
    exact ⟨none, rfl, rfl, fun h => by simp at h, Below.refl _ _⟩
  | some x =>
    refine (make30 x b off len cap S w h1 hl).mono ?_
    rintro e w' ⟨rfl, hB, hR⟩
    exact ⟨_, rfl, rfl, fun _ => ⟨rfl, hR⟩, hB⟩

theorem bytes_eq {a b : ByteArray} : a.toList = b.toList ↔ a = b := by
  constructor
  · intro h; rw [ByteArray.toList_eq, ByteArray.toList_eq] at h; exact WideShapes.bytes_inj h
  · intro h; rw [h]
theorem bytes_beq {a b : ByteArray} : (a.toList == b.toList) = true ↔ a = b := by rw [beq_iff_eq, bytes_eq]
theorem bytes_bne {a b : ByteArray} : (a.toList == b.toList) = false ↔ ¬ a = b := by rw [beq_eq_false_iff_ne, ne_eq, bytes_eq]

/-- What 'document' answers: the document's place in Changed (block g), else in Stored (block gS), else nil. -/
def Found35 (g gS n l : Nat) (C S : Nat → ByteArray) (nm vl : ByteArray) (e : Ending) : Prop :=
  (∃ i : Nat, i < n ∧ C (i * 2) = nm ∧ C (i * 2 + 1) = vl ∧ (∀ p, p < i → ¬ (C (p * 2) = nm ∧ C (p * 2 + 1) = vl)) ∧ e = .returned (.tuple #[.pointer (some ⟨g, i * 3, none⟩), .int .i64 i])) ∨
  ((∀ i, i < n → ¬ (C (i * 2) = nm ∧ C (i * 2 + 1) = vl)) ∧
    (e = .returned (.tuple #[.pointer none, .int .i64 (-1)]) ∨ ∃ i : Nat, i < l ∧ S (i * 2) = nm ∧ S (i * 2 + 1) = vl ∧ e = .returned (.tuple #[.pointer (some ⟨gS, i * 3, none⟩), .int .i64 (-1)])))

/-- The answer, the world as it was. -/
def Post35 (g gS n l : Nat) (C S : Nat → ByteArray) (nm vl : ByteArray) (w : World) (e : Ending) (w' : World) : Prop := Found35 g gS n l C S nm vl e ∧ w' = w

/-- 35: document -/
theorem document35 (s g gS n l cC cS : Nat) (aC aS : Option Addr) (C S : Nat → ByteArray) (nm vl : ByteArray) (w : World) (hn : n ≤ 65536) (hl : l ≤ 65536)
    (hs0 : w.cell? ⟨s, 0, none⟩ = some (.slice aS l cS)) (hs1 : w.cell? ⟨s, 1, none⟩ = some (.slice aC n cC)) (hC : 0 < n → aC = some ⟨g, 0, none⟩) (hS : 0 < l → aS = some ⟨gS, 0, none⟩)
    (hc : ∀ i, i < n → w.cell? ⟨g, i * 3, none⟩ = some (.string (C (i * 2))) ∧ w.cell? ⟨g, i * 3 + 1, none⟩ = some (.string (C (i * 2 + 1))))
    (hc' : ∀ i, i < l → w.cell? ⟨gS, i * 3, none⟩ = some (.string (S (i * 2))) ∧ w.cell? ⟨gS, i * 3 + 1, none⟩ = some (.string (S (i * 2 + 1)))) :
    Calls Try.prog 35 #[.pointer (some ⟨s, 0, none⟩), .string nm, .string vl] w fun e w' => Post35 g gS n l C S nm vl w e w' := by
  go_enter Try.func35, Try.ntmps35
  go_wp2
  go_loopg [8, 9, 17] n (fun gk _ _ i wr => wr = w ∧ ∃ k : Nat, k ≤ n ∧ gk = n - k ∧ i = .int .i64 k ∧ Hid (∀ i, i < k → ¬ (C (i * 2) = nm ∧ C (i * 2 + 1) = vl)))
  case atStart => exact ⟨rfl, 0, Nat.zero_le _, rfl, rfl, fun i h => absurd h (Nat.not_lt_zero _)⟩
  case round =>
    obtain ⟨rfl, k, hk, rfl, rfl, HR⟩ := hrel
    by_cases hlt : k < n
    · obtain rfl := hC (by omega)
      have hlz : (k : Int) < (n : Int) := by omega
      have g0 := (hc k hlt).1
      have g1 := (hc k hlt).2
      clear hc hc'
      go_wp2
      · have e1 : (C (k * 2)).toList = nm.toList := by assumption
        have e2 : ((C (k * 2 + 1)).toList == vl.toList) = true := by assumption
        go_ret2
        exact ⟨.inl ⟨k, hlt, bytes_eq.1 e1, bytes_beq.1 e2, HR.out, rfl⟩, rfl⟩
      · have e2 : ((C (k * 2 + 1)).toList == vl.toList) = false := by assumption
        go_roundg (n - (k + 1))
        case measure => go_light; omega
        case rel =>
          go_light
          refine ⟨rfl, k + 1, by omega, rfl, by go_num, fun i hi => ?_⟩
          by_cases e : i = k
          · subst e; exact fun h => bytes_bne.1 e2 h.2
          · exact HR.out i (by omega)
      · have e2 : ¬ (C (k * 2)).toList = nm.toList := by assumption
        go_roundg (n - (k + 1))
        case measure => go_light; omega
        case rel =>
          go_light
          refine ⟨rfl, k + 1, by omega, rfl, by go_num, fun i hi => ?_⟩
          by_cases e : i = k
          · subst e; exact fun h => e2 (bytes_eq.2 h.1)
          · exact HR.out i (by omega)
    · have hlz : ¬ (k : Int) < (n : Int) := by omega
      have HN : Hid (∀ i, i < n → ¬ (C (i * 2) = nm ∧ C (i * 2 + 1) = vl)) := fun i hi => HR.out i (by omega)
      clear hc
      go_wp2
      go_loopg [10, 11, 48] l (fun gk _ _ i wx => wx = wr ∧ ∃ k : Nat, k ≤ l ∧ gk = l - k ∧ i = .int .i64 k)
      case atStart => exact ⟨rfl, 0, Nat.zero_le _, rfl, rfl⟩
      case round =>
        obtain ⟨rfl, q, hq, rfl, rfl⟩ := hrel
        by_cases hlt2 : q < l
        · obtain rfl := hS (by omega)
          have hlz2 : (q : Int) < (l : Int) := by omega
          have g0 := (hc' q hlt2).1
          have g1 := (hc' q hlt2).2
          clear hc'
          go_wp2
          · have e1 : (S (q * 2)).toList = nm.toList := by assumption
            have e2 : ((S (q * 2 + 1)).toList == vl.toList) = true := by assumption
            go_ret2
            exact ⟨.inr ⟨HN.out, .inr ⟨q, hlt2, bytes_eq.1 e1, bytes_beq.1 e2, rfl⟩⟩, rfl⟩
          all_goals
            go_roundg (l - (q + 1))
            case measure => go_light; omega
            case rel => go_light; exact ⟨rfl, q + 1, by omega, rfl, by go_num⟩
        · have hlz2 : ¬ (q : Int) < (l : Int) := by omega
          go_wp2
          go_ret2
          exact ⟨.inr ⟨HN.out, .inl rfl⟩, rfl⟩

/-- 31: the shim -/
theorem document31 (s g gS n l cC cS : Nat) (aC aS : Option Addr) (C S : Nat → ByteArray) (nm vl : ByteArray) (w : World) (hn : n ≤ 65536) (hl : l ≤ 65536)
    (hs0 : w.cell? ⟨s, 0, none⟩ = some (.slice aS l cS)) (hs1 : w.cell? ⟨s, 1, none⟩ = some (.slice aC n cC)) (hC : 0 < n → aC = some ⟨g, 0, none⟩) (hS : 0 < l → aS = some ⟨gS, 0, none⟩)
    (hc : ∀ i, i < n → w.cell? ⟨g, i * 3, none⟩ = some (.string (C (i * 2))) ∧ w.cell? ⟨g, i * 3 + 1, none⟩ = some (.string (C (i * 2 + 1))))
    (hc' : ∀ i, i < l → w.cell? ⟨gS, i * 3, none⟩ = some (.string (S (i * 2))) ∧ w.cell? ⟨gS, i * 3 + 1, none⟩ = some (.string (S (i * 2 + 1)))) :
    Calls Try.prog 31 #[.pointer (some ⟨s, 0, none⟩), .string nm, .string vl] w fun e w' => Post35 g gS n l C S nm vl w e w' := by
  have H := document35 s g gS n l cC cS aC aS C S nm vl w hn hl hs0 hs1 hC hS hc hc'
  clear hs0 hs1 hC hS hc hc'
  go_enter Try.func31, Try.ntmps31
  go_wp2_with fail
  refine H.mono ?_
  rintro e w' ⟨h, rfl⟩
  have HF : Hid (Found35 g gS n l C S nm vl e) := h
  rcases h with ⟨i, h1, h2, h3, h4, rfl⟩ | ⟨h1, rfl | ⟨i, h2, h3, h4, rfl⟩⟩
  · clear h1 h2 h3 h4
    go_wp2
    go_ret2
    exact ⟨HF.out, rfl⟩
  · clear h1
    go_wp2
    go_ret2
    exact ⟨HF.out, rfl⟩
  · clear h1 h2 h3 h4
    go_wp2
    go_ret2
    exact ⟨HF.out, rfl⟩

/-- 32: docsUnchanged, where nothing has changed. -/
theorem unchanged32 (aG aW : Option Addr) (bG bW n cG cW : Nat) (S : Nat → ByteArray) (w : World) (hn : n ≤ 65536) (hnil : aG.isNone = aW.isNone)
    (hG : 0 < n → aG = some ⟨bG, 0, none⟩) (hW : 0 < n → aW = some ⟨bW, 0, none⟩)
    (hc : ∀ i, i < n → w.cell? ⟨bG, i * 3, none⟩ = some (.string (S (i * 2))) ∧ w.cell? ⟨bG, i * 3 + 1, none⟩ = some (.string (S (i * 2 + 1))))
    (hc' : ∀ i, i < n → w.cell? ⟨bW, i * 2, none⟩ = some (.string (S (i * 2))) ∧ w.cell? ⟨bW, i * 2 + 1, none⟩ = some (.string (S (i * 2 + 1)))) :
    Calls Try.prog 32 #[.slice aG n cG, .slice aW n cW] w fun e w' => e = .returned (.bool true) ∧ Still w w' := by
  have e1 := fun w => Lib.run_eql_slice_nil (P := Try.prog) w 49 60 aG n cG 0 0 Try.underlying49
  have e2 := fun w => Lib.run_eql_slice_nil (P := Try.prog) w 44 54 aW n cW 0 0 Try.underlying44
  rw [hnil] at e1
  generalize aW.isNone = z at e1 e2
  clear hnil
  cases z
  all_goals
    go_enter Try.func32, Try.ntmps32
    go_wp2
    clear e1 e2
    go_loopg [5] n (fun g i wr => Still w wr ∧ ∃ k : Nat, k ≤ n ∧ g = n - k ∧ i = .int .i64 k)
    case atStart => exact ⟨Still.refl _, 0, Nat.zero_le _, rfl, rfl⟩
    case round =>
      obtain ⟨hA, k, hk, rfl, rfl⟩ := hrel
      by_cases hlt : k < n
      · obtain rfl := hG (by omega)
        obtain rfl := hW (by omega)
        have hlz : (k : Int) < (n : Int) := by omega
        have g0 := (hA.cell _).trans (hc k hlt).1
        have g1 := (hA.cell _).trans (hc k hlt).2
        have g2 := (hA.cell _).trans (hc' k hlt).1
        have g3 := (hA.cell _).trans (hc' k hlt).2
        have q1 : ((S (k * 2)).toList == (S (k * 2)).toList) = true := by simp
        clear hc hc'
        go_wp2
        go_quiet (fail)
        go_wp2
        go_roundg (n - (k + 1))
        case measure => go_light; omega
        case rel => go_light; exact ⟨by repeat (first | exact hA | apply Still.drewN | apply Still.drew), k + 1, by omega, rfl, by go_num⟩
      · have hlz : ¬ (k : Int) < (n : Int) := by omega
        go_wp2
        go_ret
        exact ⟨rfl, hA⟩
end Go.Proofs.Qxb6603048a
