/-
  THE PARTS of appendBucketRanges' walk that are no walk: equal weights in a buffer of eight that may be outgrown; the row of ranges that grows; the plain functions.
-/
import Derived.Test.Qxb6603048aFloatMinMax
import Derived.Test.Qxb6603048aKitRows
import Derived.ArgAppend
namespace Go.Proofs.Qxb6603048a
open Go.RowKit Go.Deep

theorem Try.info35 : (Try.prog.info? 35).map (fun i => (i.zero, i.size, i.bytes)) = some (some (.agg #[.float .f64 0, .float .f64 0]), 2, 16) := by kernel_rfl

/-! ### the plain functions -/

/-- One of n equal weights. -/
def eqW (n : Int) : Nat := fo .quo 4607182418800017408 (floatOfInt .f64 n)
/-- The weights that are used. -/
def wts (n : Int) (nw : Nat) (W : Nat → Nat) : Nat → Nat := if usableB n nw W = true then W else fun _ => eqW n
/-- Where range i ends. -/
def endC (c : Nat) (W : Nat → Nat) (i : Nat) : Nat := fo .add (sumC W i) (fo .mul c (W i))

/-- The ranges are what the plain functions say, up to the NaN's bits. -/
def RangesAre (c : Nat) (W : Nat → Nat) (R : List (Nat × Nat)) : Prop := ∀ i, i < R.length → Eqv (R.getD i (0, 0)).1 (sumC W i) ∧ Eqv (R.getD i (0, 0)).2 (endC c W i)

theorem RangesAre.nil (c : Nat) (W : Nat → Nat) : RangesAre c W [] := fun _ h => absurd h (Nat.not_lt_zero _)
theorem RangesAre.snoc {c : Nat} {W : Nat → Nat} {R : List (Nat × Nat)} (h : RangesAre c W R) {s e : Nat} (hs : Eqv s (sumC W R.length)) (he : Eqv e (endC c W R.length)) : RangesAre c W (R ++ [(s, e)]) := by
  intro i hi
  rw [List.length_append] at hi
  by_cases hlt : i < R.length
  · have := h i hlt
    rw [List.getD_eq_getElem?_getD, List.getElem?_append_left hlt, ← List.getD_eq_getElem?_getD]
    exact this
  · have e0 : i = R.length := by simp at hi; omega
    subst e0
    rw [List.getD_eq_getElem?_getD, List.getElem?_append_right (Nat.le_refl _)]
    simpa using ⟨hs, he⟩

/-- The cells of a row of ranges. -/
def pcells (R : List (Nat × Nat)) : List Value := R.flatMap (fun d => [.float .f64 d.1, .float .f64 d.2])
theorem pcells_append (R : List (Nat × Nat)) (d : Nat × Nat) : pcells (R ++ [d]) = pcells R ++ [.float .f64 d.1, .float .f64 d.2] := by simp [pcells]
theorem pcells_length (R : List (Nat × Nat)) : (pcells R).length = R.length * 2 := by
  induction R with
  | nil => rfl
  | cons d R ih => simp only [pcells, List.flatMap_cons, List.length_append] at ih ⊢; rw [ih]; simp; omega
theorem pcells_at (R : List (Nat × Nat)) (i : Nat) (hi : i < R.length) : (pcells R)[i * 2]? = some (.float .f64 (R.getD i (0, 0)).1) ∧ (pcells R)[i * 2 + 1]? = some (.float .f64 (R.getD i (0, 0)).2) := by
  induction R generalizing i with
  | nil => exact absurd hi (Nat.not_lt_zero _)
  | cons d R ih =>
    cases i with
    | zero => simp [pcells]
    | succ i =>
      have := ih i (by simpa using hi)
      have e0 : (i + 1) * 2 = i * 2 + 1 + 1 := by omega
      simp only [pcells, List.flatMap_cons, List.cons_append, List.nil_append] at this ⊢
      rw [e0]
      simpa using this

/-! ### a row of weights, whatever block it lies in -/

/-- n weights behind the address; their block is no row of ranges. -/
def WRow (w : World) (a : Option Addr) (g n : Nat) (W : Nat → Nat) : Prop :=
  0 < n → a = some ⟨g, 0, none⟩ ∧ ∃ (cur : Array Value) (tw : TypeId), tw ≠ 35 ∧ w.heap[g]? = some (.cells cur tw (0, 0)) ∧ ∀ i, i < n → cur[i]? = some (.float .f64 (W i))

theorem WRow.cell {w : World} {a : Option Addr} {g n : Nat} {W : Nat → Nat} (h : WRow w a g n W) {i : Nat} (hi : i < n) : w.cell? ⟨g, i, none⟩ = some (.float .f64 (W i)) := by
  obtain ⟨_, cur, tw, _, hb, hc⟩ := h (by omega)
  simp [World.cell?, hb, hc i hi]

theorem WRow.of_own {w : World} {a : Option Addr} {b n : Nat} {W : Nat → Nat} (h : OwnF w a b n W) : WRow w a b n W := fun h0 => by
  obtain ⟨c, hb, _, hc⟩ := h.row h0
  exact ⟨h.at' h0, c, 23, by decide, hb, hc⟩

theorem WRow.carry {w w' : World} {a : Option Addr} {g n : Nat} {W : Nat → Nat} (h : WRow w a g n W) (hb : 0 < n → w'.heap[g]? = w.heap[g]?) : WRow w' a g n W := fun h0 => by
  obtain ⟨h1, cur, tw, h2, h3, h4⟩ := h h0
  exact ⟨h1, cur, tw, h2, (hb h0).trans h3, h4⟩

theorem WRow.still {w w' : World} {a : Option Addr} {g n : Nat} {W : Nat → Nat} (h : WRow w a g n W) (k : Still w w') : WRow w' a g n W := h.carry (fun _ => by rw [k.heap])
theorem WRow.alloc {w : World} {a : Option Addr} {g n : Nat} {W : Nat → Nat} (h : WRow w a g n W) (o : Obj) : WRow (w.alloc o) a g n W := h.carry (fun h0 => by
  obtain ⟨_, cur, tw, _, h3, _⟩ := h h0
  exact Below.heap_alloc w o g (Array.getElem?_eq_some_iff.1 h3).1)

/-- An append onto a row of ranges leaves the weights alone. -/
theorem WRow.grown {w w' : World} {a : Option Addr} {g n : Nat} {W : Nat → Nat} {base : Nat} {v : Value} {m : Nat} {xs : List Value} (h : WRow w a g n W) (hown : w.ownsRow base 35 2 v m xs) (hg : w.grownBy w' v.ownBlock) : WRow w' a g n W :=
  h.carry (fun h0 => by
    obtain ⟨_, cur, tw, h2, h3, _⟩ := h h0
    refine hg.block g (Array.getElem?_eq_some_iff.1 h3).1 (fun e => ?_)
    rcases hown.2 with ⟨rfl, _⟩ | ⟨g', cap, cur', rfl, _, hh, _⟩
    · simp [Value.ownBlock] at e
    · simp [Value.ownBlock] at e
      subst e
      rw [hh] at h3
      simp at h3
      exact h2 h3.2.symm)

/-! ### the equal weights: k of them stand, in the buffer bb or in a row of their own -/

structure Wts (w0 : World) (bb q : Nat) (w : World) (v : Value) (k : Nat) : Prop where
  below : Below bb w0 w
  lt : bb < w.heap.size
  val : (k ≤ 8 ∧ v = .slice (some ⟨bb, 0, none⟩) k 8 ∧ w.rowIs bb 63 8 (fun i => .float .f64 (if i < k then q else 0))) ∨ (8 < k ∧ w.ownsRow (bb + 1) 23 1 v k (List.replicate k (.float .f64 q)))

theorem Wts.still {w0 w w' : World} {bb q k : Nat} {v : Value} (h : Wts w0 bb q w v k) (s : Still w w') : Wts w0 bb q w' v k := by
  have e : w.grownBy w' none := ⟨s.os, s.tape, s.output, by rw [s.heap]; exact Nat.le_refl _, fun i _ _ => by rw [s.heap]⟩
  exact ⟨h.below.trans (s.below _), by rw [s.size]; exact h.lt, h.val.imp (fun ⟨a, b, c⟩ => ⟨a, b, s.rowIs c⟩) (fun ⟨a, b⟩ => ⟨a, b.kept e (by cases v.ownBlock <;> simp)⟩)⟩
theorem Wts.alloc {w0 w : World} {bb q k : Nat} {v : Value} (h : Wts w0 bb q w v k) (o : Obj) : Wts w0 bb q (w.alloc o) v k :=
  ⟨h.below.alloc (Nat.le_of_lt h.lt) o, by simp; have := h.lt; omega, h.val.imp (fun ⟨a, b, c⟩ => ⟨a, b, c.alloc o⟩) (fun ⟨a, b⟩ => ⟨a, b.alloc o⟩)⟩

theorem wts_start (w0 : World) (q : Nat) : Wts w0 w0.heap.size q (w0.alloc (.cells #[.float .f64 0, .float .f64 0, .float .f64 0, .float .f64 0, .float .f64 0, .float .f64 0, .float .f64 0, .float .f64 0] 63)) (.slice (some ⟨w0.heap.size, 0, none⟩) 0 8) 0 :=
  ⟨(Below.refl _ _).alloc (Nat.le_refl _) _, by simp, .inl ⟨by omega, rfl, World.rowIs_alloc w0 _ 63 _ (fun i hi => by
    match i, hi with
    | 0, _ => rfl
    | 1, _ => rfl
    | 2, _ => rfl
    | 3, _ => rfl
    | 4, _ => rfl
    | 5, _ => rfl
    | 6, _ => rfl
    | 7, _ => rfl)⟩⟩

/-- One weight more. -/
theorem run_append_wts {P : Program} (t ty : TypeId) (i : TypeInfo) (ht : P.underlying t = some (.slice 23)) (hi : P.info? 23 = some i) (hz : i.zero = some (.float .f64 0)) (hsize : i.size = 1) (hby : i.bytes = 8)
    {w0 w : World} {bb q k : Nat} {v : Value} (h : Wts w0 bb q w v k) (hk : k ≤ 65536) (ad : Addr) (c : Nat) (hnew : w.cell? ad = some (.float .f64 q)) (hsp : ad.spot = none) :
    ∃ v' w', (Builtin.append_ #[t, t] ty #[v, .slice (some ad) 1 c]).run P w = .ok v' w' ∧ Wts w0 bb q w' v' (k + 1) := by
  obtain ⟨ab, ao, asp⟩ := ad
  simp only at hsp
  subst hsp
  have hnews : ∀ j u, [Value.float .f64 q][j]? = some u → w.cell? ((⟨ab, ao, none⟩ : Addr).add j) = some u := by
    intro j u hu
    have hj : j < 1 := by have := (List.getElem?_eq_some_iff.1 hu).1; simpa using this
    obtain rfl : j = 0 := by omega
    simp at hu
    subst hu
    rw [WideShapes.add_plain]
    exact hnew
  have hone : ∀ u ∈ [Value.float .f64 q], u.oneCell' = true := by
    intro u hu
    simp at hu
    subst hu
    rfl
  rcases h.val with ⟨hle, rfl, hR⟩ | ⟨hgt, hown⟩
  · by_cases h8 : k < 8
    · have hrun := run_append_room_cells (P := P) w t ty 23 i ht hi bb 0 k 8 ⟨ab, ao, none⟩ 1 c [.float .f64 q] (by rw [hsize]; rfl) hnews hone (by omega)
        (fun j hj => by
          have : j = 0 := by simp at hj; omega
          subst this
          rw [hsize, show 0 + k * 1 + 0 = k by omega, hR.cell h8]
          rfl)
        (fun j hj => by
          have : j = 0 := by simp at hj; omega
          subst this
          rw [hsize, show 0 + k * 1 + 0 = k by omega]
          exact hR.frozen k)
      rw [hsize, show 0 + k * 1 = k by omega] at hrun
      refine ⟨_, _, hrun, ?_⟩
      show Wts w0 bb q (w.setCell ⟨bb, k, none⟩ (.float .f64 q)) _ _
      refine ⟨h.below.setCell (Nat.le_refl _) _, by simpa [World.setCell] using h.lt, .inl ⟨by omega, rfl, (hR.set k _).congr (fun j hj => ?_)⟩⟩
      by_cases e : j = k
      · subst e; simp
      · simp only [e, if_false]
        by_cases hlt : j < k
        · rw [if_pos hlt, if_pos (by omega)]
        · rw [if_neg hlt, if_neg (by omega)]
    · obtain rfl : k = 8 := by omega
      obtain ⟨v', w', hrun, r1, r2⟩ := run_append_arg_grows (P := P) w t ty 23 i (.float .f64 0) 1 8 ht hi hz hsize hby rfl (by decide) ⟨bb, 0, none⟩ 8 8 (List.replicate 8 (.float .f64 q)) rfl
        (fun j u hu => by
          have hj : j < 8 := by have := (List.getElem?_eq_some_iff.1 hu).1; simpa using this
          rw [List.getElem?_replicate, if_pos hj] at hu
          simp only [Option.some.injEq] at hu
          subst hu
          rw [WideShapes.add_plain, Nat.zero_add, hR.cell hj, if_pos hj])
        ⟨ab, ao, none⟩ 1 c [.float .f64 q] rfl hnews (by omega) (by unfold maxLen; omega) (by omega)
      refine ⟨v', w', hrun, h.below.grown r2 (Nat.le_of_lt h.lt) (fun k hk => by cases hk), Nat.lt_of_lt_of_le h.lt r2.size, .inr ⟨by omega, ?_⟩⟩
      have hm : w'.ownsRow (bb + 1) 23 1 v' (8 + 1) (List.replicate 8 (.float .f64 q) ++ [.float .f64 q]) := ⟨r1.1, r1.2.elim .inl fun ⟨g, cap, cur, h1, h2, h3⟩ => .inr ⟨g, cap, cur, h1, by have := h.lt; omega, h3⟩⟩
      exact hm
  · obtain ⟨v', w', hrun, r1, r2, _⟩ := run_append_own (P := P) w (bb + 1) t ty 23 i (.float .f64 0) 1 8 ht hi hz hsize hby rfl (by decide) v k _ hown ⟨ab, ao, none⟩ 1 c [.float .f64 q] rfl hnews hone (by unfold maxLen; omega) (by omega) h.lt
    refine ⟨v', w', hrun, h.below.grown r2 (Nat.le_of_lt h.lt) (fun k hk => by have := hown.lt k hk; omega), Nat.lt_of_lt_of_le h.lt r2.size, .inr ⟨by omega, ?_⟩⟩
    rw [List.replicate_succ']
    exact r1

theorem wpList_append_wts {P : Program} (w : World) {ops : Array Oper} {rest : List Oper} {o : Oper} {a : Act} {Q : Exit → Act → World → Prop} (hgd : o.guard = none) (s x : Operand) (t : TypeId)
    (ho : o.op = .call { callee := .builtin .append, args := #[s, x], argTypes := #[t, t] })
    (i : TypeInfo) (ht : P.underlying t = some (.slice 23)) (hi : P.info? 23 = some i) (hz : i.zero = some (.float .f64 0)) (hsize : i.size = 1) (hby : i.bytes = 8)
    {w0 : World} {bb q k : Nat} {v : Value} (hs : a.eval s = v) (h : Wts w0 bb q w v k) (hk : k ≤ 65536) (ad : Addr) (c : Nat) (hx : a.eval x = .slice (some ad) 1 c) (hnew : w.cell? ad = some (.float .f64 q)) (hsp : ad.spot = none)
    (hK : ∀ v' w', Wts w0 bb q w' v' (k + 1) → wpList P ops Q rest (a.put o.dst v') w') : wpList P ops Q (o :: rest) a w := by
  refine wpList_plain hgd fun K hK' => ?_
  obtain ⟨v', w', hrun, r⟩ := run_append_wts (P := P) t o.type i ht hi hz hsize hby h hk ad c hnew hsp
  unfold Oper.wp
  simp [execOp, ho, resolve, invoke, builtin, hs, hx, hrun, Result.andThen]
  exact hK' _ _ (hK v' w' r)

/-- At the end: the weights as the ranges' loop reads them. -/
theorem Wts.row {w0 w : World} {bb q k : Nat} {v : Value} (h : Wts w0 bb q w v k) : ∃ a g c, v = .slice a k c ∧ WRow w a g k (fun _ => q) := by
  rcases h.val with ⟨hle, rfl, c, hb, hn, hc⟩ | ⟨hgt, hown⟩
  · exact ⟨_, bb, 8, rfl, fun h0 => ⟨rfl, c, 63, by decide, hb, fun i hi => by rw [hc i (by omega)]; simp [hi]⟩⟩
  · rcases hown.2 with ⟨_, h0⟩ | ⟨g, cap, cur, rfl, hb, hg, hnc, hcm, hcs, htake⟩
    · omega
    · refine ⟨_, g, cap, rfl, fun h0 => ⟨rfl, cur, 23, by decide, hg, fun i hi => ?_⟩⟩
      have e : (cur.toList.take (k * 1))[i]? = (List.replicate k (Value.float .f64 q))[i]? := by rw [htake]
      rw [List.getElem?_take, if_pos (by omega), List.getElem?_replicate, if_pos hi] at e
      simpa using e

end Go.Proofs.Qxb6603048a
