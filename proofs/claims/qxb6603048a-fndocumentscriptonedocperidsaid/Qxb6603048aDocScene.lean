/-
  WHAT STANDS IN MEMORY while FnDocumentScriptOneDocPerID runs: sb's own block, Changed's row, all that lies below; and what each step of the law's first loop does to it. No walk here.
-/
import Derived.Test.Qxb6603048aDocMath
import Derived.Test.Qxb6603048aDocWalks2
import Derived.Deep.RegionLaw
import Derived.Laws.StructEq
import Derived.Lib.Builder
import Derived.Deep.LoopGhost
namespace Go.Proofs.Qxb6603048a
open Go.RowKit DocMath

/-- What a clone left, as the next callee asks for it. -/
theorem docs_of_clone {w' : World} {a0 a : Option Addr} {b len : Nat} {S : Nat → ByteArray} (hnil : a0 = none → len = 0) (hi : a.isNone = a0.isNone) (hs : ∀ i, (S i).size ≤ 9223372036854775807)
    (h : a0.isNone = false → a = some ⟨b, 0, none⟩ ∧ w'.rowIs b 54 (len * 2) (fun i => .string (S i))) : Docs w' a b 0 len len S := by
  cases a0 with
  | none =>
    have h0 := hnil rfl
    subst h0
    exact ⟨fun h => absurd h (Nat.lt_irrefl _), fun _ => ⟨rfl, rfl⟩, fun i h => absurd h (by omega), hs⟩
  | some x =>
    obtain ⟨rfl, hr⟩ := h rfl
    exact ⟨fun _ => rfl, fun h => by simp at h, fun i h => by rw [Nat.zero_add]; exact hr.cell h, hs⟩

theorem doc3_cells {w : World} {b n : Nat} {S : Nat → ByteArray} (h : w.rowIs b 60 (n * 3) (doc3 S)) (i : Nat) (hi : i < n) :
    w.cell? ⟨b, i * 3, none⟩ = some (.string (S (i * 2))) ∧ w.cell? ⟨b, i * 3 + 1, none⟩ = some (.string (S (i * 2 + 1))) :=
  ⟨by rw [h.cell (by omega), doc3_0], by rw [h.cell (by omega), doc3_1]⟩

/-- sb's two cells. -/
def sbf (a3 : Option Addr) (ns : Nat) (v : Value) : Nat → Value := fun i => if i = 0 then .slice a3 ns ns else v

/-- What stands at the head of a round: below sb's block nothing has turned; sb holds Stored and Changed; Changed owns the documents of L. -/
structure Scene (wS wr : World) (s ns : Nat) (a3 : Option Addr) (v : Value) (L : List Doc) : Prop where
  below : Below s wS wr
  sb : wr.rowIs s 52 2 (sbf a3 ns v)
  own : wr.ownsRow (s + 1) 60 3 v L.length (cells L)

namespace Scene
variable {wS wr : World} {s ns : Nat} {a3 : Option Addr} {v : Value} {L : List Doc}

theorem lt (h : Scene wS wr s ns a3 v L) : s < wr.heap.size := h.sb.lt
theorem drew (h : Scene wS wr s ns a3 v L) : Scene wS wr.drew s ns a3 v L := ⟨h.below.drew, h.sb.drew, h.own.drew⟩
theorem still {w' : World} (h : Scene wS wr s ns a3 v L) (k : Still wr w') : Scene wS w' s ns a3 v L := by
  have e : wr.grownBy w' none := ⟨k.os, k.tape, k.output, by rw [k.heap]; exact Nat.le_refl _, fun i _ _ => by rw [k.heap]⟩
  exact ⟨h.below.trans (k.below _), k.rowIs h.sb, h.own.kept e (by cases v.ownBlock <;> simp)⟩
theorem alloc (h : Scene wS wr s ns a3 v L) (o : Obj) : Scene wS (wr.alloc o) s ns a3 v L :=
  ⟨h.below.alloc (Nat.le_of_lt h.lt) o, h.sb.alloc o, h.own.alloc o⟩

theorem cell0 (h : Scene wS wr s ns a3 v L) : wr.cell? ⟨s, 0, none⟩ = some (.slice a3 ns ns) := h.sb.cell (i := 0) (by omega)
theorem cell1 (h : Scene wS wr s ns a3 v L) : wr.cell? ⟨s, 1, none⟩ = some v := h.sb.cell (i := 1) (by omega)
theorem frozen1 (h : Scene wS wr s ns a3 v L) : wr.frozen? ⟨s, 1, none⟩ = false := h.sb.frozen 1

/-- Changed written out. -/
theorem form (h : Scene wS wr s ns a3 v L) : ∃ aC g cC, v = .slice aC L.length cC ∧ (0 < L.length → aC = some ⟨g, 0, none⟩ ∧ s < g ∧ v = .slice (some ⟨g, 0, none⟩) L.length cC) := by
  rcases h.own.2 with ⟨rfl, h0⟩ | ⟨g, cap, cur, rfl, hb, _⟩
  · exact ⟨none, 0, 0, by rw [h0], fun h => by omega⟩
  · exact ⟨some ⟨g, 0, none⟩, g, cap, rfl, fun _ => ⟨rfl, by omega, rfl⟩⟩

theorem cellsAt {g cC : Nat} (h : Scene wS wr s ns a3 (.slice (some ⟨g, 0, none⟩) L.length cC) L) (i : Nat) (hi : i < L.length) :
    wr.cell? ⟨g, i * 3, none⟩ = some (.string (strs L (i * 2))) ∧ wr.cell? ⟨g, i * 3 + 1, none⟩ = some (.string (strs L (i * 2 + 1))) ∧ wr.cell? ⟨g, i * 3 + 2, none⟩ = some (.map none) := by
  have c := cells_at L i
  rw [List.getElem?_eq_getElem hi] at c
  rw [strs_0, strs_1, List.getD_eq_getElem?_getD, List.getElem?_eq_getElem hi]
  exact ⟨by rw [h.own.cellAt _ (by omega), c.1]; rfl, by rw [h.own.cellAt _ (by omega), c.2.1]; rfl, by rw [h.own.cellAt _ (by omega), c.2.2]; rfl⟩

/-- A store into Changed's row of what is there already. -/
theorem again {g cC : Nat} (h : Scene wS wr s ns a3 (.slice (some ⟨g, 0, none⟩) L.length cC) L) {j : Nat} {u : Value} (hj : (cells L)[j]? = some u) : Scene wS (wr.setCell ⟨g, j, none⟩ u) s ns a3 (.slice (some ⟨g, 0, none⟩) L.length cC) L := by
  have hg : s + 1 ≤ g := by
    have := h.own.lt g rfl
    omega
  have e := (h.own.stored j u).1
  have es : (cells L).set j u = cells L := by
    apply List.ext_getElem?
    intro i
    rw [List.getElem?_set]
    by_cases e : j = i
    · subst e
      have hl : j < (cells L).length := (List.getElem?_eq_some_iff.1 hj).1
      rw [if_pos rfl, if_pos hl, hj]
    · simp [e]
  rw [es] at e
  exact ⟨h.below.setCell (by show s ≤ g; omega) _, h.sb.setOther (by show s ≠ g; omega) _, e⟩

/-- The document at i is written again. -/
theorem rewrite {g cC : Nat} (h : Scene wS wr s ns a3 (.slice (some ⟨g, 0, none⟩) L.length cC) L) {i : Nat} {nm vl : ByteArray} (hi : i < L.length) (h0 : strs L (i * 2) = nm) (h1 : strs L (i * 2 + 1) = vl) :
    Scene wS (((wr.setCell ⟨g, i * 3, none⟩ (.string nm)).setCell ⟨g, i * 3 + 1, none⟩ (.string vl)).setCell ⟨g, i * 3 + 2, none⟩ (.map none)) s ns a3 (.slice (some ⟨g, 0, none⟩) L.length cC) L := by
  have c := cells_at L i
  rw [(strs_eq hi).1 ⟨h0, h1⟩] at c
  exact ((h.again c.1).again c.2.1).again c.2.2

/-- One document more. -/
theorem more {w1 : World} {v' : Value} {d : Doc} (h : Scene wS wr s ns a3 v L) (hown : w1.ownsRow (s + 1) 60 3 v' (L.length + 1) (cells L ++ [.string d.1, .string d.2, .map none])) (hg : wr.grownBy w1 v.ownBlock) :
    Scene wS (w1.setCell ⟨s, 1, none⟩ v') s ns a3 v' (L ++ [d]) := by
  have hne : ∀ k, v.ownBlock = some k → s < k := fun k hk => by have := h.own.lt k hk; omega
  have hs1 : w1.rowIs s 52 2 (sbf a3 ns v) := h.sb.of_block (hg.block s h.lt (fun e => by have := hne s e.symm; omega))
  refine ⟨(h.below.grown hg (Nat.le_of_lt h.lt) (fun k hk => Nat.le_of_lt (hne k hk))).setCell (Nat.le_refl _) _, (hs1.set 1 v').congr (fun i hi => ?_), ?_⟩
  · simp only [sbf]
    by_cases e : i = 1
    · subst e; simp
    · have : i = 0 := by omega
      subst this; simp
  · rw [cells_append, List.length_append]
    exact ownsRow_setCell_below hown (by show s < s + 1; omega) _

end Scene

/-- What was laid ahead of the first loop and stands to the end: the clones, the made documents. -/
structure Stage (wS : World) (s ns nk b1 bK b3 : Nat) (a1 aK a3 : Option Addr) (S K : Nat → ByteArray) : Prop where
  keys : Docs wS aK bK 0 nk nk K
  keysLt : 0 < nk → bK < s
  stored : Docs wS a1 b1 0 ns ns S
  storedLt : 0 < ns → b1 < s
  made : 0 < ns → a3 = some ⟨b3, 0, none⟩ ∧ wS.rowIs b3 60 (ns * 3) (doc3 S)
  madeLt : 0 < ns → b3 < s
  nil : a3.isNone = a1.isNone

theorem Docs.at0 {wS wr : World} {a : Option Addr} {b s n cap : Nat} {S : Nat → ByteArray} (h : Docs wS a b 0 n cap S) (hb : Below s wS wr) (hlt0 : 0 < n → b < s) (i : Nat) (hi : i < n) :
    wr.cell? ⟨b, i * 2, none⟩ = some (.string (S (i * 2))) ∧ wr.cell? ⟨b, i * 2 + 1, none⟩ = some (.string (S (i * 2 + 1))) := by
  have hlt := hlt0 (by omega)
  have e0 := h.cell (i * 2) (by omega)
  have e1 := h.cell (i * 2 + 1) (by omega)
  rw [Nat.zero_add] at e0 e1
  exact ⟨(hb.cell (p := ⟨b, i * 2, none⟩) hlt).trans e0, (hb.cell (p := ⟨b, i * 2 + 1, none⟩) hlt).trans e1⟩

theorem Stage.madeAt {wS wr : World} {s ns nk b1 bK b3 : Nat} {a1 aK a3 : Option Addr} {S K : Nat → ByteArray} (h : Stage wS s ns nk b1 bK b3 a1 aK a3 S K) (hb : Below s wS wr) (i : Nat) (hi : i < ns) :
    wr.cell? ⟨b3, i * 3, none⟩ = some (.string (S (i * 2))) ∧ wr.cell? ⟨b3, i * 3 + 1, none⟩ = some (.string (S (i * 2 + 1))) :=
  doc3_cells (rowIs_below (h.made (by omega)).2 hb (h.madeLt (by omega))) i hi

/-- The stage stands when sb is laid. -/
theorem stage_of {w5 : World} {ns nk b1 bK b3 : Nat} {a1 aK a3 : Option Addr} {S K : Nat → ByteArray} (o : Obj) (d1 : Docs w5 a1 b1 0 ns ns S) (dK : Docs w5 aK bK 0 nk nk K) (hi3 : a3.isNone = a1.isNone)
    (hr3 : a1.isNone = false → a3 = some ⟨b3, 0, none⟩ ∧ w5.rowIs b3 60 (ns * 3) (doc3 S)) : Stage (w5.alloc o) w5.heap.size ns nk b1 bK b3 a1 aK a3 S K := by
  have hB : Below w5.heap.size w5 (w5.alloc o) := (Below.refl _ _).alloc (Nat.le_refl _) o
  have key : 0 < ns → a3 = some ⟨b3, 0, none⟩ ∧ w5.rowIs b3 60 (ns * 3) (doc3 S) := fun h => hr3 (by rw [d1.at' h]; rfl)
  exact ⟨dK.below hB (Nat.le_refl _), dK.lt, d1.below hB (Nat.le_refl _), d1.lt, fun h => ⟨(key h).1, (key h).2.alloc o⟩, fun h => (key h).2.lt, hi3⟩

theorem scene_start (w5 : World) (ns : Nat) (a3 : Option Addr) : Scene (w5.alloc (.cells #[.slice a3 ns ns, .slice none 0 0] 52)) (w5.alloc (.cells #[.slice a3 ns ns, .slice none 0 0] 52)) w5.heap.size ns a3 (.slice none 0 0) [] :=
  ⟨Below.refl _ _, World.rowIs_alloc w5 _ 52 _ (fun i hi => by
    match i, hi with
    | 0, _ => rfl
    | 1, _ => rfl), World.ownsRow_nil _ _ _ _⟩

/-- The key at j. -/
def keyAt (K : Nat → ByteArray) : Nat → Doc := fun j => (K (j * 2), K (j * 2 + 1))

/-- 'document' in a scene. -/
theorem Scene.document {wS wr : World} {s ns nk b1 bK b3 : Nat} {a1 aK a3 : Option Addr} {S K : Nat → ByteArray} {L : List Doc} {aC : Option Addr} {g cC : Nat} (st : Stage wS s ns nk b1 bK b3 a1 aK a3 S K) (hs : ns ≤ 4096) (hL : L.length ≤ 4096)
    (sc : Scene wS wr s ns a3 (.slice aC L.length cC) L) (hC : 0 < L.length → aC = some ⟨g, 0, none⟩) (nm vl : ByteArray) :
    Calls Try.prog 31 #[.pointer (some ⟨s, 0, none⟩), .string nm, .string vl] wr fun e w' => Post35 g b3 L.length ns (strs L) S nm vl wr e w' := by
  refine document31 s g b3 L.length ns cC ns aC a3 (strs L) S nm vl wr (by omega) (by omega) sc.cell0 sc.cell1 hC (fun h => (st.made h).1) (fun i hi => ?_) (fun i hi => st.madeAt sc.below i hi)
  obtain rfl := hC (by omega)
  have := sc.cellsAt i hi
  exact ⟨this.1, this.2.1⟩

/-- Where a document that stands in L is first met. -/
theorem first_at {L : List Doc} {d : Doc} (h : d ∈ L) : ∃ i, i < L.length ∧ strs L (i * 2) = d.1 ∧ strs L (i * 2 + 1) = d.2 ∧ ∀ p, p < i → ¬ (strs L (p * 2) = d.1 ∧ strs L (p * 2 + 1) = d.2) := by
  have h0 : ∃ i, i < L.length ∧ strs L (i * 2) = d.1 ∧ strs L (i * 2 + 1) = d.2 := by
    obtain ⟨i, hi, e⟩ := List.getElem_of_mem h
    have := (strs_eq (a := d.1) (b := d.2) hi).2 (by rw [List.getElem?_eq_getElem hi, e])
    exact ⟨i, hi, this.1, this.2⟩
  obtain ⟨i, ⟨hi, e0, e1⟩, hmin⟩ := exists_least h0
  exact ⟨i, hi, e0, e1, fun p hp hh => by have := hmin p ⟨by omega, hh.1, hh.2⟩; omega⟩

/-- 'document' at a document that stands in Changed: its place is known ahead. -/
theorem Scene.documentHit {wS wr : World} {s ns nk b1 bK b3 : Nat} {a1 aK a3 : Option Addr} {S K : Nat → ByteArray} {L : List Doc} {aC : Option Addr} {g cC : Nat} (st : Stage wS s ns nk b1 bK b3 a1 aK a3 S K) (hs : ns ≤ 4096) (hL : L.length ≤ 4096)
    (sc : Scene wS wr s ns a3 (.slice aC L.length cC) L) (hC : 0 < L.length → aC = some ⟨g, 0, none⟩) (nm vl : ByteArray) (i : Nat) (hi : i < L.length) (e0 : strs L (i * 2) = nm) (e1 : strs L (i * 2 + 1) = vl)
    (hmin : ∀ p, p < i → ¬ (strs L (p * 2) = nm ∧ strs L (p * 2 + 1) = vl)) :
    Calls Try.prog 31 #[.pointer (some ⟨s, 0, none⟩), .string nm, .string vl] wr fun e w' => e = .returned (.tuple #[.pointer (some ⟨g, i * 3, none⟩), .int .i64 i]) ∧ w' = wr := by
  refine (Scene.document st hs hL sc hC nm vl).mono ?_
  rintro e w' ⟨hF, hw⟩
  refine ⟨?_, hw⟩
  rcases hF with ⟨k, hk, f0, f1, hm, rfl⟩ | ⟨hmiss, _⟩
  · have : k = i := by
      rcases Nat.lt_trichotomy k i with h | h | h
      · exact absurd ⟨f0, f1⟩ (hmin k h)
      · exact h
      · exact absurd ⟨e0, e1⟩ (hm i h)
    subst this
    rfl
  · exact absurd ⟨e0, e1⟩ (hmiss i hi)

theorem own_form {w : World} {base : Nat} {e : TypeId} {size : Nat} {v : Value} {n : Nat} {xs : List Value} (h : w.ownsRow base e size v (n + 1) xs) : ∃ g cap, v = .slice (some ⟨g, 0, none⟩) (n + 1) cap := by
  rcases h.2 with ⟨_, h0⟩ | ⟨g, cap, cur, rfl, _⟩
  · exact absurd h0 (by omega)
  · exact ⟨g, cap, rfl⟩

/-- sb's second cell behind an append onto Changed. -/
theorem Scene.after {wS wr w1 : World} {s ns : Nat} {a3 : Option Addr} {v : Value} {L : List Doc} (h : Scene wS wr s ns a3 v L) (hg : wr.grownBy w1 v.ownBlock) : w1.cell? ⟨s, 1, none⟩ = some v ∧ w1.frozen? ⟨s, 1, none⟩ = false := by
  have hne : ∀ k, v.ownBlock = some k → s < k := fun k hk => by have := h.own.lt k hk; omega
  have hs1 : w1.rowIs s 52 2 (sbf a3 ns v) := h.sb.of_block (hg.block s h.lt (fun e => by have := hne s e.symm; omega))
  exact ⟨hs1.cell (i := 1) (by omega), hs1.frozen 1⟩

theorem cells_new3 (w : World) (o : Obj) (a b c : Value) (t : TypeId) : ∀ j u, [a, b, c][j]? = some u → ((w.alloc o).alloc (.cells #[a, b, c] t)).drew.cell? ((⟨w.heap.size + 1, 0, none⟩ : Addr).add j) = some u := by
  intro j u hu
  have e : (w.alloc o).heap.size = w.heap.size + 1 := by simp
  have h := (World.rowIs_alloc (w.alloc o) #[a, b, c] t (fun i => [a, b, c].getD i a) (fun i hi => by
    match i, hi with
    | 0, _ => rfl
    | 1, _ => rfl
    | 2, _ => rfl)).drew
  rw [e] at h
  rw [WideShapes.add_plain, Nat.zero_add]
  have hj : j < 3 := by
    have := (List.getElem?_eq_some_iff.1 hu).1
    simpa using this
  rw [h.cell hj]
  rw [List.getD_eq_getElem?_getD, hu]
  rfl

theorem ones3 (a b : ByteArray) : ∀ u ∈ [Value.string a, .string b, .map none], u.oneCell' = true := by
  intro u hu
  simp at hu
  rcases hu with rfl | rfl | rfl <;> rfl

/-- append onto a slice that the call itself has built, as one step of a region that draws. -/
theorem step_append_own {P : Program} {ops : Array Oper} {o : Oper} {a : Act} {w : World} {K : Act → World → Prop} {Q : Exit → Act → World → Prop} {E : Prop}
    (hgd : o.guard = none) (s x : Operand) (t : TypeId) (ho : o.op = Op.call { callee := Callee.builtin Builtin.append, args := #[s, x], argTypes := #[t, t] })
    (base : Nat) (e : TypeId) (i : TypeInfo) (z : Value) (size bytes : Nat) (ht : P.underlying t = some (.slice e)) (hi : P.info? e = some i) (hz : i.zero = some z)
    (hsize : i.size = size) (hby : i.bytes = bytes) (hzs : z.cells.size = size) (hsz : 0 < size)
    (v : Value) (n : Nat) (xs : List Value) (hs : a.eval s = v) (hown : w.ownsRow base e size v n xs)
    (ad : Addr) (m c : Nat) (news : List Value) (hx : a.eval x = .slice (some ad) m c) (hl : news.length = m * size) (hnews : ∀ j u, news[j]? = some u → w.cell? (ad.add j) = some u) (h1 : ∀ u ∈ news, u.oneCell' = true)
    (h63 : n + m ≤ maxLen) (hbytes : (n + m) * bytes ≤ 140737488355328) (hbase : base ≤ w.heap.size)
    (h : ∀ v' w', w'.ownsRow base e size v' (n + m) (xs ++ news) → w.grownBy w' v.ownBlock → (v' = .slice none 0 0 ↔ v = .slice none 0 0 ∧ m = 0) → K (a.put o.dst v') w') :
    if Region.wanted o (yielded ops a.tmps) = true then Oper.wp P o a w K Q else E := by
  have hw : Region.wanted o (yielded ops a.tmps) = true := by simp [Region.wanted, hgd]
  rw [if_pos hw]
  exact wp_append_own w s x t ho base e i z size bytes ht hi hz hsize hby hzs hsz v n xs hs hown ad m c news hx hl hnews h1 h63 hbytes hbase h

/-- A pointer held against itself. -/
theorem ptr_same (a : Addr) (w : World) : (binOp .neq 55 (.pointer (some a)) (.pointer (some a))).run Try.prog w = .ok (.bool false) w := by
  obtain ⟨i, hi, _⟩ := Option.map_eq_some_iff.1 Try.info60
  exact Lib.run_neq_ptr_same w a Try.underlying55 hi

theorem same_no {d e : Doc} (h : ¬ d = e) : same d e = false := by
  cases h' : same d e with
  | false => rfl
  | true => exact absurd (same_iff.1 h') h

/-- '==' at two Docs. -/
theorem eql54 (a b c d : ByteArray) (w : World) : (binOp .eql 54 (.agg #[.string a, .string b]) (.agg #[.string c, .string d])).run Try.prog w = .ok (.bool (same (a, b) (c, d))) w := by
  have u9 := Try.underlying9
  have a9 := Try.isAgg9
  have z9 := Try.sizeOf9
  have hS : Try.prog.underlying 54 = some (.struct (Try.prog.fieldsOf 54)) := by kernel_rfl
  have hp : Try.prog.stoodInHeld 54 = false := by kernel_rfl
  rw [run_eql_struct, show (10000 : Nat) = 9999 + 1 from rfl, run_equalIn_agg w 9999 54 _ _ hS hp]
  simp only [Program.fieldsOf, Try.underlying54]
  go_simp
  simp only [bytes_eq]
  by_cases h1 : a = c
  · by_cases h2 : b = d
    · rw [if_pos h1, if_pos h2, same_iff.2 (by rw [h1, h2])]
    · rw [if_pos h1, if_neg h2, same_no (fun e => h2 (congrArg Prod.snd e))]
  · rw [if_neg h1, same_no (fun e => h1 (congrArg Prod.fst e))]

end Go.Proofs.Qxb6603048a
