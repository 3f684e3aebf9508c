/-
  THE WALK of FnDocumentScriptOneDocPerID (9) out of the contracts of its callees.
-/
import Derived.Test.Qxb6603048aDocScene
set_option linter.unusedVariables false
namespace Go.Proofs.Qxb6603048a.fnDocumentScript
open Go.RowKit DocMath

def Good (w : World) (e : Ending) (w' : World) : Prop := e = .returned (.bool true) ∧ Below w.heap.size w w'

set_option maxRecDepth 100000 in
set_option maxHeartbeats 4000000 in
theorem core (a a2 : Option Addr) (b off ns cap b2 off2 nk cap2 : Nat) (S K : Nat → ByteArray) (w : World) (h1 : Docs w a b off ns cap S) (h2 : Docs w a2 b2 off2 nk cap2 K) (hl : ns ≤ maxLen) (hl2 : nk ≤ maxLen) :
    Calls Try.prog 9 #[.slice a ns cap, .slice a2 nk cap2] w fun e w' => Good w e w' := by
  have C27 := bytes27 a a2 b off ns cap b2 off2 nk cap2 S K w h1 h2 hl hl2
  unfold maxLen at hl hl2
  go_enter Try.func9, Try.ntmps9
  go_wp2_with fail
  refine C27.mono ?_
  rintro e w' ⟨r, rfl, hw⟩
  subst hw
  clear C27
  cases r
  · go_wp2
    go_ret
    exact ⟨rfl, Below.refl _ _⟩
  by_cases hs4 : ns ≤ 4096
  rotate_left
  · have h4 : decide ((4096 : Int) < (ns : Int)) = true := decide_eq_true (by omega)
    go_wp2
    go_ret
    exact ⟨rfl, Below.refl _ _⟩
  have h4 : decide ((4096 : Int) < (ns : Int)) = false := decide_eq_false (by omega)
  by_cases hk4 : nk ≤ 4096
  rotate_left
  · have h5 : decide ((4096 : Int) < (nk : Int)) = true := decide_eq_true (by omega)
    go_wp2
    go_ret
    exact ⟨rfl, Below.refl _ _⟩
  have h5 : decide ((4096 : Int) < (nk : Int)) = false := decide_eq_false (by omega)
  go_wp2_with fail
  refine (bytes28 a b off ns cap S _ h1 (by omega)).mono ?_
  rintro e w1 ⟨r1, rfl, hw⟩
  subst hw
  go_wp2_with fail
  refine (bytes28 a2 b2 off2 nk cap2 K _ h2 (by omega)).mono ?_
  rintro e w2 ⟨r2, rfl, hw⟩
  subst hw
  go_wp2_with fail
  · go_ret
    exact ⟨rfl, Below.refl _ _⟩
  clear h4 h5
  refine (clone29_any a b off ns cap S _ h1 (by omega)).mono ?_
  rintro e w3 ⟨a1, rfl, hi1, hr1, hB1⟩
  have d1 := docs_of_clone (fun h => (h1.nil h).1) hi1 h1.size hr1
  have h23 := h2.below hB1 (Nat.le_refl _)
  go_wp2_with fail
  refine (clone29_any a2 b2 off2 nk cap2 K _ h23 (by omega)).mono ?_
  rintro e w4 ⟨aK, rfl, hiK, hrK, hBK⟩
  have dK := docs_of_clone (fun h => (h2.nil h).1) hiK h2.size hrK
  have d14 := d1.below hBK (Nat.le_refl _)
  go_wp2_with fail
  refine (make30_any a1 _ 0 ns ns S _ d14 (by omega)).mono ?_
  rintro e w5 ⟨a3, rfl, hi3, hr3, hB3⟩
  have d15 := d14.below hB3 (Nat.le_refl _)
  have dK5 := dK.below hB3 (Nat.le_refl _)
  have z1 := hB1.size
  have zK := hBK.size
  have z3 := hB3.size
  have HB : Hid (Below w2.heap.size w2 w5) := (hB1.trans (hBK.mono z1)).trans (hB3.mono (by omega))
  have HS : Hid _ := (stage_of (.cells #[.slice a3 ns ns, .slice none 0 0] 52) d15 dK5 hi3 hr3)
  have hs0 : w2.heap.size ≤ w5.heap.size := by omega
  clear z1 zK z3 hi1 hr1 hB1 d1 h23 hiK hrK hBK dK d14 hi3 hr3 hB3 d15 dK5 h1 h2
  go_wp2_with fail
  go_loopg [6] nk (fun gk i wr => ∃ (j : Nat) (v : Value), j ≤ nk ∧ gk = nk - j ∧ i = .int .i64 j ∧ Scene (w5.alloc (.cells #[.slice a3 ns ns, .slice none 0 0] 52)) wr w5.heap.size ns a3 v (dd (keyAt K) j))
  case atStart => exact ⟨0, _, Nat.zero_le _, rfl, rfl, scene_start w5 ns a3⟩
  case round =>
    obtain ⟨j, v, hj, rfl, rfl, sc⟩ := hrel
    have hLn := length_dd (keyAt K) j
    obtain ⟨aC, g, cC, rfl, hform⟩ := sc.form
    have hslt := sc.lt
    by_cases hlt : j < nk
    · have hlz : (j : Int) < (nk : Int) := by omega
      have hk := HS.out.keys.at0 sc.below HS.out.keysLt j hlt
      obtain ⟨k0, k1⟩ := hk
      obtain rfl := HS.out.keys.at' (by omega)
      have CD := Scene.document HS.out hs4 (by omega) sc (fun h => (hform h).1) (K (j * 2)) (K (j * 2 + 1))
      go_wp2_with fail
      refine CD.mono ?_
      rintro e wx ⟨hF, hw⟩
      subst hw
      clear CD
      rcases hF with ⟨i, hi, e0, e1, _, rfl⟩ | ⟨hmiss, hF⟩
      · -- it stands in Changed
        obtain ⟨rfl, hsg, _⟩ := hform (by omega)
        have hglt : g < wx.heap.size := (sc.own.lt g rfl).2
        obtain ⟨q0, q1, q2⟩ := sc.cellsAt i hi
        rw [e0] at q0
        rw [e1] at q1
        have f0 := sc.own.frozenAt (i * 3)
        have f1 := sc.own.frozenAt (i * 3 + 1)
        have f2 := sc.own.frozenAt (i * 3 + 2)
        have t1 := sc.cell1
        have hiz : (i : Int) < ((dd (keyAt K) j).length : Int) := by omega
        have R := ((sc.rewrite hi e0 e1).alloc (.cells #[.string (K (j * 2)), .string (K (j * 2 + 1)), .map none] 60)).drew
        have HR : Hid _ := R
        have HE : Hid (dd (keyAt K) (j + 1) = dd (keyAt K) j) := dd_old (mem_of_hit hi e0 e1)
        clear e0 e1 sc hform R
        have hpp := ptr_same
        go_wp2
        clear hpp
        go_region
        go_wp2
        go_roundg (nk - (j + 1))
        case measure => go_light; omega
        case rel => go_light; exact ⟨j + 1, _, by omega, rfl, by go_num, by rw [HE.out]; exact HR.out⟩
      · have HE : Hid (dd (keyAt K) (j + 1) = dd (keyAt K) j ++ [keyAt K j]) := dd_new (not_mem_of_miss hmiss)
        have t1 := sc.cell1
        have Hsc : Hid _ := sc
        obtain ⟨i0, hi0, hz0, hz1, hz2⟩ := info_parts Try.info60
        clear hform hmiss
        have own0 := sc.own
        clear sc
        generalize dd (keyAt K) j = L at *
        rcases hF with rfl | ⟨i, hi, e0, e1, rfl⟩
        · go_wp2
          go_region_law (refine step_append_own rfl (.tmp 119) (.tmp 121) 49 rfl (w5.heap.size + 1) 60 i0 _ 3 40 Try.underlying49 hi0 hz0 hz1 hz2 rfl (by decide) _ _ _ (by simp [Act.eval]) ((own0.alloc _).alloc _) ⟨wx.heap.size + 1, 0, none⟩ 1 1 [.string (K (j * 2)), .string (K (j * 2 + 1)), .map none] (by simp [Act.eval]) rfl (by exact cells_new3 _ _ _ _ _ _) (by exact ones3 _ _) (by unfold maxLen; omega) (by omega) (by simp; omega) ?_; intro v' w' hown' hgrow _; obtain ⟨g', cap', hv'⟩ := own_form hown'; subst hv'; obtain ⟨p1, p2⟩ := Scene.after (((Hsc.out.alloc _).alloc _).drew) hgrow; have HM : Hid _ := Scene.more (d := keyAt K j) (((Hsc.out.alloc _).alloc _).drew) hown' hgrow; clear hown' hgrow)
          all_goals
            go_wp2
            go_roundg (nk - (j + 1))
            case measure => go_light; omega
            case rel => go_light; exact ⟨j + 1, _, by omega, rfl, by go_num, by rw [HE.out]; exact HM.out⟩
        · have m := HS.out.madeAt Hsc.out.below i hi
          obtain ⟨m0, m1⟩ := m
          rw [e0] at m0
          rw [e1] at m1
          clear e0 e1
          go_wp2
          go_region_law (refine step_append_own rfl (.tmp 119) (.tmp 121) 49 rfl (w5.heap.size + 1) 60 i0 _ 3 40 Try.underlying49 hi0 hz0 hz1 hz2 rfl (by decide) _ _ _ (by simp [Act.eval]) ((own0.alloc _).alloc _) ⟨wx.heap.size + 1, 0, none⟩ 1 1 [.string (K (j * 2)), .string (K (j * 2 + 1)), .map none] (by simp [Act.eval]) rfl (by exact cells_new3 _ _ _ _ _ _) (by exact ones3 _ _) (by unfold maxLen; omega) (by omega) (by simp; omega) ?_; intro v' w' hown' hgrow _; obtain ⟨g', cap', hv'⟩ := own_form hown'; subst hv'; obtain ⟨p1, p2⟩ := Scene.after (((Hsc.out.alloc _).alloc _).drew) hgrow; have HM : Hid _ := Scene.more (d := keyAt K j) (((Hsc.out.alloc _).alloc _).drew) hown' hgrow; clear hown' hgrow)
          all_goals
            go_wp2
            go_roundg (nk - (j + 1))
            case measure => go_light; omega
            case rel => go_light; exact ⟨j + 1, _, by omega, rfl, by go_num, by rw [HE.out]; exact HM.out⟩
    · have hlz : ¬ (j : Int) < (nk : Int) := by omega
      obtain rfl : j = nk := by omega
      go_wp2_with fail
      go_loopg [12, 13] j (fun gk t i wy => ∃ j2 : Nat, j2 ≤ j ∧ gk = j - j2 ∧ i = .int .i64 j2 ∧ t = .int .i64 (dd (keyAt K) j2).length ∧ Scene (w5.alloc (.cells #[.slice a3 ns ns, .slice none 0 0] 52)) wy w5.heap.size ns a3 (.slice aC (dd (keyAt K) j).length cC) (dd (keyAt K) j))
      case atStart => exact ⟨0, Nat.zero_le _, rfl, rfl, rfl, sc⟩
      case round =>
        clear sc
        obtain ⟨j2, hj2, rfl, rfl, rfl, sc⟩ := hrel
        have hLn2 := length_dd (keyAt K) j2
        by_cases hlt2 : j2 < j
        · have hlz2 : (j2 : Int) < (j : Int) := by omega
          go_wp2
          go_loopg [14, 15] j2 (fun gk f i wi => ∃ q : Nat, q ≤ j2 ∧ gk = j2 - q ∧ i = .int .i64 q ∧ f = .bool true ∧ Scene (w5.alloc (.cells #[.slice a3 ns ns, .slice none 0 0] 52)) wi w5.heap.size ns a3 (.slice aC (dd (keyAt K) j).length cC) (dd (keyAt K) j) ∧ Hid (∀ p, p < q → keyAt K p ≠ keyAt K j2))
          case atStart => exact ⟨0, Nat.zero_le _, rfl, rfl, rfl, sc, fun p h => absurd h (Nat.not_lt_zero _)⟩
          case round =>
            clear sc
            obtain ⟨q, hq, rfl, rfl, rfl, sc, HR⟩ := hrel
            obtain ⟨k0, k1⟩ := HS.out.keys.at0 sc.below HS.out.keysLt j2 (by omega)
            obtain rfl := HS.out.keys.at' (by omega)
            by_cases hlt3 : q < j2
            · have hlz3 : (q : Int) < (j2 : Int) := by omega
              obtain ⟨m0, m1⟩ := HS.out.keys.at0 sc.below HS.out.keysLt q (by omega)
              have hq1 : (q : Int) < (j : Int) := by omega
              have hse := eql54
              by_cases hsm : keyAt K q = keyAt K j2
              · have hsb : same (K (q * 2), K (q * 2 + 1)) (K (j2 * 2), K (j2 * 2 + 1)) = true := same_iff.2 hsm
                have HE : Hid (dd (keyAt K) (j2 + 1) = dd (keyAt K) j2) := dd_old (mem_dd.2 ⟨q, hlt3, hsm⟩)
                clear hsm
                go_wp2
                go_quiet (fail)
                clear hse
                go_wp2
                go_roundg (j - (j2 + 1))
                case measure => go_light; omega
                case rel => go_light; exact ⟨j2 + 1, by omega, rfl, by go_num, by rw [HE.out], sc.still ((Still.refl _).drewN _)⟩
              · have hsb : same (K (q * 2), K (q * 2 + 1)) (K (j2 * 2), K (j2 * 2 + 1)) = false := same_no hsm
                have HN : Hid (¬ keyAt K q = keyAt K j2) := hsm
                clear hsm
                go_wp2
                go_quiet (fail)
                clear hse
                go_wp2
                go_roundg (j2 - (q + 1))
                case measure => go_light; omega
                case rel =>
                  go_light
                  refine ⟨q + 1, by omega, rfl, by go_num, rfl, sc.still ((Still.refl _).drewN _), fun p hp => ?_⟩
                  by_cases e : p = q
                  · subst e; exact HN.out
                  · exact HR.out p (by omega)
            · have hlz3 : ¬ (q : Int) < (j2 : Int) := by omega
              have hnew : ¬ keyAt K j2 ∈ dd (keyAt K) j2 := fun h => by
                obtain ⟨p, hp, e⟩ := mem_dd.1 h
                exact HR.out p (by omega) e
              have HE : Hid (dd (keyAt K) (j2 + 1) = dd (keyAt K) j2 ++ [keyAt K j2]) := dd_new hnew
              have hat := at_first hlt2 hnew
              have htl : (dd (keyAt K) j2).length < (dd (keyAt K) j).length := (List.getElem?_eq_some_iff.1 hat).1
              obtain ⟨x0, x1⟩ := (strs_eq htl).2 hat
              obtain ⟨rfl, _, _⟩ := hform (by omega)
              obtain ⟨y0, y1, _⟩ := sc.cellsAt _ htl
              rw [x0] at y0
              rw [x1] at y1
              have t1 := sc.cell1
              have hd0 : decide (((dd (keyAt K) j).length : Int) ≤ ((dd (keyAt K) j2).length : Int)) = false := decide_eq_false (by omega)
              have htz : ((dd (keyAt K) j2).length : Int) < ((dd (keyAt K) j).length : Int) := by omega
              have hq0 : ((K (j2 * 2)).toList == (K (j2 * 2)).toList) = true := by simp
              have HL2 : Hid ((dd (keyAt K) (j2 + 1)).length = (dd (keyAt K) j2).length + 1) := by show _ = _; rw [HE.out]; simp
              clear x0 x1 hat hnew HE HR hform
              go_wp2
              go_quiet (fail)
              go_wp2
              go_roundg (j - (j2 + 1))
              case measure => go_light; omega
              case rel => go_light; exact ⟨j2 + 1, by omega, rfl, by go_num, by rw [HL2.out]; go_num, sc.still ((Still.refl _).drewN _)⟩
        · have hlz2 : ¬ (j2 : Int) < (j : Int) := by omega
          obtain rfl : j2 = j := by omega
          have t1 := sc.cell1
          go_wp2
          go_loopg [16] j2 (fun gk i wy => ∃ j3 : Nat, j3 ≤ j2 ∧ gk = j2 - j3 ∧ i = .int .i64 j3 ∧ Scene (w5.alloc (.cells #[.slice a3 ns ns, .slice none 0 0] 52)) wy w5.heap.size ns a3 (.slice aC (dd (keyAt K) j2).length cC) (dd (keyAt K) j2))
          case atStart => exact ⟨0, Nat.zero_le _, rfl, rfl, sc⟩
          case round =>
            clear sc t1
            obtain ⟨j3, hj3, rfl, rfl, sc⟩ := hrel
            by_cases hlt3 : j3 < j2
            · have hlz3 : (j3 : Int) < (j2 : Int) := by omega
              obtain ⟨k0, k1⟩ := HS.out.keys.at0 sc.below HS.out.keysLt j3 hlt3
              obtain rfl := HS.out.keys.at' (by omega)
              obtain ⟨i, hi, e0, e1, hmin⟩ := first_at (mem_dd.2 ⟨j3, hlt3, rfl⟩ : keyAt K j3 ∈ dd (keyAt K) j2)
              obtain ⟨rfl, hsg, _⟩ := hform (by omega)
              have CD := fun n => Scene.documentHit HS.out hs4 (by omega) (sc.still ((Still.refl _).drewN n)) (fun _ => rfl) _ _ i hi e0 e1 hmin
              have hiz : (i : Int) < ((dd (keyAt K) j2).length : Int) := by omega
              have t1 := sc.cell1
              have hpp := ptr_same
              clear e0 e1 hmin hform
              go_wp2
              go_quiet ((go_at_call 31; exact Calls.quiet_of_same (CD _)))
              clear CD
              go_wp2
              go_roundg (j2 - (j3 + 1))
              case measure => go_light; omega
              case rel => go_light; exact ⟨j3 + 1, by omega, rfl, by go_num, sc.still ((Still.refl _).drewN _)⟩
            · have hlz3 : ¬ (j3 : Int) < (j2 : Int) := by omega
              have t0 := sc.cell0
              have C32 := unchanged32 a3 a1 w4.heap.size w2.heap.size ns ns ns S _ (by omega) HS.out.nil (fun h => (HS.out.made h).1) HS.out.stored.at' (fun i hi => HS.out.madeAt sc.below i hi) (fun i hi => HS.out.stored.at0 sc.below HS.out.storedLt i hi)
              go_wp2_with fail
              refine C32.mono ?_
              rintro e wz ⟨rfl, hst⟩
              go_wp2
              go_ret
              exact ⟨rfl, (((HB.out.alloc hs0 _).trans (sc.below.mono hs0)).trans (hst.below _))⟩
end Go.Proofs.Qxb6603048a.fnDocumentScript
