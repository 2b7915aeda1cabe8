/-
  MERGED BY A PROGRAM OF THIS SESSION (wip/pack.py): QD11, PureFnDebugEq, LawFnDebugEq.
-/
import Derived.Test.YtabaldpjahcilaaDoorVB
import Derived.Test.YtabaldpjahcilaaDoorVD
import Derived.Test.YtabaldpjahcilaaDoorVG
import Derived.Test.YtabaldpjahcilaaDoorVF
import Derived.Test.YtabaldpjahcilaaDoorCards
import Derived.Test.YtabaldpjahcilaaDoorTie
import Derived.LaidMore
import Derived.Lib.LaidTab
import Derived.LaidSub
import Derived.Stop.Joined
import Derived.SevenTiedAt
import Derived.Test.YtabaldpjahcilaaDoorFactsA
import Derived.Test.YtabaldpjahcilaaDoorFactsB
import Derived.Test.YtabaldpjahcilaaDoorFactsC
import Derived.Test.YtabaldpjahcilaaDoorFactsD
import Derived.WalkKit
import Derived.ProofKit
import Derived.OpenShut
import Derived.ShutString
import Derived.ChangeOld
import Derived.Below
import Derived.SizedLaws
import Derived.SliceStrings
-- WRITTEN BY A PROGRAM OF THIS SESSION (wip/print2.py): the print, with contracts of this session's own let in. Not trusted: Lean checks it.
namespace Go.Proofs.YtabaldpjahcilaaDoor.QD
open Go.RowKit Go.Proofs.YtabaldpjahcilaaDoorW.PrintWords Go.Proofs.YtabaldpjahcilaaDoorW.PrintLast Go.Proofs.YtabaldpjahcilaaDoorW.PrintMore
attribute [local go_sem] max2_int min2_int max_two min_two max_three min_three max_four min_four   -- for this text's walks alone
set_option linter.unusedVariables false
set_option linter.unusedSimpArgs false

open Go.Proofs.YtabaldpjahcilaaDoor.H
/-! ### laws_FnDebugEq: function 5 -/
mutual
def laws_FnDebugEq.j0 : Nat → ByteArray → Bool → Int → Int → ByteArray → List (S27) → Option (Bool)
  | 0, _, _, _, _, _, _ => none
  | k + 1, x0, x15, x141000, x141001, x141002, x141003 => if x15 = true then (some true) else ((spec_NameOnly.f k x0).bind fun t142 => (if t142 = true then ((spec_ValueRight.f k x141000 x141001 x141002 x141003 false).bind fun t143 => (if t143 = true then (if x141000 = 0 then (laws_FnDebugEq.j1 k x0 true x141000 x141001 x141002 x141003) else (laws_FnDebugEq.j1 k x0 (decide ((x0.size : Int) > 40)) x141000 x141001 x141002 x141003)) else (laws_FnDebugEq.j1 k x0 true x141000 x141001 x141002 x141003))) else (laws_FnDebugEq.j1 k x0 true x141000 x141001 x141002 x141003)))
def laws_FnDebugEq.j1 : Nat → ByteArray → Bool → Int → Int → ByteArray → List (S27) → Option (Bool)
  | 0, _, _, _, _, _, _ => none
  | k + 1, x0, x33, x141000, x141001, x141002, x141003 => if x33 = true then (some true) else ((impl_EqOf.f (([x0] : List ByteArray)) (([(⟨x141000, x141001, x141002, x141003⟩ : S27)] : List (S27)))).bind fun bt150 => (if bt150.2.2 = true then ((impl_Debug.f bt150.1 bt150.2.1).bind fun t155 => (if x0.size + 4 ≤ 9223372036854775807 then ((spec_Debug.f k (x0 ++ (⟨#[32, 61, 32, 63]⟩ : ByteArray)) (([(⟨x141000, x141001, x141002, x141003⟩ : S27)] : List (S27)))).bind fun t159 => (some (t155.toList == t159.toList))) else (none))) else (some false)))
end
def laws_FnDebugEq.f (k : Nat) (a0 : ByteArray) (a1_0 : Int) (a1_1 : Int) (a1_2 : ByteArray) (l1_3 : List (S27)) : Option (Bool) := if (a0.size : Int) > 2147483647 then (laws_FnDebugEq.j0 k a0 true a1_0 a1_1 a1_2 l1_3) else ((laws_zzFits2.f a1_0 a1_1 a1_2 l1_3).bind fun t141 => (laws_FnDebugEq.j0 k a0 (!t141) a1_0 a1_1 a1_2 l1_3))
def laws_FnDebugEq.T6 : Bool × List (List Nat × List Nat) := (true, [([], []), ([0], [0]), ([1], [1]), ([1], [1]), ([2, 3, 1, 1], [1, 2, 3]), ([1], [1]), ([5, 1], [1, 5]), ([1], [1]), ([7, 1], [1, 7]), ([6, 8, 4, 1], [1, 6, 8]), ([4, 9, 1], [1, 4, 9]), ([1, 10], [1, 10]), ([11, 9, 0, 1, 2, 3, 4, 5, 6, 7, 8, 9, 10, 11], [11])])
def laws_FnDebugEq.B6 : List Nat := [0, 1, 3, 3, 15, 3, 35, 3, 131, 511, 1023, 2047, 4095]
theorem laws_FnDebugEq.tab6 : rtab .any (opsOf Tryd.f5 6) = laws_FnDebugEq.T6 := by kernel_rfl
theorem laws_FnDebugEq.bits6 : waitsOk laws_FnDebugEq.T6.2 laws_FnDebugEq.B6 = true := by kernel_rfl
set_option maxHeartbeats 8000000 in
set_option maxRecDepth 100000 in
theorem laws_FnDebugEq.calls (k : Nat) (a0 : ByteArray) (a1_0 : Int) (a1_1 : Int) (a1_2 : ByteArray) (P1_3_ : Nat → Prop) (A1_3 : Option Addr) (c1_3 : Nat) (l1_3 : List (S27)) (r : Bool) (w : World) (ht_ : Tab w) (hs1_3 : Kd.V k27 27 w w.heap.size (fun k_ => P1_3_ k_) (.slice A1_3 l1_3.length c1_3) l1_3) (h : laws_FnDebugEq.f k a0 a1_0 a1_1 a1_2 l1_3 = some r) :
    Calls Tryd.prog 5 #[.string a0, .agg #[.int .i64 a1_0, .int .i64 a1_1, .string a1_2, .slice A1_3 l1_3.length c1_3]] w fun e w' => e = .returned (.bool r) ∧ Below w.heap.size w w' := by
  have hu27 := Tryd.underlying27
  have HO1_3 := Aside0.mk (show Kd.V k27 27 w w.heap.size (fun k_ => (P1_3_ k_ ∨ w.heap.size ≤ k_)) (.slice A1_3 l1_3.length c1_3) l1_3 from Kd.V_mono hs1_3 (fun k_ hk => .inl hk))
  have HB := Aside0.mk (Below.refl w.heap.size w)
  have HTAB_ := Aside0.mk (tab_below ht_)
  clear ht_
  have H : (if (a0.size : Int) > 2147483647 then (laws_FnDebugEq.j0 k a0 true a1_0 a1_1 a1_2 l1_3) else ((laws_zzFits2.f a1_0 a1_1 a1_2 l1_3).bind fun t141 => (laws_FnDebugEq.j0 k a0 (!t141) a1_0 a1_1 a1_2 l1_3))) = some r := h
  clear h
  have HC3 := Aside0.mk H
  clear H
  go_enter Tryd.func5, Tryd.ntmps5
  go_upto_region 1 with (first | ((with_reducible refine gate_dst (N := 3) rfl ?_); (try (refine gate_guard (by rfl) ?_; dsimp only)); refine box_event ?hg (N := 3) ?hd (cs := #[.int .i64 a1_0, .int .i64 a1_1, .string a1_2, .slice A1_3 l1_3.length c1_3]) (t := 27) ?hr ?_; (case hd => rfl); (case hg => rfl); (case hr => first | (go_simp; done) | (go_simp; rfl)); intro gb140 hg w4 hbox hb; have n0_ := Aside0.mk (Kd.V_below (Kd.V_elderB (by (with_reducible repeat (first | apply Kd.V_alloc | apply Kd.V_drewN | apply Kd.V_drew)); exact HO1_3.out) gb140 (Nat.le_of_eq hg.symm)) hb); have n1_ := Aside0.mk (below_step (by repeat (first | (with_reducible first | exact HB.out | apply below_alloc | apply pw_below_drewN | apply below_drew1) | exact HB.out)) hb); have n2_ := Aside0.mk (hbox); have n3_ := Aside0.mk ((by rw [hg]; exact (below_size (by repeat (first | (with_reducible first | exact HB.out | apply below_alloc | apply pw_below_drewN | apply below_drew1) | exact HB.out))) : w.heap.size ≤ gb140)); have n4_ := Aside0.mk ((by rw [hg]; exact (below_size (by repeat (first | (with_reducible first | exact HB.out | apply below_alloc | apply pw_below_drewN | apply below_drew1) | exact HB.out))) : w.heap.size ≤ gb140)); clear HO1_3; clear HB; have HO1_3 := n0_; have HB := n1_; have BK140 := n2_; have GW140 := n3_; have GE140 := n4_; clear n0_ n1_ n2_ n3_ n4_; clear hb hbox hg))
  (try simp only [Act.put, List.setIfInBounds_toArray, List.set_cons_zero, List.set_cons_succ])
  go_cut [15] (fun v15 wc => ∃ (kq : Nat) (x15_2 : Bool), v15 = .bool x15_2 ∧ Aside0 (laws_FnDebugEq.j0 kq a0 x15_2 a1_0 a1_1 a1_2 l1_3 = some r) ∧ Aside0 (kq ≤ k) ∧ Aside0 (Kd.V k27 27 wc w.heap.size (fun k_ => (P1_3_ k_ ∨ w.heap.size ≤ k_) ∧ k_ ≠ gb140) (.slice A1_3 l1_3.length c1_3) l1_3) ∧ Aside0 (wc.heap[gb140]? = some (.cells #[.int .i64 a1_0, .int .i64 a1_1, .string a1_2, (.slice A1_3 l1_3.length c1_3)] 27 (0, 0))) ∧ Aside0 (Below w.heap.size w wc))
  case first =>
    have H := HC3.out
    clear HC3
    by_cases c5 : (a0.size : Int) > 2147483647
    · rw [if_pos c5] at H
      have c5b0 : decide (2147483647 < (a0.size : Int)) = true := decide_eq_true c5
      have c5b1 : decide (2147483647 < a0.size) = true := decide_eq_true (by omega)
      clear c5
      (first | rw [c5b0] | (simp only [i64_w, i32_w]; rw [c5b0]) | skip)
      have H' := Aside0.mk H
      clear H
      go_wp2
      go_meet
      case rel => exact ⟨_, (true), (by first | rfl | (simp; done) | (simp [*]; done)), H', ⟨by first | omega | exact Nat.le_refl _⟩, ⟨by (with_reducible repeat (first | apply Kd.V_alloc | apply Kd.V_drewN | apply Kd.V_drew)); exact HO1_3.out⟩, ⟨by (with_reducible repeat (first | refine blk_drewN ?_ _ | refine blk_drew ?_ | refine blk_alloc ?_ _)); exact BK140.out⟩, ⟨by repeat (first | (with_reducible first | exact HB.out | apply below_alloc | apply pw_below_drewN | apply below_drew1 | refine below_set ?_ GE140.out) | exact HB.out)⟩⟩
    · rw [if_neg c5] at H
      have c5b0 : decide (2147483647 < (a0.size : Int)) = false := decide_eq_false c5
      have c5b1 : decide (2147483647 < a0.size) = false := decide_eq_false (by omega)
      clear c5
      (first | rw [c5b0] | (simp only [i64_w, i32_w]; rw [c5b0]) | skip)
      replace H := Option.bind_eq_some_iff.mp H
      obtain ⟨t141, A60, H⟩ := H
      replace H : (laws_FnDebugEq.j0 k a0 (!t141) a1_0 a1_1 a1_2 l1_3) = some r := H
      have A6 := Aside0.mk A60
      clear A60
      have H' := Aside0.mk H
      clear H
      have hcz7_0 : w4.cell? ⟨gb140, 0, none⟩ = some (.int .i64 a1_0) := (blk_cell BK140.out 0).trans rfl
      have hcz7_1 : w4.cell? ⟨gb140, 1, none⟩ = some (.int .i64 a1_1) := (blk_cell BK140.out 1).trans rfl
      have hcz7_2 : w4.cell? ⟨gb140, 2, none⟩ = some (.string a1_2) := (blk_cell BK140.out 2).trans rfl
      have hcz7_3 : w4.cell? ⟨gb140, 3, none⟩ = some (.slice A1_3 l1_3.length c1_3) := (blk_cell BK140.out 3).trans rfl
      have hfz7_0 := blk_frozen BK140.out 0
      have hfz7_1 := blk_frozen BK140.out 1
      have hfz7_2 := blk_frozen BK140.out 2
      have hfz7_3 := blk_frozen BK140.out 3
      go_wp2_with (first | (go_at_call 10; (with_reducible refine (laws_zzFits2.calls a1_0 a1_1 a1_2 _ _ l1_3 t141 _ ?side1 ?side2 A6.out).mono ?_); (case side1 => repeat (first | exact (Kd.V_reads' HO1_3.out).2.2 | (with_reducible refine Kd.C_alloc ?_ _) | (with_reducible refine Kd.C_drewN ?_ _) | (with_reducible refine Kd.C_drew ?_))); (case side2 => exact (Kd.V_reads' HO1_3.out).2.1); rintro e w8 ⟨rfl, hb⟩; have n0_ := Aside0.mk (Kd.V_below (by (with_reducible repeat (first | apply Kd.V_alloc | apply Kd.V_drewN | apply Kd.V_drew)); exact HO1_3.out) hb); have n1_ := Aside0.mk (blk_below (g := gb140) (o := .cells #[.int .i64 a1_0, .int .i64 a1_1, .string a1_2, .slice A1_3 l1_3.length c1_3] 27 (0, 0)) (by (with_reducible repeat (first | refine blk_drewN ?_ _ | refine blk_drew ?_ | refine blk_alloc ?_ _)); exact BK140.out) hb); have n2_ := Aside0.mk (below_step (by repeat (first | (with_reducible first | exact HB.out | apply below_alloc | apply pw_below_drewN | apply below_drew1 | refine below_set ?_ GE140.out) | exact HB.out)) hb); clear HO1_3; clear BK140; clear HB; have HO1_3 := n0_; have BK140 := n1_; have HB := n2_; clear n0_ n1_ n2_; (try clear hb); (try clear hb2); (try clear hk); (try clear hi)))
      go_meet
      case rel => exact ⟨_, (!t141), (by first | rfl | (simp; done) | (simp [*]; done)), H', ⟨by first | omega | exact Nat.le_refl _⟩, ⟨by (with_reducible repeat (first | apply Kd.V_alloc | apply Kd.V_drewN | apply Kd.V_drew)); exact HO1_3.out⟩, ⟨by (with_reducible repeat (first | refine blk_drewN ?_ _ | refine blk_drew ?_ | refine blk_alloc ?_ _)); exact BK140.out⟩, ⟨by repeat (first | (with_reducible first | exact HB.out | apply below_alloc | apply pw_below_drewN | apply below_drew1 | refine below_set ?_ GE140.out) | exact HB.out)⟩⟩
  case rest =>
    clear HC3
    try clear c1
    try clear p2
    try clear c5
    try clear c5b0
    try clear c5b1
    try clear hcz7_0
    try clear hcz7_1
    try clear hcz7_2
    try clear hcz7_3
    try clear hfz7_0
    try clear hfz7_1
    try clear hfz7_2
    try clear hfz7_3
    obtain ⟨kq, x15_2, rfl, HA, HJ2, HO_141003, BK140, HB⟩ := hcut
    cases kq with
    | zero => exact absurd HA.out (by simp [laws_FnDebugEq.j0])
    | succ kj2 =>
      have H := HA.out
      clear HA
      simp only [laws_FnDebugEq.j0] at H
      by_cases c9 : x15_2 = true
      · subst c9
        have H1 : (some true) = some r := by rw [if_pos rfl] at H; exact H
        clear H
        have H := H1
        clear H1
        obtain rfl := Option.some.inj H
        go_wp2
        go_ret
        exact ⟨by first | rfl | (simp [errW_none, errW_some] <;> rfl) | (simp [*, errW_none, errW_some] <;> rfl), by repeat (first | (with_reducible first | exact HB.out | apply below_alloc | apply pw_below_drewN | apply below_drew1 | refine below_set ?_ GE140.out) | exact HB.out)⟩
      · replace c9 := Bool.eq_false_iff.mpr c9
        subst c9
        have H1 : ((spec_NameOnly.f kj2 a0).bind fun t142 => (if t142 = true then ((spec_ValueRight.f kj2 a1_0 a1_1 a1_2 l1_3 false).bind fun t143 => (if t143 = true then (if a1_0 = 0 then (laws_FnDebugEq.j1 kj2 a0 true a1_0 a1_1 a1_2 l1_3) else (laws_FnDebugEq.j1 kj2 a0 (decide ((a0.size : Int) > 40)) a1_0 a1_1 a1_2 l1_3)) else (laws_FnDebugEq.j1 kj2 a0 true a1_0 a1_1 a1_2 l1_3))) else (laws_FnDebugEq.j1 kj2 a0 true a1_0 a1_1 a1_2 l1_3))) = some r := by rw [if_neg (show ¬ (false = true) by decide)] at H; exact H
        clear H
        have H := H1
        clear H1
        have HC10 := Aside0.mk H
        clear H
        go_upto_region 3 with (fail)
        go_cut [33] (fun v33 wc => ∃ (kq : Nat) (x33_9 : Bool), v33 = .bool x33_9 ∧ Aside0 (laws_FnDebugEq.j1 kq a0 x33_9 a1_0 a1_1 a1_2 l1_3 = some r) ∧ Aside0 (kq ≤ kj2) ∧ Aside0 (Kd.V k27 27 wc w.heap.size (fun k_ => (P1_3_ k_ ∨ w.heap.size ≤ k_) ∧ k_ ≠ gb140) (.slice A1_3 l1_3.length c1_3) l1_3) ∧ Aside0 (wc.heap[gb140]? = some (.cells #[.int .i64 a1_0, .int .i64 a1_1, .string a1_2, (.slice A1_3 l1_3.length c1_3)] 27 (0, 0))) ∧ Aside0 (Below w.heap.size w wc))
        case first =>
          have H := HC10.out
          clear HC10
          replace H := Option.bind_eq_some_iff.mp H
          obtain ⟨t142, A110, H⟩ := H
          replace H : (if t142 = true then ((spec_ValueRight.f kj2 a1_0 a1_1 a1_2 l1_3 false).bind fun t143 => (if t143 = true then (if a1_0 = 0 then (laws_FnDebugEq.j1 kj2 a0 true a1_0 a1_1 a1_2 l1_3) else (laws_FnDebugEq.j1 kj2 a0 (decide ((a0.size : Int) > 40)) a1_0 a1_1 a1_2 l1_3)) else (laws_FnDebugEq.j1 kj2 a0 true a1_0 a1_1 a1_2 l1_3))) else (laws_FnDebugEq.j1 kj2 a0 true a1_0 a1_1 a1_2 l1_3)) = some r := H
          have A11 := Aside0.mk A110
          clear A110
          by_cases c12 : t142 = true
          · subst c12
            have H1 : ((spec_ValueRight.f kj2 a1_0 a1_1 a1_2 l1_3 false).bind fun t143 => (if t143 = true then (if a1_0 = 0 then (laws_FnDebugEq.j1 kj2 a0 true a1_0 a1_1 a1_2 l1_3) else (laws_FnDebugEq.j1 kj2 a0 (decide ((a0.size : Int) > 40)) a1_0 a1_1 a1_2 l1_3)) else (laws_FnDebugEq.j1 kj2 a0 true a1_0 a1_1 a1_2 l1_3))) = some r := by rw [if_pos rfl] at H; exact H
            clear H
            have H := H1
            clear H1
            replace H := Option.bind_eq_some_iff.mp H
            obtain ⟨t143, A130, H⟩ := H
            replace H : (if t143 = true then (if a1_0 = 0 then (laws_FnDebugEq.j1 kj2 a0 true a1_0 a1_1 a1_2 l1_3) else (laws_FnDebugEq.j1 kj2 a0 (decide ((a0.size : Int) > 40)) a1_0 a1_1 a1_2 l1_3)) else (laws_FnDebugEq.j1 kj2 a0 true a1_0 a1_1 a1_2 l1_3)) = some r := H
            have A13 := Aside0.mk A130
            clear A130
            by_cases c14 : t143 = true
            · subst c14
              have H1 : (if a1_0 = 0 then (laws_FnDebugEq.j1 kj2 a0 true a1_0 a1_1 a1_2 l1_3) else (laws_FnDebugEq.j1 kj2 a0 (decide ((a0.size : Int) > 40)) a1_0 a1_1 a1_2 l1_3)) = some r := by rw [if_pos rfl] at H; exact H
              clear H
              have H := H1
              clear H1
              by_cases c15 : a1_0 = 0
              · rw [if_pos c15] at H
                have c15b0 : (a1_0 == 0) = true := beq_iff_eq.mpr c15
                have c15b1 : (a1_0 != 0) = false := bne_eq_false_iff_eq.mpr c15
                clear c15
                (first | rw [c15b0] | (simp only [i64_w, i32_w]; rw [c15b0]) | skip)
                have H' := Aside0.mk H
                clear H
                go_wp2_with (first | ((with_reducible refine gate_callee (f := 11) rfl ?_); refine goesL_ (some 17) rfl rfl Tryd.func11 (by kernel_rfl) rfl #[.string a0] rfl (by (try simp only [List.map_toArray, List.map_cons, List.map_nil]); first | done | rfl | (simp only [List.length_drop, List.length_take]; rfl)) ?_; (with_reducible refine (spec_NameOnly.calls kj2 a0 true _ A11.out).mono ?_); rintro e w' ⟨rfl, ⟨nd, rfl⟩⟩; refine ⟨_, rfl, ?_⟩; have hcz16_0 : wc.cell? ⟨gb140, 0, none⟩ = some (.int .i64 a1_0) := (blk_cell BK140.out 0).trans rfl; have hcz16_1 : wc.cell? ⟨gb140, 1, none⟩ = some (.int .i64 a1_1) := (blk_cell BK140.out 1).trans rfl; have hcz16_2 : wc.cell? ⟨gb140, 2, none⟩ = some (.string a1_2) := (blk_cell BK140.out 2).trans rfl; have hcz16_3 : wc.cell? ⟨gb140, 3, none⟩ = some (.slice A1_3 l1_3.length c1_3) := (blk_cell BK140.out 3).trans rfl; have hfz16_0 := blk_frozen BK140.out 0; have hfz16_1 := blk_frozen BK140.out 1; have hfz16_2 := blk_frozen BK140.out 2; have hfz16_3 := blk_frozen BK140.out 3) | (go_at_call 12; (with_reducible refine (spec_ValueRight.calls kj2 a1_0 a1_1 a1_2 _ _ l1_3 false true _ ?side1 ?side2 A13.out).mono ?_); (case side1 => repeat (first | exact (Kd.V_reads' HO_141003.out).2.2 | (with_reducible refine Kd.C_alloc ?_ _) | (with_reducible refine Kd.C_drewN ?_ _) | (with_reducible refine Kd.C_drew ?_))); (case side2 => exact (Kd.V_reads' HO_141003.out).2.1); rintro e w17 ⟨rfl, hb⟩; have n0_ := Aside0.mk (Kd.V_below (by (with_reducible repeat (first | apply Kd.V_alloc | apply Kd.V_drewN | apply Kd.V_drew)); exact HO_141003.out) hb); have n1_ := Aside0.mk (blk_below (g := gb140) (o := .cells #[.int .i64 a1_0, .int .i64 a1_1, .string a1_2, .slice A1_3 l1_3.length c1_3] 27 (0, 0)) (by (with_reducible repeat (first | refine blk_drewN ?_ _ | refine blk_drew ?_ | refine blk_alloc ?_ _)); exact BK140.out) hb); have n2_ := Aside0.mk (below_step (by repeat (first | (with_reducible first | exact HB.out | apply below_alloc | apply pw_below_drewN | apply below_drew1 | refine below_set ?_ GE140.out) | exact HB.out)) hb); clear HO_141003; clear BK140; clear HB; have HO_141003 := n0_; have BK140 := n1_; have HB := n2_; clear n0_ n1_ n2_; (try clear hb); (try clear hb2); (try clear hk); (try clear hi); have hcz18_0 : w17.cell? ⟨gb140, 0, none⟩ = some (.int .i64 a1_0) := (blk_cell BK140.out 0).trans rfl; have hcz18_1 : w17.cell? ⟨gb140, 1, none⟩ = some (.int .i64 a1_1) := (blk_cell BK140.out 1).trans rfl; have hcz18_2 : w17.cell? ⟨gb140, 2, none⟩ = some (.string a1_2) := (blk_cell BK140.out 2).trans rfl; have hcz18_3 : w17.cell? ⟨gb140, 3, none⟩ = some (.slice A1_3 l1_3.length c1_3) := (blk_cell BK140.out 3).trans rfl; have hfz18_0 := blk_frozen BK140.out 0; have hfz18_1 := blk_frozen BK140.out 1; have hfz18_2 := blk_frozen BK140.out 2; have hfz18_3 := blk_frozen BK140.out 3))
                go_meet
                case rel => exact ⟨_, (true), (by first | rfl | (simp; done) | (simp [*]; done)), H', ⟨by have := HJ2.out; first | omega | exact Nat.le_refl _⟩, ⟨by (with_reducible repeat (first | apply Kd.V_alloc | apply Kd.V_drewN | apply Kd.V_drew)); exact HO_141003.out⟩, ⟨by (with_reducible repeat (first | refine blk_drewN ?_ _ | refine blk_drew ?_ | refine blk_alloc ?_ _)); exact BK140.out⟩, ⟨by repeat (first | (with_reducible first | exact HB.out | apply below_alloc | apply pw_below_drewN | apply below_drew1 | refine below_set ?_ GE140.out) | exact HB.out)⟩⟩
              · rw [if_neg c15] at H
                have c15b0 : (a1_0 == 0) = false := beq_eq_false_iff_ne.mpr c15
                have c15b1 : (a1_0 != 0) = true := bne_iff_ne.mpr c15
                (first | rw [c15b0] | (simp only [i64_w, i32_w]; rw [c15b0]) | skip)
                have H' := Aside0.mk H
                clear H
                go_wp2_with (first | ((with_reducible refine gate_callee (f := 11) rfl ?_); refine goesL_ (some 17) rfl rfl Tryd.func11 (by kernel_rfl) rfl #[.string a0] rfl (by (try simp only [List.map_toArray, List.map_cons, List.map_nil]); first | done | rfl | (simp only [List.length_drop, List.length_take]; rfl)) ?_; (with_reducible refine (spec_NameOnly.calls kj2 a0 true _ A11.out).mono ?_); rintro e w' ⟨rfl, ⟨nd, rfl⟩⟩; refine ⟨_, rfl, ?_⟩; have hcz19_0 : wc.cell? ⟨gb140, 0, none⟩ = some (.int .i64 a1_0) := (blk_cell BK140.out 0).trans rfl; have hcz19_1 : wc.cell? ⟨gb140, 1, none⟩ = some (.int .i64 a1_1) := (blk_cell BK140.out 1).trans rfl; have hcz19_2 : wc.cell? ⟨gb140, 2, none⟩ = some (.string a1_2) := (blk_cell BK140.out 2).trans rfl; have hcz19_3 : wc.cell? ⟨gb140, 3, none⟩ = some (.slice A1_3 l1_3.length c1_3) := (blk_cell BK140.out 3).trans rfl; have hfz19_0 := blk_frozen BK140.out 0; have hfz19_1 := blk_frozen BK140.out 1; have hfz19_2 := blk_frozen BK140.out 2; have hfz19_3 := blk_frozen BK140.out 3) | (go_at_call 12; (with_reducible refine (spec_ValueRight.calls kj2 a1_0 a1_1 a1_2 _ _ l1_3 false true _ ?side1 ?side2 A13.out).mono ?_); (case side1 => repeat (first | exact (Kd.V_reads' HO_141003.out).2.2 | (with_reducible refine Kd.C_alloc ?_ _) | (with_reducible refine Kd.C_drewN ?_ _) | (with_reducible refine Kd.C_drew ?_))); (case side2 => exact (Kd.V_reads' HO_141003.out).2.1); rintro e w20 ⟨rfl, hb⟩; have n0_ := Aside0.mk (Kd.V_below (by (with_reducible repeat (first | apply Kd.V_alloc | apply Kd.V_drewN | apply Kd.V_drew)); exact HO_141003.out) hb); have n1_ := Aside0.mk (blk_below (g := gb140) (o := .cells #[.int .i64 a1_0, .int .i64 a1_1, .string a1_2, .slice A1_3 l1_3.length c1_3] 27 (0, 0)) (by (with_reducible repeat (first | refine blk_drewN ?_ _ | refine blk_drew ?_ | refine blk_alloc ?_ _)); exact BK140.out) hb); have n2_ := Aside0.mk (below_step (by repeat (first | (with_reducible first | exact HB.out | apply below_alloc | apply pw_below_drewN | apply below_drew1 | refine below_set ?_ GE140.out) | exact HB.out)) hb); clear HO_141003; clear BK140; clear HB; have HO_141003 := n0_; have BK140 := n1_; have HB := n2_; clear n0_ n1_ n2_; (try clear hb); (try clear hb2); (try clear hk); (try clear hi); have hcz21_0 : w20.cell? ⟨gb140, 0, none⟩ = some (.int .i64 a1_0) := (blk_cell BK140.out 0).trans rfl; have hcz21_1 : w20.cell? ⟨gb140, 1, none⟩ = some (.int .i64 a1_1) := (blk_cell BK140.out 1).trans rfl; have hcz21_2 : w20.cell? ⟨gb140, 2, none⟩ = some (.string a1_2) := (blk_cell BK140.out 2).trans rfl; have hcz21_3 : w20.cell? ⟨gb140, 3, none⟩ = some (.slice A1_3 l1_3.length c1_3) := (blk_cell BK140.out 3).trans rfl; have hfz21_0 := blk_frozen BK140.out 0; have hfz21_1 := blk_frozen BK140.out 1; have hfz21_2 := blk_frozen BK140.out 2; have hfz21_3 := blk_frozen BK140.out 3))
                go_meet
                case rel => exact ⟨_, (decide ((a0.size : Int) > 40)), (by first | rfl | (simp; done) | (simp [*]; done)), H', ⟨by have := HJ2.out; first | omega | exact Nat.le_refl _⟩, ⟨by (with_reducible repeat (first | apply Kd.V_alloc | apply Kd.V_drewN | apply Kd.V_drew)); exact HO_141003.out⟩, ⟨by (with_reducible repeat (first | refine blk_drewN ?_ _ | refine blk_drew ?_ | refine blk_alloc ?_ _)); exact BK140.out⟩, ⟨by repeat (first | (with_reducible first | exact HB.out | apply below_alloc | apply pw_below_drewN | apply below_drew1 | refine below_set ?_ GE140.out) | exact HB.out)⟩⟩
            · replace c14 := Bool.eq_false_iff.mpr c14
              subst c14
              have H1 : (laws_FnDebugEq.j1 kj2 a0 true a1_0 a1_1 a1_2 l1_3) = some r := by rw [if_neg (show ¬ (false = true) by decide)] at H; exact H
              clear H
              have H := H1
              clear H1
              have H' := Aside0.mk H
              clear H
              go_wp2_with (first | ((with_reducible refine gate_callee (f := 11) rfl ?_); refine goesL_ (some 17) rfl rfl Tryd.func11 (by kernel_rfl) rfl #[.string a0] rfl (by (try simp only [List.map_toArray, List.map_cons, List.map_nil]); first | done | rfl | (simp only [List.length_drop, List.length_take]; rfl)) ?_; (with_reducible refine (spec_NameOnly.calls kj2 a0 true _ A11.out).mono ?_); rintro e w' ⟨rfl, ⟨nd, rfl⟩⟩; refine ⟨_, rfl, ?_⟩; have hcz22_0 : wc.cell? ⟨gb140, 0, none⟩ = some (.int .i64 a1_0) := (blk_cell BK140.out 0).trans rfl; have hcz22_1 : wc.cell? ⟨gb140, 1, none⟩ = some (.int .i64 a1_1) := (blk_cell BK140.out 1).trans rfl; have hcz22_2 : wc.cell? ⟨gb140, 2, none⟩ = some (.string a1_2) := (blk_cell BK140.out 2).trans rfl; have hcz22_3 : wc.cell? ⟨gb140, 3, none⟩ = some (.slice A1_3 l1_3.length c1_3) := (blk_cell BK140.out 3).trans rfl; have hfz22_0 := blk_frozen BK140.out 0; have hfz22_1 := blk_frozen BK140.out 1; have hfz22_2 := blk_frozen BK140.out 2; have hfz22_3 := blk_frozen BK140.out 3) | (go_at_call 12; (with_reducible refine (spec_ValueRight.calls kj2 a1_0 a1_1 a1_2 _ _ l1_3 false false _ ?side1 ?side2 A13.out).mono ?_); (case side1 => repeat (first | exact (Kd.V_reads' HO_141003.out).2.2 | (with_reducible refine Kd.C_alloc ?_ _) | (with_reducible refine Kd.C_drewN ?_ _) | (with_reducible refine Kd.C_drew ?_))); (case side2 => exact (Kd.V_reads' HO_141003.out).2.1); rintro e w23 ⟨rfl, hb⟩; have n0_ := Aside0.mk (Kd.V_below (by (with_reducible repeat (first | apply Kd.V_alloc | apply Kd.V_drewN | apply Kd.V_drew)); exact HO_141003.out) hb); have n1_ := Aside0.mk (blk_below (g := gb140) (o := .cells #[.int .i64 a1_0, .int .i64 a1_1, .string a1_2, .slice A1_3 l1_3.length c1_3] 27 (0, 0)) (by (with_reducible repeat (first | refine blk_drewN ?_ _ | refine blk_drew ?_ | refine blk_alloc ?_ _)); exact BK140.out) hb); have n2_ := Aside0.mk (below_step (by repeat (first | (with_reducible first | exact HB.out | apply below_alloc | apply pw_below_drewN | apply below_drew1 | refine below_set ?_ GE140.out) | exact HB.out)) hb); clear HO_141003; clear BK140; clear HB; have HO_141003 := n0_; have BK140 := n1_; have HB := n2_; clear n0_ n1_ n2_; (try clear hb); (try clear hb2); (try clear hk); (try clear hi)))
              go_meet
              case rel => exact ⟨_, (true), (by first | rfl | (simp; done) | (simp [*]; done)), H', ⟨by have := HJ2.out; first | omega | exact Nat.le_refl _⟩, ⟨by (with_reducible repeat (first | apply Kd.V_alloc | apply Kd.V_drewN | apply Kd.V_drew)); exact HO_141003.out⟩, ⟨by (with_reducible repeat (first | refine blk_drewN ?_ _ | refine blk_drew ?_ | refine blk_alloc ?_ _)); exact BK140.out⟩, ⟨by repeat (first | (with_reducible first | exact HB.out | apply below_alloc | apply pw_below_drewN | apply below_drew1 | refine below_set ?_ GE140.out) | exact HB.out)⟩⟩
          · replace c12 := Bool.eq_false_iff.mpr c12
            subst c12
            have H1 : (laws_FnDebugEq.j1 kj2 a0 true a1_0 a1_1 a1_2 l1_3) = some r := by rw [if_neg (show ¬ (false = true) by decide)] at H; exact H
            clear H
            have H := H1
            clear H1
            have H' := Aside0.mk H
            clear H
            go_wp2_with (first | ((with_reducible refine gate_callee (f := 11) rfl ?_); refine goesL_ (some 17) rfl rfl Tryd.func11 (by kernel_rfl) rfl #[.string a0] rfl (by (try simp only [List.map_toArray, List.map_cons, List.map_nil]); first | done | rfl | (simp only [List.length_drop, List.length_take]; rfl)) ?_; (with_reducible refine (spec_NameOnly.calls kj2 a0 false _ A11.out).mono ?_); rintro e w' ⟨rfl, ⟨nd, rfl⟩⟩; refine ⟨_, rfl, ?_⟩))
            go_meet
            case rel => exact ⟨_, (true), (by first | rfl | (simp; done) | (simp [*]; done)), H', ⟨by have := HJ2.out; first | omega | exact Nat.le_refl _⟩, ⟨by (with_reducible repeat (first | apply Kd.V_alloc | apply Kd.V_drewN | apply Kd.V_drew)); exact HO_141003.out⟩, ⟨by (with_reducible repeat (first | refine blk_drewN ?_ _ | refine blk_drew ?_ | refine blk_alloc ?_ _)); exact BK140.out⟩, ⟨by repeat (first | (with_reducible first | exact HB.out | apply below_alloc | apply pw_below_drewN | apply below_drew1 | refine below_set ?_ GE140.out) | exact HB.out)⟩⟩
        case rest =>
          clear HC10
          try clear c1
          try clear p2
          try clear c5
          try clear c5b0
          try clear c5b1
          try clear c9
          try clear c11
          try clear c12
          try clear c14
          try clear c15
          try clear c15b0
          try clear c15b1
          try clear hcz16_0
          try clear hcz16_1
          try clear hcz16_2
          try clear hcz16_3
          try clear hcz18_0
          try clear hcz18_1
          try clear hcz18_2
          try clear hcz18_3
          try clear hcz19_0
          try clear hcz19_1
          try clear hcz19_2
          try clear hcz19_3
          try clear hcz21_0
          try clear hcz21_1
          try clear hcz21_2
          try clear hcz21_3
          try clear hcz22_0
          try clear hcz22_1
          try clear hcz22_2
          try clear hcz22_3
          try clear hcz7_0
          try clear hcz7_1
          try clear hcz7_2
          try clear hcz7_3
          try clear hfz16_0
          try clear hfz16_1
          try clear hfz16_2
          try clear hfz16_3
          try clear hfz18_0
          try clear hfz18_1
          try clear hfz18_2
          try clear hfz18_3
          try clear hfz19_0
          try clear hfz19_1
          try clear hfz19_2
          try clear hfz19_3
          try clear hfz21_0
          try clear hfz21_1
          try clear hfz21_2
          try clear hfz21_3
          try clear hfz22_0
          try clear hfz22_1
          try clear hfz22_2
          try clear hfz22_3
          try clear hfz7_0
          try clear hfz7_1
          try clear hfz7_2
          try clear hfz7_3
          try clear p2
          obtain ⟨kq, x33_9, rfl, HA, HJ9, HO_141003, BK140, HB⟩ := hcut
          cases kq with
          | zero => exact absurd HA.out (by simp [laws_FnDebugEq.j1])
          | succ kj9 =>
            have H := HA.out
            clear HA
            simp only [laws_FnDebugEq.j1] at H
            by_cases c24 : x33_9 = true
            · subst c24
              have H1 : (some true) = some r := by rw [if_pos rfl] at H; exact H
              clear H
              have H := H1
              clear H1
              obtain rfl := Option.some.inj H
              go_wp2
              go_ret
              exact ⟨by first | rfl | (simp [errW_none, errW_some] <;> rfl) | (simp [*, errW_none, errW_some] <;> rfl), by repeat (first | (with_reducible first | exact HB.out | apply below_alloc | apply pw_below_drewN | apply below_drew1 | refine below_set ?_ GE140.out) | exact HB.out)⟩
            · replace c24 := Bool.eq_false_iff.mpr c24
              subst c24
              have H1 : ((impl_EqOf.f (([a0] : List ByteArray)) (([(⟨a1_0, a1_1, a1_2, l1_3⟩ : S27)] : List (S27)))).bind fun bt150 => (if bt150.2.2 = true then ((impl_Debug.f bt150.1 bt150.2.1).bind fun t155 => (if a0.size + 4 ≤ 9223372036854775807 then ((spec_Debug.f kj9 (a0 ++ (⟨#[32, 61, 32, 63]⟩ : ByteArray)) (([(⟨a1_0, a1_1, a1_2, l1_3⟩ : S27)] : List (S27)))).bind fun t159 => (some (t155.toList == t159.toList))) else (none))) else (some false))) = some r := by rw [if_neg (show ¬ (false = true) by decide)] at H; exact H
              clear H
              have H := H1
              clear H1
              obtain ⟨y144, hy144⟩ : ∃ y_ : List ByteArray, y_ = (([a0] : List ByteArray)) := ⟨_, rfl⟩
              replace H : ((impl_EqOf.f y144 (([(⟨a1_0, a1_1, a1_2, l1_3⟩ : S27)] : List (S27)))).bind fun bt150 => (if bt150.2.2 = true then ((impl_Debug.f bt150.1 bt150.2.1).bind fun t155 => (if a0.size + 4 ≤ 9223372036854775807 then ((spec_Debug.f kj9 (a0 ++ (⟨#[32, 61, 32, 63]⟩ : ByteArray)) (([(⟨a1_0, a1_1, a1_2, l1_3⟩ : S27)] : List (S27)))).bind fun t159 => (some (t155.toList == t159.toList))) else (none))) else (some false))) = some r := by first | (rw [hy144]; with_reducible exact H) | (have H2_ := (Option.bind_some _ _).symm.trans H; rw [hy144]; with_reducible exact H2_) | (have H2_ := (Option.bind_some _ _).symm.trans H; with_reducible exact H2_) | with_reducible exact H | (rw [hy144]; exact H) | exact H
              have Ny144 := Aside0.mk hy144
              clear hy144
              obtain ⟨y147, hy147⟩ : ∃ y_ : List (S27), y_ = (([(⟨a1_0, a1_1, a1_2, l1_3⟩ : S27)] : List (S27))) := ⟨_, rfl⟩
              replace H : ((impl_EqOf.f y144 y147).bind fun bt150 => (if bt150.2.2 = true then ((impl_Debug.f bt150.1 bt150.2.1).bind fun t155 => (if a0.size + 4 ≤ 9223372036854775807 then ((spec_Debug.f kj9 (a0 ++ (⟨#[32, 61, 32, 63]⟩ : ByteArray)) (([(⟨a1_0, a1_1, a1_2, l1_3⟩ : S27)] : List (S27)))).bind fun t159 => (some (t155.toList == t159.toList))) else (none))) else (some false))) = some r := by first | (rw [hy147]; with_reducible exact H) | (have H2_ := (Option.bind_some _ _).symm.trans H; rw [hy147]; with_reducible exact H2_) | (have H2_ := (Option.bind_some _ _).symm.trans H; with_reducible exact H2_) | with_reducible exact H | (rw [hy147]; exact H) | exact H
              have Ny147 := Aside0.mk hy147
              clear hy147
              replace H := Option.bind_eq_some_iff.mp H
              obtain ⟨⟨t150, t151, t152⟩, A250, H⟩ := H
              replace H : (if t152 = true then ((impl_Debug.f t150 t151).bind fun t155 => (if a0.size + 4 ≤ 9223372036854775807 then ((spec_Debug.f kj9 (a0 ++ (⟨#[32, 61, 32, 63]⟩ : ByteArray)) (([(⟨a1_0, a1_1, a1_2, l1_3⟩ : S27)] : List (S27)))).bind fun t159 => (some (t155.toList == t159.toList))) else (none))) else (some false)) = some r := H
              have A25 := Aside0.mk A250
              clear A250
              by_cases c26 : t152 = true
              · subst c26
                have H1 : ((impl_Debug.f t150 t151).bind fun t155 => (if a0.size + 4 ≤ 9223372036854775807 then ((spec_Debug.f kj9 (a0 ++ (⟨#[32, 61, 32, 63]⟩ : ByteArray)) (([(⟨a1_0, a1_1, a1_2, l1_3⟩ : S27)] : List (S27)))).bind fun t159 => (some (t155.toList == t159.toList))) else (none))) = some r := by rw [if_pos rfl] at H; exact H
                clear H
                have H := H1
                clear H1
                replace H := Option.bind_eq_some_iff.mp H
                obtain ⟨t155, A270, H⟩ := H
                replace H : (if a0.size + 4 ≤ 9223372036854775807 then ((spec_Debug.f kj9 (a0 ++ (⟨#[32, 61, 32, 63]⟩ : ByteArray)) (([(⟨a1_0, a1_1, a1_2, l1_3⟩ : S27)] : List (S27)))).bind fun t159 => (some (t155.toList == t159.toList))) else (none)) = some r := H
                have A27 := Aside0.mk A270
                clear A270
                by_cases c28 : a0.size + 4 ≤ 9223372036854775807
                · rw [if_pos c28] at H
                  have c28b0 := eq_true c28
                  have c28b1 : decide (a0.size + 4 ≤ 9223372036854775807) = true := decide_eq_true c28
                  try have c28b2 : (9223372036854775807 < a0.size + 4) = False := eq_false (Nat.not_lt.2 c28)
                  obtain ⟨y156, hy156⟩ : ∃ y_ : List (S27), y_ = (([(⟨a1_0, a1_1, a1_2, l1_3⟩ : S27)] : List (S27))) := ⟨_, rfl⟩
                  replace H : ((spec_Debug.f kj9 (a0 ++ (⟨#[32, 61, 32, 63]⟩ : ByteArray)) y156).bind fun t159 => (some (t155.toList == t159.toList))) = some r := by first | (rw [hy156]; with_reducible exact H) | (have H2_ := (Option.bind_some _ _).symm.trans H; rw [hy156]; with_reducible exact H2_) | (have H2_ := (Option.bind_some _ _).symm.trans H; with_reducible exact H2_) | with_reducible exact H | (rw [hy156]; exact H) | exact H
                  have Ny156 := Aside0.mk hy156
                  clear hy156
                  replace H := Option.bind_eq_some_iff.mp H
                  obtain ⟨t159, A290, H⟩ := H
                  replace H : (some (t155.toList == t159.toList)) = some r := H
                  have A29 := Aside0.mk A290
                  clear A290
                  obtain rfl := Option.some.inj H
                  try go_wp2_with (first | ((with_reducible refine gate_dst (N := 36) rfl ?_); (try (refine gate_guard (by rfl) ?_; dsimp only)); refine Kd.R_lit Kd.string _ 9 ?hg (N := 36) ?hd (xs := ([a0] : List ByteArray)) (inner := [.string a0]) (ok := fun _ => True) (okp := fun _ => True) ?hr ?hp (fun _ hk => hk) trivial (Below.refl _ _) (Nat.le_refl _) (by simp) ?_; (case hd => rfl); (case hg => rfl); (case hr => first | (go_simp; done) | (go_simp; rfl)); (case hp => exact (Reps.one (show Kd.M Kd.string _ _ _ a0 [.string a0] from rfl) (Reps.none _ _))); intro v145 w30 ho31 hb hg_ hnew_; clear hg_ hnew_; (first | rw [← Ny144.out] at ho31 | (simp only [Int.reduceToNat] at ho31; rw [← Ny144.out] at ho31)); have n0_ := Aside0.mk (Kd.V_elder' (by (with_reducible repeat (first | apply Kd.V_alloc | apply Kd.V_drewN | apply Kd.V_drew)); exact HO_141003.out) (Kd.R_base ho31) hb); have n1_ := Aside0.mk (Kd.R_lower (Kd.R_newM (M := fun k_ => (w.heap.size ≤ k_)) ho31 (below_size (by repeat (first | (with_reducible first | exact HB.out | apply below_alloc | apply pw_below_drewN | apply below_drew1 | refine below_set ?_ GE140.out) | exact HB.out))) (fun k_ h_ => h_)) (below_size (by repeat (first | (with_reducible first | exact HB.out | apply below_alloc | apply pw_below_drewN | apply below_drew1 | refine below_set ?_ GE140.out) | exact HB.out)))); have n2_ := Aside0.mk (blk_below (g := gb140) (o := .cells #[.int .i64 a1_0, .int .i64 a1_1, .string a1_2, .slice A1_3 l1_3.length c1_3] 27 (0, 0)) (by (with_reducible repeat (first | refine blk_drewN ?_ _ | refine blk_drew ?_ | refine blk_alloc ?_ _)); exact BK140.out) hb); have n3_ := Aside0.mk (below_step (by repeat (first | (with_reducible first | exact HB.out | apply below_alloc | apply pw_below_drewN | apply below_drew1 | refine below_set ?_ GE140.out) | exact HB.out)) hb); clear HO_141003; clear BK140; clear HB; have HO_141003 := n0_; have HO146 := n1_; have BK140 := n2_; have HB := n3_; clear n0_ n1_ n2_ n3_; clear hb ho31; have hcz32_0 : w30.cell? ⟨gb140, 0, none⟩ = some (.int .i64 a1_0) := (blk_cell BK140.out 0).trans rfl; have hcz32_1 : w30.cell? ⟨gb140, 1, none⟩ = some (.int .i64 a1_1) := (blk_cell BK140.out 1).trans rfl; have hcz32_2 : w30.cell? ⟨gb140, 2, none⟩ = some (.string a1_2) := (blk_cell BK140.out 2).trans rfl; have hcz32_3 : w30.cell? ⟨gb140, 3, none⟩ = some (.slice A1_3 l1_3.length c1_3) := (blk_cell BK140.out 3).trans rfl; have hfz32_0 := blk_frozen BK140.out 0; have hfz32_1 := blk_frozen BK140.out 1; have hfz32_2 := blk_frozen BK140.out 2; have hfz32_3 := blk_frozen BK140.out 3) | ((with_reducible refine gate_dst (N := 38) rfl ?_); (try (refine gate_guard (by rfl) ?_; dsimp only)); refine Kd.N_lit k27 _ 27 ?hg (N' := 38) ?hd (xs := ([(⟨a1_0, a1_1, a1_2, l1_3⟩ : S27)] : List (S27))) (inner := [.int .i64 a1_0, .int .i64 a1_1, .string a1_2, .slice A1_3 l1_3.length c1_3]) (ok := (fun k_ => (P1_3_ k_ ∨ w.heap.size ≤ k_) ∧ some k_ ≠ (v145 : Value).ownBlock ∧ k_ ≠ gb140)) (okp := (fun k_ => (P1_3_ k_ ∨ w.heap.size ≤ k_) ∧ some k_ ≠ (v145 : Value).ownBlock ∧ k_ ≠ gb140)) ?hr ?hp (fun _ hk => hk) ((show ∀ k_, w30.heap.size ≤ k_ → (fun k_ => (P1_3_ k_ ∨ w.heap.size ≤ k_) ∧ some k_ ≠ (v145 : Value).ownBlock ∧ k_ ≠ gb140) k_ from fun k_ hk => ⟨(.inr (Nat.le_trans (below_size (by repeat (first | (with_reducible first | exact HB.out | apply below_alloc | apply pw_below_drewN | apply below_drew1 | refine below_set ?_ GE140.out) | exact HB.out))) hk)), Kd.fresh' (Kd.R_lt (by (with_reducible repeat (first | apply Kd.R_alloc | apply Kd.R_drewN | apply Kd.R_drew)); exact HO146.out)) k_ hk, Kd.freshB (g := gb140) (o := .cells #[.int .i64 a1_0, .int .i64 a1_1, .string a1_2, .slice A1_3 l1_3.length c1_3] 27 (0, 0)) (by (with_reducible repeat (first | refine blk_drewN ?_ _ | refine blk_drew ?_ | refine blk_alloc ?_ _)); exact BK140.out) k_ hk⟩) _ (Nat.le_refl _)) (Below.refl _ _) (Nat.le_refl _) (by simp) ?_; (case hd => rfl); (case hg => rfl); (case hr => first | (go_simp; done) | (go_simp; rfl)); (case hp => exact (Reps.c4 (show Kd.FK k27 _ _ (⟨a1_0, a1_1, a1_2, l1_3⟩ : S27) [.int .i64 a1_0, .int .i64 a1_1, .string a1_2, .slice A1_3 l1_3.length c1_3] from (k27_mkF _ _ (⟨a1_0, a1_1, a1_2, l1_3⟩ : S27) (Kd.V_reads' (Kd.V_mono (ok' := (fun k_ => (P1_3_ k_ ∨ w.heap.size ≤ k_) ∧ some k_ ≠ (v145 : Value).ownBlock ∧ k_ ≠ gb140)) (HO_141003.out) (fun k_ hk => ⟨hk.1.1, ⟨hk.2, hk.1.2⟩⟩))).2.1 (Kd.V_F (Kd.V_mono (ok' := (fun k_ => (P1_3_ k_ ∨ w.heap.size ≤ k_) ∧ some k_ ≠ (v145 : Value).ownBlock ∧ k_ ≠ gb140)) (HO_141003.out) (fun k_ hk => ⟨hk.1.1, ⟨hk.2, hk.1.2⟩⟩))))) (Reps.none _ _))); intro v148 w33 ho34 hb hg_ hnew_; clear hg_ hnew_; (first | rw [← Ny147.out] at ho34 | (simp only [Int.reduceToNat] at ho34; rw [← Ny147.out] at ho34)); have n0_ := Aside0.mk (Kd.V_elder' (by (with_reducible repeat (first | apply Kd.V_alloc | apply Kd.V_drewN | apply Kd.V_drew)); exact HO_141003.out) (Kd.N_base ho34) hb); have n1_ := Aside0.mk (Kd.R_below (by (with_reducible repeat (first | apply Kd.R_alloc | apply Kd.R_drewN | apply Kd.R_drew)); exact HO146.out) hb); have n2_ := Aside0.mk (Kd.N_lower ho34 (below_size (by repeat (first | (with_reducible first | exact HB.out | apply below_alloc | apply pw_below_drewN | apply below_drew1 | refine below_set ?_ GE140.out) | exact HB.out)))); have n3_ := Aside0.mk (blk_below (g := gb140) (o := .cells #[.int .i64 a1_0, .int .i64 a1_1, .string a1_2, .slice A1_3 l1_3.length c1_3] 27 (0, 0)) (by (with_reducible repeat (first | refine blk_drewN ?_ _ | refine blk_drew ?_ | refine blk_alloc ?_ _)); exact BK140.out) hb); have n4_ := Aside0.mk (below_step (by repeat (first | (with_reducible first | exact HB.out | apply below_alloc | apply pw_below_drewN | apply below_drew1 | refine below_set ?_ GE140.out) | exact HB.out)) hb); clear HO_141003; clear HO146; clear BK140; clear HB; have HO_141003 := n0_; have HO146 := n1_; have HO149 := n2_; have BK140 := n3_; have HB := n4_; clear n0_ n1_ n2_ n3_ n4_; clear hb ho34; obtain ⟨Ao35, co35, eo35⟩ := Kd.R_slice HO146.out; subst eo35; obtain ⟨Ao36, co36, eo36⟩ := Kd.N_slice HO149.out; subst eo36) | ((with_reducible refine gate_callee (f := 13) rfl ?_); refine goesL_ (some 39) rfl rfl Tryd.func13 (by kernel_rfl) rfl #[.slice Ao35 y144.length co35, .slice Ao36 y147.length co36] rfl (by (try simp only [List.map_toArray, List.map_cons, List.map_nil]); first | done | rfl | (simp only [List.length_drop, List.length_take]; rfl)) ?_; (with_reducible refine (impl_EqOf.calls _ _ y144 _ _ y147 t150 t151 true _ ?side1 ?side2 ?side3 ?side4 A25.out).mono ?_); (case side1 => repeat (first | exact (Kd.R_reads' HO146.out).2.2 | (with_reducible refine Kd.C_alloc ?_ _) | (with_reducible refine Kd.C_drewN ?_ _) | (with_reducible refine Kd.C_drew ?_))); (case side2 => exact (Kd.R_reads' HO146.out).2.1); (case side3 => repeat (first | exact (Kd.N_reads' HO149.out).2.2 | (with_reducible refine Kd.C_alloc ?_ _) | (with_reducible refine Kd.C_drewN ?_ _) | (with_reducible refine Kd.C_drew ?_))); (case side4 => exact (Kd.N_reads' HO149.out).2.1); rintro e w37 ⟨v153, rfl, ho0, hb⟩; refine ⟨_, rfl, ?_⟩; have n0_ := Aside0.mk (Kd.V_elder' (by (with_reducible repeat (first | apply Kd.V_alloc | apply Kd.V_drewN | apply Kd.V_drew)); exact HO_141003.out) (Kd.N_base (Kd.R_N ho0)) hb); have n1_ := Aside0.mk (Kd.R_below (by (with_reducible repeat (first | apply Kd.R_alloc | apply Kd.R_drewN | apply Kd.R_drew)); exact HO146.out) hb); have n2_ := Aside0.mk (Kd.N_elder' (by (with_reducible repeat (first | apply Kd.N_alloc | apply Kd.N_drewN | apply Kd.N_drew)); exact HO149.out) (Kd.N_base (Kd.R_N ho0)) hb); have n3_ := Aside0.mk (Kd.N_lower (Kd.N_mono (ok' := fun k_ => (P1_3_ k_ ∨ w.heap.size ≤ k_) ∧ some k_ ≠ (.slice Ao35 y144.length co35 : Value).ownBlock ∧ some k_ ≠ (.slice Ao36 y147.length co36 : Value).ownBlock ∧ k_ ≠ gb140) (Kd.R_N (Kd.R_bound ho0)) (fun k_ hk_ => ⟨(.inr (Nat.le_trans (below_size (by repeat (first | (with_reducible first | exact HB.out | apply below_alloc | apply pw_below_drewN | apply below_drew1 | refine below_set ?_ GE140.out) | exact HB.out))) hk_.2.1)), (Kd.fresh' (Kd.R_lt (by (with_reducible repeat (first | apply Kd.R_alloc | apply Kd.R_drewN | apply Kd.R_drew)); exact HO146.out)) k_ hk_.2.1), (Kd.fresh' (Kd.N_lt (by (with_reducible repeat (first | apply Kd.N_alloc | apply Kd.N_drewN | apply Kd.N_drew)); exact HO149.out)) k_ hk_.2.1), (Kd.freshB (g := gb140) (o := .cells #[.int .i64 a1_0, .int .i64 a1_1, .string a1_2, .slice A1_3 l1_3.length c1_3] 27 (0, 0)) (by (with_reducible repeat (first | refine blk_drewN ?_ _ | refine blk_drew ?_ | refine blk_alloc ?_ _)); exact BK140.out) k_ hk_.2.1)⟩)) (below_size (by repeat (first | (with_reducible first | exact HB.out | apply below_alloc | apply pw_below_drewN | apply below_drew1 | refine below_set ?_ GE140.out) | exact HB.out)))); have n4_ := Aside0.mk (blk_below (g := gb140) (o := .cells #[.int .i64 a1_0, .int .i64 a1_1, .string a1_2, .slice A1_3 l1_3.length c1_3] 27 (0, 0)) (by (with_reducible repeat (first | refine blk_drewN ?_ _ | refine blk_drew ?_ | refine blk_alloc ?_ _)); exact BK140.out) hb); have n5_ := Aside0.mk (below_step (by repeat (first | (with_reducible first | exact HB.out | apply below_alloc | apply pw_below_drewN | apply below_drew1 | refine below_set ?_ GE140.out) | exact HB.out)) hb); clear HO_141003; clear HO146; clear HO149; clear BK140; clear HB; have HO_141003 := n0_; have HO146 := n1_; have HO149 := n2_; have HO154 := n3_; have BK140 := n4_; have HB := n5_; clear n0_ n1_ n2_ n3_ n4_ n5_; (try clear hb); (try clear hb2); (try clear hk); (try clear hi); (try clear ho0); obtain ⟨Ao38, co38, eo38⟩ := Kd.N_slice HO154.out; subst eo38))
                  have n0_ := Aside0.mk (Kd.V_drew HO_141003.out)
                  have n1_ := Aside0.mk (Kd.R_drew HO146.out)
                  have n2_ := Aside0.mk (Kd.N_drew HO149.out)
                  have n3_ := Aside0.mk (Kd.N_drew HO154.out)
                  have n4_ := Aside0.mk (blk_drew BK140.out)
                  have n5_ := Aside0.mk (below_drew1 HB.out)
                  clear HO_141003
                  clear HO146
                  clear HO149
                  clear HO154
                  clear BK140
                  clear HB
                  have HO_141003 := n0_
                  have HO146 := n1_
                  have HO149 := n2_
                  have HO154 := n3_
                  have BK140 := n4_
                  have HB := n5_
                  clear n0_ n1_ n2_ n3_ n4_ n5_
                  refine start_ (n := 13) (S := fun w' => w'.cell? ⟨gb140, 0, none⟩ = some (.int .i64 a1_0) ∧ w'.cell? ⟨gb140, 1, none⟩ = some (.int .i64 a1_1) ∧ w'.cell? ⟨gb140, 2, none⟩ = some (.string a1_2) ∧ w'.cell? ⟨gb140, 3, none⟩ = some (.slice A1_3 l1_3.length c1_3)) (ds := []) #[false, false, false, false, false, false, false, false, false, false, false, false, false] (by kernel_rfl) rfl rfl ⟨(blk_cell BK140.out 0).trans rfl, (blk_cell BK140.out 1).trans rfl, (blk_cell BK140.out 2).trans rfl, (blk_cell BK140.out 3).trans rfl⟩ (fun hHeld => ?_); refine with_tabW laws_FnDebugEq.tab6 laws_FnDebugEq.bits6 (fun HT_ HW_ => ?_)
                  generalize w37.drew = w39 at HO_141003 HO146 HO149 HO154 BK140 HB hHeld ⊢
                  refine pure_ (i := 0) (N := some 43) (v := ?_) (a' := ?_) #[true, false, false, false, false, false, false, false, false, false, false, false, false] rfl rfl (any_of HT_.out (by kernel_rfl)) (fun _ _ _ h => h) (Or.inl ⟨by rfl, ?_⟩) ?_ ?_
                  rotate_left
                  · intro w'
                    go_simp
                    with_reducible rfl
                  rotate_left
                  · simp only [Act.put, List.setIfInBounds_toArray, List.set_cons_zero, List.set_cons_succ, i64_w, i32_w]
                    rfl
                  refine pure_ (i := 1) (N := some 44) (v := ?_) (a' := ?_) #[true, true, false, false, false, false, false, false, false, false, false, false, false] rfl rfl (any_of HT_.out (by kernel_rfl)) (fun _ _ _ h => h) (Or.inl ⟨by rfl, ?_⟩) ?_ ?_
                  rotate_left
                  · intro w'
                    go_simp
                    with_reducible rfl
                  rotate_left
                  · simp only [Act.put, List.setIfInBounds_toArray, List.set_cons_zero, List.set_cons_succ, i64_w, i32_w]
                    rfl
                  refine pure_ (i := 2) (N := some 45) (v := ?_) (a' := ?_) #[true, true, true, false, false, false, false, false, false, false, false, false, false] rfl rfl (any_of HT_.out (by kernel_rfl)) (fun _ _ _ h => h) (Or.inl ⟨by rfl, ?_⟩) ?_ ?_
                  rotate_left
                  · intro w'
                    go_simp
                    with_reducible rfl
                  rotate_left
                  · simp only [Act.put, List.setIfInBounds_toArray, List.set_cons_zero, List.set_cons_succ, i64_w, i32_w]
                    rfl
                  refine pure_ (i := 3) (N := some 46) (v := ?_) (a' := ?_) #[true, true, true, true, false, false, false, false, false, false, false, false, false] rfl rfl (any_of HT_.out (by kernel_rfl)) (fun _ _ _ h => h) (Or.inl ⟨by rfl, ?_⟩) ?_ ?_
                  rotate_left
                  · intro w'
                    go_simp
                    with_reducible rfl
                  rotate_left
                  · simp only [Act.put, List.setIfInBounds_toArray, List.set_cons_zero, List.set_cons_succ, i64_w, i32_w]
                    rfl
                  refine pure_ (i := 5) (N := some 48) (v := ?_) (a' := ?_) #[true, true, true, true, false, true, false, false, false, false, false, false, false] rfl rfl (any_of HT_.out (by kernel_rfl)) (fun _ _ _ h => h) (Or.inl ⟨by rfl, ?_⟩) ?_ ?_
                  rotate_left
                  · intro w'
                    go_simp
                    with_reducible rfl
                  rotate_left
                  · simp only [Act.put, List.setIfInBounds_toArray, List.set_cons_zero, List.set_cons_succ, i64_w, i32_w]
                    rfl
                  refine pure_ (i := 6) (N := some 49) (v := ?_) (a' := ?_) #[true, true, true, true, false, true, true, false, false, false, false, false, false] rfl rfl (any_of HT_.out (by kernel_rfl)) (fun _ _ _ h => h) (Or.inl ⟨by rfl, ?_⟩) ?_ ?_
                  rotate_left
                  · intro w'
                    go_simp
                    with_reducible rfl
                  rotate_left
                  · simp only [Act.put, List.setIfInBounds_toArray, List.set_cons_zero, List.set_cons_succ, i64_w, i32_w]
                    rfl
                  refine take_ (i := 7) (N := some 50) (v := ?_) (a' := ?_) #[true, true, true, true, false, true, true, true, false, false, false, false, false] rfl rfl (take_ofW HT_.out HW_.out (by kernel_rfl)) (fun _ _ _ h => h) (Or.inl ⟨by rfl, ?_⟩) hHeld ?_ ?_
                  rotate_left
                  · rintro w' ⟨s0, s1, s2, s3⟩
                    go_simp
                    with_reducible rfl
                  rotate_left
                  · simp only [Act.put, List.setIfInBounds_toArray, List.set_cons_zero, List.set_cons_succ, i64_w, i32_w]
                    rfl
                  refine join_ (σ := Value) 4 #[true, true, true, true, true, true, true, true, true, false, false, false, false] (fun s_ => [(47, .string t155), (51, s_)]) (fun s_ w' => (w'.cell? ⟨gb140, 0, none⟩ = some (.int .i64 a1_0) ∧ w'.cell? ⟨gb140, 1, none⟩ = some (.int .i64 a1_1) ∧ w'.cell? ⟨gb140, 2, none⟩ = some (.string a1_2) ∧ w'.cell? ⟨gb140, 3, none⟩ = some (.slice A1_3 l1_3.length c1_3)) ∧ (Kd.R Kd.string 9 w' w.heap.size (fun k_ => (w.heap.size ≤ k_)) (.slice Ao35 y144.length co35) y144) ∧ (Kd.N k27 27 w' w.heap.size (fun k_ => (P1_3_ k_ ∨ w.heap.size ≤ k_) ∧ some k_ ≠ (.slice Ao35 y144.length co35 : Value).ownBlock ∧ some k_ ≠ (.slice Ao38 t151.length co38 : Value).ownBlock ∧ some k_ ≠ (s_ : Value).ownBlock ∧ k_ ≠ gb140) (.slice Ao36 y147.length co36) y147) ∧ (Kd.N k27 27 w' w.heap.size (fun k_ => (P1_3_ k_ ∨ w.heap.size ≤ k_) ∧ some k_ ≠ (.slice Ao35 y144.length co35 : Value).ownBlock ∧ some k_ ≠ (.slice Ao36 y147.length co36 : Value).ownBlock ∧ some k_ ≠ (s_ : Value).ownBlock ∧ k_ ≠ gb140) (.slice Ao38 t151.length co38) t151) ∧ (Kd.N k27 27 w' w.heap.size (fun k_ => (P1_3_ k_ ∨ w.heap.size ≤ k_) ∧ some k_ ≠ (.slice Ao35 y144.length co35 : Value).ownBlock ∧ some k_ ≠ (.slice Ao36 y147.length co36 : Value).ownBlock ∧ some k_ ≠ (.slice Ao38 t151.length co38 : Value).ownBlock ∧ k_ ≠ gb140) s_ y156) ∧ (Kd.V k27 27 w' w.heap.size (fun k_ => (P1_3_ k_ ∨ w.heap.size ≤ k_) ∧ some k_ ≠ (.slice Ao35 y144.length co35 : Value).ownBlock ∧ some k_ ≠ (.slice Ao36 y147.length co36 : Value).ownBlock ∧ some k_ ≠ (.slice Ao38 t151.length co38 : Value).ownBlock ∧ some k_ ≠ (s_ : Value).ownBlock ∧ k_ ≠ gb140) (.slice A1_3 l1_3.length c1_3) l1_3) ∧ (w'.heap[gb140]? = some (.cells #[.int .i64 a1_0, .int .i64 a1_1, .string a1_2, .slice A1_3 l1_3.length c1_3] 27 (0, 0))) ∧ (Below w.heap.size w w')) ?_ ?_
                  rotate_left
                  · intro hCont
                    refine two_ (i := 4) (j := 8) (Ni := some 47) (Nj := some 51) #[true, true, true, true, true, true, true, true, false, false, false, false, false] #[true, true, true, true, false, true, true, true, true, false, false, false, false] rfl rfl rfl rfl (two_of HT_.out (by kernel_rfl)) (by decide) (by decide) (fun K hK => ?_) (fun K hK => ?_)
                    · skip
                      refine goes_ Tryd.func8 (by kernel_rfl) rfl #[.string t150, .slice Ao38 t151.length co38] (by rfl) rfl rfl (by (try simp only [List.map_toArray, List.map_cons, List.map_nil]); first | done | rfl | (simp only [List.length_drop, List.length_take]; rfl)) ?_
                      with_reducible refine (impl_Debug.calls t150 _ _ t151 t155 _ (tab_at HTAB_.out (by repeat (first | (with_reducible first | exact HB.out | apply below_alloc | apply pw_below_drewN | apply below_drew1) | exact HB.out))) ?side1 ?side2 A27.out).mono ?_
                      (case side1 => repeat (first | exact (Kd.N_reads' HO154.out).2.2 | (with_reducible refine Kd.C_alloc ?_ _) | (with_reducible refine Kd.C_drewN ?_ _) | (with_reducible refine Kd.C_drew ?_)))
                      (case side2 => exact (Kd.N_reads' HO154.out).2.1)
                      rintro e w40 ⟨rfl, hb⟩
                      refine ⟨_, rfl, ?_⟩
                      have n0_ := Aside0.mk (Kd.V_below (by (with_reducible repeat (first | apply Kd.V_alloc | apply Kd.V_drewN | apply Kd.V_drew)); exact HO_141003.out) hb)
                      have n1_ := Aside0.mk (Kd.R_below (by (with_reducible repeat (first | apply Kd.R_alloc | apply Kd.R_drewN | apply Kd.R_drew)); exact HO146.out) hb)
                      have n2_ := Aside0.mk (Kd.N_below (by (with_reducible repeat (first | apply Kd.N_alloc | apply Kd.N_drewN | apply Kd.N_drew)); exact HO149.out) hb)
                      have n3_ := Aside0.mk (Kd.N_below (by (with_reducible repeat (first | apply Kd.N_alloc | apply Kd.N_drewN | apply Kd.N_drew)); exact HO154.out) hb)
                      have n4_ := Aside0.mk (blk_below (g := gb140) (o := .cells #[.int .i64 a1_0, .int .i64 a1_1, .string a1_2, .slice A1_3 l1_3.length c1_3] 27 (0, 0)) (by (with_reducible repeat (first | refine blk_drewN ?_ _ | refine blk_drew ?_ | refine blk_alloc ?_ _)); exact BK140.out) hb)
                      have n5_ := Aside0.mk (below_step (by repeat (first | (with_reducible first | exact HB.out | apply below_alloc | apply pw_below_drewN | apply below_drew1 | refine below_set ?_ GE140.out) | exact HB.out)) hb)
                      clear HO_141003
                      clear HO146
                      clear HO149
                      clear HO154
                      clear BK140
                      clear HB
                      have HO_141003 := n0_
                      have HO146 := n1_
                      have HO149 := n2_
                      have HO154 := n3_
                      have BK140 := n4_
                      have HB := n5_
                      clear n0_ n1_ n2_ n3_ n4_ n5_
                      (try clear hb)
                      (try clear hb2)
                      (try clear hk)
                      (try clear hi)
                      refine hK.out _ _ ⟨(blk_cell BK140.out 0).trans rfl, (blk_cell BK140.out 1).trans rfl, (blk_cell BK140.out 2).trans rfl, (blk_cell BK140.out 3).trans rfl⟩ (fun hHeld => ?_)
                      clear hK K
                      refine norm_ (a' := ?_) ?_ ?_
                      rotate_left
                      · show Act.put _ (some 47) _ = _
                        simp only [Act.put, List.setIfInBounds_toArray, List.set_cons_zero, List.set_cons_succ, i64_w, i32_w]
                        rfl
                      refine one_ (i := 8) (N := some 51) #[true, true, true, true, true, true, true, true, true, false, false, false, false] rfl rfl (one_of HT_.out (by kernel_rfl)) (by decide) (fun K hK => ?_)
                      refine Kd.N_lit_step k27 _ 27 ?hg (N' := 51) ?hd (xs := ([(⟨a1_0, a1_1, a1_2, l1_3⟩ : S27)] : List (S27))) (inner := [.int .i64 a1_0, .int .i64 a1_1, .string a1_2, .slice A1_3 l1_3.length c1_3]) (ok := (fun k_ => (P1_3_ k_ ∨ w.heap.size ≤ k_) ∧ some k_ ≠ (.slice Ao35 y144.length co35 : Value).ownBlock ∧ some k_ ≠ (.slice Ao36 y147.length co36 : Value).ownBlock ∧ some k_ ≠ (.slice Ao38 t151.length co38 : Value).ownBlock ∧ k_ ≠ gb140)) (okp := (fun k_ => (P1_3_ k_ ∨ w.heap.size ≤ k_) ∧ some k_ ≠ (.slice Ao35 y144.length co35 : Value).ownBlock ∧ some k_ ≠ (.slice Ao36 y147.length co36 : Value).ownBlock ∧ some k_ ≠ (.slice Ao38 t151.length co38 : Value).ownBlock ∧ k_ ≠ gb140)) ?hr ?hp (fun _ hk => hk) ((show ∀ k_, w40.heap.size ≤ k_ → (fun k_ => (P1_3_ k_ ∨ w.heap.size ≤ k_) ∧ some k_ ≠ (.slice Ao35 y144.length co35 : Value).ownBlock ∧ some k_ ≠ (.slice Ao36 y147.length co36 : Value).ownBlock ∧ some k_ ≠ (.slice Ao38 t151.length co38 : Value).ownBlock ∧ k_ ≠ gb140) k_ from fun k_ hk => ⟨(.inr (Nat.le_trans (below_size (by repeat (first | (with_reducible first | exact HB.out | apply below_alloc | apply pw_below_drewN | apply below_drew1 | refine below_set ?_ GE140.out) | exact HB.out))) hk)), Kd.fresh' (Kd.R_lt (by (with_reducible repeat (first | apply Kd.R_alloc | apply Kd.R_drewN | apply Kd.R_drew)); exact HO146.out)) k_ hk, Kd.fresh' (Kd.N_lt (by (with_reducible repeat (first | apply Kd.N_alloc | apply Kd.N_drewN | apply Kd.N_drew)); exact HO149.out)) k_ hk, Kd.fresh' (Kd.N_lt (by (with_reducible repeat (first | apply Kd.N_alloc | apply Kd.N_drewN | apply Kd.N_drew)); exact HO154.out)) k_ hk, Kd.freshB (g := gb140) (o := .cells #[.int .i64 a1_0, .int .i64 a1_1, .string a1_2, .slice A1_3 l1_3.length c1_3] 27 (0, 0)) (by (with_reducible repeat (first | refine blk_drewN ?_ _ | refine blk_drew ?_ | refine blk_alloc ?_ _)); exact BK140.out) k_ hk⟩) _ (Nat.le_refl _)) (Below.refl _ _) (Nat.le_refl _) (by simp) ?_; (case hd => rfl); (case hg => rfl); (case hr => first | (go_simp; done) | (go_simp; rfl)); (case hp => exact (Reps.c4 (show Kd.FK k27 _ _ (⟨a1_0, a1_1, a1_2, l1_3⟩ : S27) [.int .i64 a1_0, .int .i64 a1_1, .string a1_2, .slice A1_3 l1_3.length c1_3] from (k27_mkF _ _ (⟨a1_0, a1_1, a1_2, l1_3⟩ : S27) (Kd.V_reads' (Kd.V_mono (ok' := (fun k_ => (P1_3_ k_ ∨ w.heap.size ≤ k_) ∧ some k_ ≠ (.slice Ao35 y144.length co35 : Value).ownBlock ∧ some k_ ≠ (.slice Ao36 y147.length co36 : Value).ownBlock ∧ some k_ ≠ (.slice Ao38 t151.length co38 : Value).ownBlock ∧ k_ ≠ gb140)) (HO_141003.out) (fun k_ hk => ⟨hk.1.1.1.1, ⟨hk.1.1.2, ⟨hk.1.2, ⟨hk.2, hk.1.1.1.2⟩⟩⟩⟩))).2.1 (Kd.V_F (Kd.V_mono (ok' := (fun k_ => (P1_3_ k_ ∨ w.heap.size ≤ k_) ∧ some k_ ≠ (.slice Ao35 y144.length co35 : Value).ownBlock ∧ some k_ ≠ (.slice Ao36 y147.length co36 : Value).ownBlock ∧ some k_ ≠ (.slice Ao38 t151.length co38 : Value).ownBlock ∧ k_ ≠ gb140)) (HO_141003.out) (fun k_ hk => ⟨hk.1.1.1.1, ⟨hk.1.1.2, ⟨hk.1.2, ⟨hk.2, hk.1.1.1.2⟩⟩⟩⟩))))) (Reps.none _ _)))
                      intro v157 w41 ho42 hb hg_ hnew_
                      clear hg_ hnew_
                      (first | rw [← Ny156.out] at ho42 | (simp only [Int.reduceToNat] at ho42; rw [← Ny156.out] at ho42))
                      have n0_ := Aside0.mk (Kd.V_elder' (by (with_reducible repeat (first | apply Kd.V_alloc | apply Kd.V_drewN | apply Kd.V_drew)); exact HO_141003.out) (Kd.N_base ho42) hb)
                      have n1_ := Aside0.mk (Kd.R_below (by (with_reducible repeat (first | apply Kd.R_alloc | apply Kd.R_drewN | apply Kd.R_drew)); exact HO146.out) hb)
                      have n2_ := Aside0.mk (Kd.N_elder' (by (with_reducible repeat (first | apply Kd.N_alloc | apply Kd.N_drewN | apply Kd.N_drew)); exact HO149.out) (Kd.N_base ho42) hb)
                      have n3_ := Aside0.mk (Kd.N_elder' (by (with_reducible repeat (first | apply Kd.N_alloc | apply Kd.N_drewN | apply Kd.N_drew)); exact HO154.out) (Kd.N_base ho42) hb)
                      have n4_ := Aside0.mk (Kd.N_lower ho42 (below_size (by repeat (first | (with_reducible first | exact HB.out | apply below_alloc | apply pw_below_drewN | apply below_drew1 | refine below_set ?_ GE140.out) | exact HB.out))))
                      have n5_ := Aside0.mk (blk_below (g := gb140) (o := .cells #[.int .i64 a1_0, .int .i64 a1_1, .string a1_2, .slice A1_3 l1_3.length c1_3] 27 (0, 0)) (by (with_reducible repeat (first | refine blk_drewN ?_ _ | refine blk_drew ?_ | refine blk_alloc ?_ _)); exact BK140.out) hb)
                      have n6_ := Aside0.mk (below_step (by repeat (first | (with_reducible first | exact HB.out | apply below_alloc | apply pw_below_drewN | apply below_drew1 | refine below_set ?_ GE140.out) | exact HB.out)) hb)
                      clear HO_141003
                      clear HO146
                      clear HO149
                      clear HO154
                      clear BK140
                      clear HB
                      have HO_141003 := n0_
                      have HO146 := n1_
                      have HO149 := n2_
                      have HO154 := n3_
                      have HO158 := n4_
                      have BK140 := n5_
                      have HB := n6_
                      clear n0_ n1_ n2_ n3_ n4_ n5_ n6_
                      clear hb ho42
                      refine hK.out _ _ ⟨(blk_cell BK140.out 0).trans rfl, (blk_cell BK140.out 1).trans rfl, (blk_cell BK140.out 2).trans rfl, (blk_cell BK140.out 3).trans rfl⟩ (fun hHeld => ?_)
                      clear hK K
                      refine norm_ (a' := ?_) ?_ ?_
                      rotate_left
                      · show Act.put _ (some 51) _ = _
                        simp only [Act.put, List.setIfInBounds_toArray, List.set_cons_zero, List.set_cons_succ, i64_w, i32_w]
                        rfl
                      exact norm_ (by simp only [putAll, Act.put, List.setIfInBounds_toArray, List.set_cons_zero, List.set_cons_succ]) (hCont (v157) _ ⟨hHeld, (by (with_reducible repeat (first | apply Kd.R_alloc | apply Kd.R_drewN | apply Kd.R_drew)); exact Kd.R_mono HO146.out (fun _ hk => hk.1)), (by (with_reducible repeat (first | apply Kd.N_alloc | apply Kd.N_drewN | apply Kd.N_drew)); exact Kd.N_mono HO149.out (fun _ hk => ⟨hk.1.1.1, ⟨hk.1.1.2.1, ⟨hk.1.2, ⟨hk.2, hk.1.1.2.2⟩⟩⟩⟩)), (by (with_reducible repeat (first | apply Kd.N_alloc | apply Kd.N_drewN | apply Kd.N_drew)); exact Kd.N_mono HO154.out (fun _ hk => ⟨hk.1.1, ⟨hk.1.2.1, ⟨hk.1.2.2.1, ⟨hk.2, hk.1.2.2.2⟩⟩⟩⟩)), (by (with_reducible repeat (first | apply Kd.N_alloc | apply Kd.N_drewN | apply Kd.N_drew)); exact HO158.out), (by (with_reducible repeat (first | apply Kd.V_alloc | apply Kd.V_drewN | apply Kd.V_drew)); exact Kd.V_mono HO_141003.out (fun _ hk => ⟨hk.1.1.1.1.1, ⟨hk.1.1.1.2, ⟨hk.1.1.2, ⟨hk.1.2, ⟨hk.2, hk.1.1.1.1.2⟩⟩⟩⟩⟩)), (by (with_reducible repeat (first | refine blk_drewN ?_ _ | refine blk_drew ?_ | refine blk_alloc ?_ _)); exact BK140.out), (by repeat (first | (with_reducible first | exact HB.out | apply below_alloc | apply pw_below_drewN | apply below_drew1 | refine below_set ?_ GE140.out) | exact HB.out))⟩)
                    · skip
                      refine Kd.N_lit_step k27 _ 27 ?hg (N' := 51) ?hd (xs := ([(⟨a1_0, a1_1, a1_2, l1_3⟩ : S27)] : List (S27))) (inner := [.int .i64 a1_0, .int .i64 a1_1, .string a1_2, .slice A1_3 l1_3.length c1_3]) (ok := (fun k_ => (P1_3_ k_ ∨ w.heap.size ≤ k_) ∧ some k_ ≠ (.slice Ao35 y144.length co35 : Value).ownBlock ∧ some k_ ≠ (.slice Ao36 y147.length co36 : Value).ownBlock ∧ some k_ ≠ (.slice Ao38 t151.length co38 : Value).ownBlock ∧ k_ ≠ gb140)) (okp := (fun k_ => (P1_3_ k_ ∨ w.heap.size ≤ k_) ∧ some k_ ≠ (.slice Ao35 y144.length co35 : Value).ownBlock ∧ some k_ ≠ (.slice Ao36 y147.length co36 : Value).ownBlock ∧ some k_ ≠ (.slice Ao38 t151.length co38 : Value).ownBlock ∧ k_ ≠ gb140)) ?hr ?hp (fun _ hk => hk) ((show ∀ k_, w39.heap.size ≤ k_ → (fun k_ => (P1_3_ k_ ∨ w.heap.size ≤ k_) ∧ some k_ ≠ (.slice Ao35 y144.length co35 : Value).ownBlock ∧ some k_ ≠ (.slice Ao36 y147.length co36 : Value).ownBlock ∧ some k_ ≠ (.slice Ao38 t151.length co38 : Value).ownBlock ∧ k_ ≠ gb140) k_ from fun k_ hk => ⟨(.inr (Nat.le_trans (below_size (by repeat (first | (with_reducible first | exact HB.out | apply below_alloc | apply pw_below_drewN | apply below_drew1 | refine below_set ?_ GE140.out) | exact HB.out))) hk)), Kd.fresh' (Kd.R_lt (by (with_reducible repeat (first | apply Kd.R_alloc | apply Kd.R_drewN | apply Kd.R_drew)); exact HO146.out)) k_ hk, Kd.fresh' (Kd.N_lt (by (with_reducible repeat (first | apply Kd.N_alloc | apply Kd.N_drewN | apply Kd.N_drew)); exact HO149.out)) k_ hk, Kd.fresh' (Kd.N_lt (by (with_reducible repeat (first | apply Kd.N_alloc | apply Kd.N_drewN | apply Kd.N_drew)); exact HO154.out)) k_ hk, Kd.freshB (g := gb140) (o := .cells #[.int .i64 a1_0, .int .i64 a1_1, .string a1_2, .slice A1_3 l1_3.length c1_3] 27 (0, 0)) (by (with_reducible repeat (first | refine blk_drewN ?_ _ | refine blk_drew ?_ | refine blk_alloc ?_ _)); exact BK140.out) k_ hk⟩) _ (Nat.le_refl _)) (Below.refl _ _) (Nat.le_refl _) (by simp) ?_; (case hd => rfl); (case hg => rfl); (case hr => first | (go_simp; done) | (go_simp; rfl)); (case hp => exact (Reps.c4 (show Kd.FK k27 _ _ (⟨a1_0, a1_1, a1_2, l1_3⟩ : S27) [.int .i64 a1_0, .int .i64 a1_1, .string a1_2, .slice A1_3 l1_3.length c1_3] from (k27_mkF _ _ (⟨a1_0, a1_1, a1_2, l1_3⟩ : S27) (Kd.V_reads' (Kd.V_mono (ok' := (fun k_ => (P1_3_ k_ ∨ w.heap.size ≤ k_) ∧ some k_ ≠ (.slice Ao35 y144.length co35 : Value).ownBlock ∧ some k_ ≠ (.slice Ao36 y147.length co36 : Value).ownBlock ∧ some k_ ≠ (.slice Ao38 t151.length co38 : Value).ownBlock ∧ k_ ≠ gb140)) (HO_141003.out) (fun k_ hk => ⟨hk.1.1.1.1, ⟨hk.1.1.2, ⟨hk.1.2, ⟨hk.2, hk.1.1.1.2⟩⟩⟩⟩))).2.1 (Kd.V_F (Kd.V_mono (ok' := (fun k_ => (P1_3_ k_ ∨ w.heap.size ≤ k_) ∧ some k_ ≠ (.slice Ao35 y144.length co35 : Value).ownBlock ∧ some k_ ≠ (.slice Ao36 y147.length co36 : Value).ownBlock ∧ some k_ ≠ (.slice Ao38 t151.length co38 : Value).ownBlock ∧ k_ ≠ gb140)) (HO_141003.out) (fun k_ hk => ⟨hk.1.1.1.1, ⟨hk.1.1.2, ⟨hk.1.2, ⟨hk.2, hk.1.1.1.2⟩⟩⟩⟩))))) (Reps.none _ _)))
                      intro v157 w40 ho41 hb hg_ hnew_
                      clear hg_ hnew_
                      (first | rw [← Ny156.out] at ho41 | (simp only [Int.reduceToNat] at ho41; rw [← Ny156.out] at ho41))
                      have n0_ := Aside0.mk (Kd.V_elder' (by (with_reducible repeat (first | apply Kd.V_alloc | apply Kd.V_drewN | apply Kd.V_drew)); exact HO_141003.out) (Kd.N_base ho41) hb)
                      have n1_ := Aside0.mk (Kd.R_below (by (with_reducible repeat (first | apply Kd.R_alloc | apply Kd.R_drewN | apply Kd.R_drew)); exact HO146.out) hb)
                      have n2_ := Aside0.mk (Kd.N_elder' (by (with_reducible repeat (first | apply Kd.N_alloc | apply Kd.N_drewN | apply Kd.N_drew)); exact HO149.out) (Kd.N_base ho41) hb)
                      have n3_ := Aside0.mk (Kd.N_elder' (by (with_reducible repeat (first | apply Kd.N_alloc | apply Kd.N_drewN | apply Kd.N_drew)); exact HO154.out) (Kd.N_base ho41) hb)
                      have n4_ := Aside0.mk (Kd.N_lower ho41 (below_size (by repeat (first | (with_reducible first | exact HB.out | apply below_alloc | apply pw_below_drewN | apply below_drew1 | refine below_set ?_ GE140.out) | exact HB.out))))
                      have n5_ := Aside0.mk (blk_below (g := gb140) (o := .cells #[.int .i64 a1_0, .int .i64 a1_1, .string a1_2, .slice A1_3 l1_3.length c1_3] 27 (0, 0)) (by (with_reducible repeat (first | refine blk_drewN ?_ _ | refine blk_drew ?_ | refine blk_alloc ?_ _)); exact BK140.out) hb)
                      have n6_ := Aside0.mk (below_step (by repeat (first | (with_reducible first | exact HB.out | apply below_alloc | apply pw_below_drewN | apply below_drew1 | refine below_set ?_ GE140.out) | exact HB.out)) hb)
                      clear HO_141003
                      clear HO146
                      clear HO149
                      clear HO154
                      clear BK140
                      clear HB
                      have HO_141003 := n0_
                      have HO146 := n1_
                      have HO149 := n2_
                      have HO154 := n3_
                      have HO158 := n4_
                      have BK140 := n5_
                      have HB := n6_
                      clear n0_ n1_ n2_ n3_ n4_ n5_ n6_
                      clear hb ho41
                      refine hK.out _ _ ⟨(blk_cell BK140.out 0).trans rfl, (blk_cell BK140.out 1).trans rfl, (blk_cell BK140.out 2).trans rfl, (blk_cell BK140.out 3).trans rfl⟩ (fun hHeld => ?_)
                      clear hK K
                      refine norm_ (a' := ?_) ?_ ?_
                      rotate_left
                      · show Act.put _ (some 51) _ = _
                        simp only [Act.put, List.setIfInBounds_toArray, List.set_cons_zero, List.set_cons_succ, i64_w, i32_w]
                        rfl
                      refine one_ (i := 4) (N := some 47) #[true, true, true, true, true, true, true, true, true, false, false, false, false] rfl rfl (one_of HT_.out (by kernel_rfl)) (by decide) (fun K hK => ?_)
                      refine goes_ Tryd.func8 (by kernel_rfl) rfl #[.string t150, .slice Ao38 t151.length co38] (by rfl) rfl rfl (by (try simp only [List.map_toArray, List.map_cons, List.map_nil]); first | done | rfl | (simp only [List.length_drop, List.length_take]; rfl)) ?_
                      with_reducible refine (impl_Debug.calls t150 _ _ t151 t155 _ (tab_at HTAB_.out (by repeat (first | (with_reducible first | exact HB.out | apply below_alloc | apply pw_below_drewN | apply below_drew1) | exact HB.out))) ?side1 ?side2 A27.out).mono ?_
                      (case side1 => repeat (first | exact (Kd.N_reads' HO154.out).2.2 | (with_reducible refine Kd.C_alloc ?_ _) | (with_reducible refine Kd.C_drewN ?_ _) | (with_reducible refine Kd.C_drew ?_)))
                      (case side2 => exact (Kd.N_reads' HO154.out).2.1)
                      rintro e w42 ⟨rfl, hb⟩
                      refine ⟨_, rfl, ?_⟩
                      have n0_ := Aside0.mk (Kd.V_below (by (with_reducible repeat (first | apply Kd.V_alloc | apply Kd.V_drewN | apply Kd.V_drew)); exact HO_141003.out) hb)
                      have n1_ := Aside0.mk (Kd.R_below (by (with_reducible repeat (first | apply Kd.R_alloc | apply Kd.R_drewN | apply Kd.R_drew)); exact HO146.out) hb)
                      have n2_ := Aside0.mk (Kd.N_below (by (with_reducible repeat (first | apply Kd.N_alloc | apply Kd.N_drewN | apply Kd.N_drew)); exact HO149.out) hb)
                      have n3_ := Aside0.mk (Kd.N_below (by (with_reducible repeat (first | apply Kd.N_alloc | apply Kd.N_drewN | apply Kd.N_drew)); exact HO154.out) hb)
                      have n4_ := Aside0.mk (Kd.N_below (by (with_reducible repeat (first | apply Kd.N_alloc | apply Kd.N_drewN | apply Kd.N_drew)); exact HO158.out) hb)
                      have n5_ := Aside0.mk (blk_below (g := gb140) (o := .cells #[.int .i64 a1_0, .int .i64 a1_1, .string a1_2, .slice A1_3 l1_3.length c1_3] 27 (0, 0)) (by (with_reducible repeat (first | refine blk_drewN ?_ _ | refine blk_drew ?_ | refine blk_alloc ?_ _)); exact BK140.out) hb)
                      have n6_ := Aside0.mk (below_step (by repeat (first | (with_reducible first | exact HB.out | apply below_alloc | apply pw_below_drewN | apply below_drew1 | refine below_set ?_ GE140.out) | exact HB.out)) hb)
                      clear HO_141003
                      clear HO146
                      clear HO149
                      clear HO154
                      clear HO158
                      clear BK140
                      clear HB
                      have HO_141003 := n0_
                      have HO146 := n1_
                      have HO149 := n2_
                      have HO154 := n3_
                      have HO158 := n4_
                      have BK140 := n5_
                      have HB := n6_
                      clear n0_ n1_ n2_ n3_ n4_ n5_ n6_
                      (try clear hb)
                      (try clear hb2)
                      (try clear hk)
                      (try clear hi)
                      refine hK.out _ _ ⟨(blk_cell BK140.out 0).trans rfl, (blk_cell BK140.out 1).trans rfl, (blk_cell BK140.out 2).trans rfl, (blk_cell BK140.out 3).trans rfl⟩ (fun hHeld => ?_)
                      clear hK K
                      refine norm_ (a' := ?_) ?_ ?_
                      rotate_left
                      · show Act.put _ (some 47) _ = _
                        simp only [Act.put, List.setIfInBounds_toArray, List.set_cons_zero, List.set_cons_succ, i64_w, i32_w]
                        rfl
                      exact norm_ (by simp only [putAll, Act.put, List.setIfInBounds_toArray, List.set_cons_zero, List.set_cons_succ]) (hCont (v157) _ ⟨hHeld, (by (with_reducible repeat (first | apply Kd.R_alloc | apply Kd.R_drewN | apply Kd.R_drew)); exact Kd.R_mono HO146.out (fun _ hk => hk.1)), (by (with_reducible repeat (first | apply Kd.N_alloc | apply Kd.N_drewN | apply Kd.N_drew)); exact Kd.N_mono HO149.out (fun _ hk => ⟨hk.1.1.1, ⟨hk.1.1.2.1, ⟨hk.1.2, ⟨hk.2, hk.1.1.2.2⟩⟩⟩⟩)), (by (with_reducible repeat (first | apply Kd.N_alloc | apply Kd.N_drewN | apply Kd.N_drew)); exact Kd.N_mono HO154.out (fun _ hk => ⟨hk.1.1, ⟨hk.1.2.1, ⟨hk.1.2.2.1, ⟨hk.2, hk.1.2.2.2⟩⟩⟩⟩)), (by (with_reducible repeat (first | apply Kd.N_alloc | apply Kd.N_drewN | apply Kd.N_drew)); exact HO158.out), (by (with_reducible repeat (first | apply Kd.V_alloc | apply Kd.V_drewN | apply Kd.V_drew)); exact Kd.V_mono HO_141003.out (fun _ hk => ⟨hk.1.1.1.1.1, ⟨hk.1.1.1.2, ⟨hk.1.1.2, ⟨hk.1.2, ⟨hk.2, hk.1.1.1.1.2⟩⟩⟩⟩⟩)), (by (with_reducible repeat (first | refine blk_drewN ?_ _ | refine blk_drew ?_ | refine blk_alloc ?_ _)); exact BK140.out), (by repeat (first | (with_reducible first | exact HB.out | apply below_alloc | apply pw_below_drewN | apply below_drew1 | refine below_set ?_ GE140.out) | exact HB.out))⟩)
                  rintro v157 w43 ⟨hS_, h0_, h1_, h2_, h3_, h4_, h5_, h6_⟩
                  have n0_ : Aside0 (Kd.R Kd.string 9 w43 w.heap.size (fun k_ => (w.heap.size ≤ k_)) (.slice Ao35 y144.length co35) y144) := ⟨h0_⟩
                  have n1_ : Aside0 (Kd.N k27 27 w43 w.heap.size (fun k_ => (P1_3_ k_ ∨ w.heap.size ≤ k_) ∧ some k_ ≠ (.slice Ao35 y144.length co35 : Value).ownBlock ∧ some k_ ≠ (.slice Ao38 t151.length co38 : Value).ownBlock ∧ some k_ ≠ (v157 : Value).ownBlock ∧ k_ ≠ gb140) (.slice Ao36 y147.length co36) y147) := ⟨h1_⟩
                  have n2_ : Aside0 (Kd.N k27 27 w43 w.heap.size (fun k_ => (P1_3_ k_ ∨ w.heap.size ≤ k_) ∧ some k_ ≠ (.slice Ao35 y144.length co35 : Value).ownBlock ∧ some k_ ≠ (.slice Ao36 y147.length co36 : Value).ownBlock ∧ some k_ ≠ (v157 : Value).ownBlock ∧ k_ ≠ gb140) (.slice Ao38 t151.length co38) t151) := ⟨h2_⟩
                  have n3_ : Aside0 (Kd.N k27 27 w43 w.heap.size (fun k_ => (P1_3_ k_ ∨ w.heap.size ≤ k_) ∧ some k_ ≠ (.slice Ao35 y144.length co35 : Value).ownBlock ∧ some k_ ≠ (.slice Ao36 y147.length co36 : Value).ownBlock ∧ some k_ ≠ (.slice Ao38 t151.length co38 : Value).ownBlock ∧ k_ ≠ gb140) v157 y156) := ⟨h3_⟩
                  have n4_ : Aside0 (Kd.V k27 27 w43 w.heap.size (fun k_ => (P1_3_ k_ ∨ w.heap.size ≤ k_) ∧ some k_ ≠ (.slice Ao35 y144.length co35 : Value).ownBlock ∧ some k_ ≠ (.slice Ao36 y147.length co36 : Value).ownBlock ∧ some k_ ≠ (.slice Ao38 t151.length co38 : Value).ownBlock ∧ some k_ ≠ (v157 : Value).ownBlock ∧ k_ ≠ gb140) (.slice A1_3 l1_3.length c1_3) l1_3) := ⟨h4_⟩
                  have n5_ : Aside0 (w43.heap[gb140]? = some (.cells #[.int .i64 a1_0, .int .i64 a1_1, .string a1_2, .slice A1_3 l1_3.length c1_3] 27 (0, 0))) := ⟨h5_⟩
                  have n6_ : Aside0 (Below w.heap.size w w43) := ⟨h6_⟩
                  clear HO_141003
                  clear HO146
                  clear HO149
                  clear HO154
                  clear BK140
                  clear HB
                  clear h0_ h1_ h2_ h3_ h4_ h5_ h6_
                  have HO146 := n0_
                  have HO149 := n1_
                  have HO154 := n2_
                  have HO158 := n3_
                  have HO_141003 := n4_
                  have BK140 := n5_
                  have HB := n6_
                  clear n0_ n1_ n2_ n3_ n4_ n5_ n6_
                  have hHeld : w43.cell? ⟨gb140, 0, none⟩ = some (.int .i64 a1_0) ∧ w43.cell? ⟨gb140, 1, none⟩ = some (.int .i64 a1_1) ∧ w43.cell? ⟨gb140, 2, none⟩ = some (.string a1_2) ∧ w43.cell? ⟨gb140, 3, none⟩ = some (.slice A1_3 l1_3.length c1_3) := hS_
                  obtain ⟨Ao44, co44, eo44⟩ := Kd.N_slice HO158.out
                  (first | subst eo44 | (injection eo44 with f1_ f2_ f3_; have f4_ := f1_.symm; have f5_ := f3_.symm; clear f1_ f2_ f3_; subst f4_; subst f5_))
                  refine norm_ (a' := ?_) ?_ ?_
                  rotate_left
                  · simp only [putAll, Act.put, List.setIfInBounds_toArray, List.set_cons_zero, List.set_cons_succ]
                    rfl
                  refine one_ (i := 9) (N := some 52) #[true, true, true, true, true, true, true, true, true, true, false, false, false] rfl rfl (one_of HT_.out (by kernel_rfl)) (by decide) (fun K hK => ?_)
                  refine goes_ Tryd.func9 (by kernel_rfl) rfl #[.string (a0 ++ (⟨#[32, 61, 32, 63]⟩ : ByteArray)), .slice Ao44 y156.length co44] (by rfl) rfl rfl (by (try simp only [List.map_toArray, List.map_cons, List.map_nil]); first | done | rfl | (simp only [List.length_drop, List.length_take]; rfl)) ?_
                  with_reducible refine (spec_Debug.calls kj9 (a0 ++ (⟨#[32, 61, 32, 63]⟩ : ByteArray)) _ _ y156 t159 _ ?side1 ?side2 A29.out).mono ?_
                  (case side1 => repeat (first | exact (Kd.N_reads' HO158.out).2.2 | (with_reducible refine Kd.C_alloc ?_ _) | (with_reducible refine Kd.C_drewN ?_ _) | (with_reducible refine Kd.C_drew ?_)))
                  (case side2 => exact (Kd.N_reads' HO158.out).2.1)
                  rintro e w45 ⟨rfl, hb⟩
                  refine ⟨_, rfl, ?_⟩
                  have n0_ := Aside0.mk (Kd.V_below (by (with_reducible repeat (first | apply Kd.V_alloc | apply Kd.V_drewN | apply Kd.V_drew)); exact HO_141003.out) hb)
                  have n1_ := Aside0.mk (Kd.R_below (by (with_reducible repeat (first | apply Kd.R_alloc | apply Kd.R_drewN | apply Kd.R_drew)); exact HO146.out) hb)
                  have n2_ := Aside0.mk (Kd.N_below (by (with_reducible repeat (first | apply Kd.N_alloc | apply Kd.N_drewN | apply Kd.N_drew)); exact HO149.out) hb)
                  have n3_ := Aside0.mk (Kd.N_below (by (with_reducible repeat (first | apply Kd.N_alloc | apply Kd.N_drewN | apply Kd.N_drew)); exact HO154.out) hb)
                  have n4_ := Aside0.mk (Kd.N_below (by (with_reducible repeat (first | apply Kd.N_alloc | apply Kd.N_drewN | apply Kd.N_drew)); exact HO158.out) hb)
                  have n5_ := Aside0.mk (blk_below (g := gb140) (o := .cells #[.int .i64 a1_0, .int .i64 a1_1, .string a1_2, .slice A1_3 l1_3.length c1_3] 27 (0, 0)) (by (with_reducible repeat (first | refine blk_drewN ?_ _ | refine blk_drew ?_ | refine blk_alloc ?_ _)); exact BK140.out) hb)
                  have n6_ := Aside0.mk (below_step (by repeat (first | (with_reducible first | exact HB.out | apply below_alloc | apply pw_below_drewN | apply below_drew1 | refine below_set ?_ GE140.out) | exact HB.out)) hb)
                  clear HO_141003
                  clear HO146
                  clear HO149
                  clear HO154
                  clear HO158
                  clear BK140
                  clear HB
                  have HO_141003 := n0_
                  have HO146 := n1_
                  have HO149 := n2_
                  have HO154 := n3_
                  have HO158 := n4_
                  have BK140 := n5_
                  have HB := n6_
                  clear n0_ n1_ n2_ n3_ n4_ n5_ n6_
                  (try clear hb)
                  (try clear hb2)
                  (try clear hk)
                  (try clear hi)
                  refine hK.out _ _ ⟨(blk_cell BK140.out 0).trans rfl, (blk_cell BK140.out 1).trans rfl, (blk_cell BK140.out 2).trans rfl, (blk_cell BK140.out 3).trans rfl⟩ (fun hHeld => ?_)
                  clear hK K
                  refine norm_ (a' := ?_) ?_ ?_
                  rotate_left
                  · show Act.put _ (some 52) _ = _
                    simp only [Act.put, List.setIfInBounds_toArray, List.set_cons_zero, List.set_cons_succ, i64_w, i32_w]
                    rfl
                  refine pure_ (i := 10) (N := some 53) (v := ?_) (a' := ?_) #[true, true, true, true, true, true, true, true, true, true, true, false, false] rfl rfl (any_of HT_.out (by kernel_rfl)) (fun _ _ _ h => h) (Or.inl ⟨by rfl, ?_⟩) ?_ ?_
                  rotate_left
                  · intro w'
                    go_simp
                    with_reducible rfl
                  rotate_left
                  · simp only [Act.put, List.setIfInBounds_toArray, List.set_cons_zero, List.set_cons_succ, i64_w, i32_w]
                    rfl
                  refine pure_ (i := 11) (N := some 54) (v := ?_) (a' := ?_) #[true, true, true, true, true, true, true, true, true, true, true, true, false] rfl rfl (any_of HT_.out (by kernel_rfl)) (fun _ _ _ h => h) (Or.inl ⟨by rfl, ?_⟩) ?_ ?_
                  rotate_left
                  · intro w'
                    go_simp
                    with_reducible rfl
                  rotate_left
                  · simp only [Act.put, List.setIfInBounds_toArray, List.set_cons_zero, List.set_cons_succ, i64_w, i32_w]
                    rfl
                  refine pure_ (i := 12) (N := some 4) (v := ?_) (a' := ?_) #[true, true, true, true, true, true, true, true, true, true, true, true, true] rfl rfl (any_of HT_.out (by kernel_rfl)) (fun _ _ _ h => h) (Or.inl ⟨by rfl, ?_⟩) ?_ ?_
                  rotate_left
                  · intro w'
                    go_simp
                    with_reducible rfl
                  rotate_left
                  · simp only [Act.put, List.setIfInBounds_toArray, List.set_cons_zero, List.set_cons_succ, i64_w, i32_w]
                    rfl
                  refine done_ (done_of HT_.out (by kernel_rfl)) ?_
                  try go_wp2
                  go_ret
                  exact ⟨by first | rfl | (simp [errW_none, errW_some] <;> rfl) | (simp [*, errW_none, errW_some] <;> rfl), by repeat (first | (with_reducible first | exact HB.out | apply below_alloc | apply pw_below_drewN | apply below_drew1 | refine below_set ?_ GE140.out) | exact HB.out)⟩
                · rw [if_neg c28] at H
                  exact absurd H (by simp)
              · replace c26 := Bool.eq_false_iff.mpr c26
                subst c26
                have H1 : (some false) = some r := by rw [if_neg (show ¬ (false = true) by decide)] at H; exact H
                clear H
                have H := H1
                clear H1
                obtain rfl := Option.some.inj H
                try go_wp2_with (first | ((with_reducible refine gate_dst (N := 36) rfl ?_); (try (refine gate_guard (by rfl) ?_; dsimp only)); refine Kd.R_lit Kd.string _ 9 ?hg (N := 36) ?hd (xs := ([a0] : List ByteArray)) (inner := [.string a0]) (ok := fun _ => True) (okp := fun _ => True) ?hr ?hp (fun _ hk => hk) trivial (Below.refl _ _) (Nat.le_refl _) (by simp) ?_; (case hd => rfl); (case hg => rfl); (case hr => first | (go_simp; done) | (go_simp; rfl)); (case hp => exact (Reps.one (show Kd.M Kd.string _ _ _ a0 [.string a0] from rfl) (Reps.none _ _))); intro v145 w46 ho47 hb hg_ hnew_; clear hg_ hnew_; (first | rw [← Ny144.out] at ho47 | (simp only [Int.reduceToNat] at ho47; rw [← Ny144.out] at ho47)); have n0_ := Aside0.mk (Kd.V_elder' (by (with_reducible repeat (first | apply Kd.V_alloc | apply Kd.V_drewN | apply Kd.V_drew)); exact HO_141003.out) (Kd.R_base ho47) hb); have n1_ := Aside0.mk (Kd.R_lower (Kd.R_newM (M := fun k_ => (w.heap.size ≤ k_)) ho47 (below_size (by repeat (first | (with_reducible first | exact HB.out | apply below_alloc | apply pw_below_drewN | apply below_drew1 | refine below_set ?_ GE140.out) | exact HB.out))) (fun k_ h_ => h_)) (below_size (by repeat (first | (with_reducible first | exact HB.out | apply below_alloc | apply pw_below_drewN | apply below_drew1 | refine below_set ?_ GE140.out) | exact HB.out)))); have n2_ := Aside0.mk (blk_below (g := gb140) (o := .cells #[.int .i64 a1_0, .int .i64 a1_1, .string a1_2, .slice A1_3 l1_3.length c1_3] 27 (0, 0)) (by (with_reducible repeat (first | refine blk_drewN ?_ _ | refine blk_drew ?_ | refine blk_alloc ?_ _)); exact BK140.out) hb); have n3_ := Aside0.mk (below_step (by repeat (first | (with_reducible first | exact HB.out | apply below_alloc | apply pw_below_drewN | apply below_drew1 | refine below_set ?_ GE140.out) | exact HB.out)) hb); clear HO_141003; clear BK140; clear HB; have HO_141003 := n0_; have HO146 := n1_; have BK140 := n2_; have HB := n3_; clear n0_ n1_ n2_ n3_; clear hb ho47; have hcz48_0 : w46.cell? ⟨gb140, 0, none⟩ = some (.int .i64 a1_0) := (blk_cell BK140.out 0).trans rfl; have hcz48_1 : w46.cell? ⟨gb140, 1, none⟩ = some (.int .i64 a1_1) := (blk_cell BK140.out 1).trans rfl; have hcz48_2 : w46.cell? ⟨gb140, 2, none⟩ = some (.string a1_2) := (blk_cell BK140.out 2).trans rfl; have hcz48_3 : w46.cell? ⟨gb140, 3, none⟩ = some (.slice A1_3 l1_3.length c1_3) := (blk_cell BK140.out 3).trans rfl; have hfz48_0 := blk_frozen BK140.out 0; have hfz48_1 := blk_frozen BK140.out 1; have hfz48_2 := blk_frozen BK140.out 2; have hfz48_3 := blk_frozen BK140.out 3) | ((with_reducible refine gate_dst (N := 38) rfl ?_); (try (refine gate_guard (by rfl) ?_; dsimp only)); refine Kd.N_lit k27 _ 27 ?hg (N' := 38) ?hd (xs := ([(⟨a1_0, a1_1, a1_2, l1_3⟩ : S27)] : List (S27))) (inner := [.int .i64 a1_0, .int .i64 a1_1, .string a1_2, .slice A1_3 l1_3.length c1_3]) (ok := (fun k_ => (P1_3_ k_ ∨ w.heap.size ≤ k_) ∧ some k_ ≠ (v145 : Value).ownBlock ∧ k_ ≠ gb140)) (okp := (fun k_ => (P1_3_ k_ ∨ w.heap.size ≤ k_) ∧ some k_ ≠ (v145 : Value).ownBlock ∧ k_ ≠ gb140)) ?hr ?hp (fun _ hk => hk) ((show ∀ k_, w46.heap.size ≤ k_ → (fun k_ => (P1_3_ k_ ∨ w.heap.size ≤ k_) ∧ some k_ ≠ (v145 : Value).ownBlock ∧ k_ ≠ gb140) k_ from fun k_ hk => ⟨(.inr (Nat.le_trans (below_size (by repeat (first | (with_reducible first | exact HB.out | apply below_alloc | apply pw_below_drewN | apply below_drew1 | refine below_set ?_ GE140.out) | exact HB.out))) hk)), Kd.fresh' (Kd.R_lt (by (with_reducible repeat (first | apply Kd.R_alloc | apply Kd.R_drewN | apply Kd.R_drew)); exact HO146.out)) k_ hk, Kd.freshB (g := gb140) (o := .cells #[.int .i64 a1_0, .int .i64 a1_1, .string a1_2, .slice A1_3 l1_3.length c1_3] 27 (0, 0)) (by (with_reducible repeat (first | refine blk_drewN ?_ _ | refine blk_drew ?_ | refine blk_alloc ?_ _)); exact BK140.out) k_ hk⟩) _ (Nat.le_refl _)) (Below.refl _ _) (Nat.le_refl _) (by simp) ?_; (case hd => rfl); (case hg => rfl); (case hr => first | (go_simp; done) | (go_simp; rfl)); (case hp => exact (Reps.c4 (show Kd.FK k27 _ _ (⟨a1_0, a1_1, a1_2, l1_3⟩ : S27) [.int .i64 a1_0, .int .i64 a1_1, .string a1_2, .slice A1_3 l1_3.length c1_3] from (k27_mkF _ _ (⟨a1_0, a1_1, a1_2, l1_3⟩ : S27) (Kd.V_reads' (Kd.V_mono (ok' := (fun k_ => (P1_3_ k_ ∨ w.heap.size ≤ k_) ∧ some k_ ≠ (v145 : Value).ownBlock ∧ k_ ≠ gb140)) (HO_141003.out) (fun k_ hk => ⟨hk.1.1, ⟨hk.2, hk.1.2⟩⟩))).2.1 (Kd.V_F (Kd.V_mono (ok' := (fun k_ => (P1_3_ k_ ∨ w.heap.size ≤ k_) ∧ some k_ ≠ (v145 : Value).ownBlock ∧ k_ ≠ gb140)) (HO_141003.out) (fun k_ hk => ⟨hk.1.1, ⟨hk.2, hk.1.2⟩⟩))))) (Reps.none _ _))); intro v148 w49 ho50 hb hg_ hnew_; clear hg_ hnew_; (first | rw [← Ny147.out] at ho50 | (simp only [Int.reduceToNat] at ho50; rw [← Ny147.out] at ho50)); have n0_ := Aside0.mk (Kd.V_elder' (by (with_reducible repeat (first | apply Kd.V_alloc | apply Kd.V_drewN | apply Kd.V_drew)); exact HO_141003.out) (Kd.N_base ho50) hb); have n1_ := Aside0.mk (Kd.R_below (by (with_reducible repeat (first | apply Kd.R_alloc | apply Kd.R_drewN | apply Kd.R_drew)); exact HO146.out) hb); have n2_ := Aside0.mk (Kd.N_lower ho50 (below_size (by repeat (first | (with_reducible first | exact HB.out | apply below_alloc | apply pw_below_drewN | apply below_drew1 | refine below_set ?_ GE140.out) | exact HB.out)))); have n3_ := Aside0.mk (blk_below (g := gb140) (o := .cells #[.int .i64 a1_0, .int .i64 a1_1, .string a1_2, .slice A1_3 l1_3.length c1_3] 27 (0, 0)) (by (with_reducible repeat (first | refine blk_drewN ?_ _ | refine blk_drew ?_ | refine blk_alloc ?_ _)); exact BK140.out) hb); have n4_ := Aside0.mk (below_step (by repeat (first | (with_reducible first | exact HB.out | apply below_alloc | apply pw_below_drewN | apply below_drew1 | refine below_set ?_ GE140.out) | exact HB.out)) hb); clear HO_141003; clear HO146; clear BK140; clear HB; have HO_141003 := n0_; have HO146 := n1_; have HO149 := n2_; have BK140 := n3_; have HB := n4_; clear n0_ n1_ n2_ n3_ n4_; clear hb ho50; obtain ⟨Ao51, co51, eo51⟩ := Kd.R_slice HO146.out; subst eo51; obtain ⟨Ao52, co52, eo52⟩ := Kd.N_slice HO149.out; subst eo52) | ((with_reducible refine gate_callee (f := 13) rfl ?_); refine goesL_ (some 39) rfl rfl Tryd.func13 (by kernel_rfl) rfl #[.slice Ao51 y144.length co51, .slice Ao52 y147.length co52] rfl (by (try simp only [List.map_toArray, List.map_cons, List.map_nil]); first | done | rfl | (simp only [List.length_drop, List.length_take]; rfl)) ?_; (with_reducible refine (impl_EqOf.calls _ _ y144 _ _ y147 t150 t151 false _ ?side1 ?side2 ?side3 ?side4 A25.out).mono ?_); (case side1 => repeat (first | exact (Kd.R_reads' HO146.out).2.2 | (with_reducible refine Kd.C_alloc ?_ _) | (with_reducible refine Kd.C_drewN ?_ _) | (with_reducible refine Kd.C_drew ?_))); (case side2 => exact (Kd.R_reads' HO146.out).2.1); (case side3 => repeat (first | exact (Kd.N_reads' HO149.out).2.2 | (with_reducible refine Kd.C_alloc ?_ _) | (with_reducible refine Kd.C_drewN ?_ _) | (with_reducible refine Kd.C_drew ?_))); (case side4 => exact (Kd.N_reads' HO149.out).2.1); rintro e w53 ⟨v153, rfl, ho0, hb⟩; refine ⟨_, rfl, ?_⟩; have n0_ := Aside0.mk (Kd.V_elder' (by (with_reducible repeat (first | apply Kd.V_alloc | apply Kd.V_drewN | apply Kd.V_drew)); exact HO_141003.out) (Kd.N_base (Kd.R_N ho0)) hb); have n1_ := Aside0.mk (Kd.R_below (by (with_reducible repeat (first | apply Kd.R_alloc | apply Kd.R_drewN | apply Kd.R_drew)); exact HO146.out) hb); have n2_ := Aside0.mk (Kd.N_elder' (by (with_reducible repeat (first | apply Kd.N_alloc | apply Kd.N_drewN | apply Kd.N_drew)); exact HO149.out) (Kd.N_base (Kd.R_N ho0)) hb); have n3_ := Aside0.mk (Kd.N_lower (Kd.N_mono (ok' := fun k_ => (P1_3_ k_ ∨ w.heap.size ≤ k_) ∧ some k_ ≠ (.slice Ao51 y144.length co51 : Value).ownBlock ∧ some k_ ≠ (.slice Ao52 y147.length co52 : Value).ownBlock ∧ k_ ≠ gb140) (Kd.R_N (Kd.R_bound ho0)) (fun k_ hk_ => ⟨(.inr (Nat.le_trans (below_size (by repeat (first | (with_reducible first | exact HB.out | apply below_alloc | apply pw_below_drewN | apply below_drew1 | refine below_set ?_ GE140.out) | exact HB.out))) hk_.2.1)), (Kd.fresh' (Kd.R_lt (by (with_reducible repeat (first | apply Kd.R_alloc | apply Kd.R_drewN | apply Kd.R_drew)); exact HO146.out)) k_ hk_.2.1), (Kd.fresh' (Kd.N_lt (by (with_reducible repeat (first | apply Kd.N_alloc | apply Kd.N_drewN | apply Kd.N_drew)); exact HO149.out)) k_ hk_.2.1), (Kd.freshB (g := gb140) (o := .cells #[.int .i64 a1_0, .int .i64 a1_1, .string a1_2, .slice A1_3 l1_3.length c1_3] 27 (0, 0)) (by (with_reducible repeat (first | refine blk_drewN ?_ _ | refine blk_drew ?_ | refine blk_alloc ?_ _)); exact BK140.out) k_ hk_.2.1)⟩)) (below_size (by repeat (first | (with_reducible first | exact HB.out | apply below_alloc | apply pw_below_drewN | apply below_drew1 | refine below_set ?_ GE140.out) | exact HB.out)))); have n4_ := Aside0.mk (blk_below (g := gb140) (o := .cells #[.int .i64 a1_0, .int .i64 a1_1, .string a1_2, .slice A1_3 l1_3.length c1_3] 27 (0, 0)) (by (with_reducible repeat (first | refine blk_drewN ?_ _ | refine blk_drew ?_ | refine blk_alloc ?_ _)); exact BK140.out) hb); have n5_ := Aside0.mk (below_step (by repeat (first | (with_reducible first | exact HB.out | apply below_alloc | apply pw_below_drewN | apply below_drew1 | refine below_set ?_ GE140.out) | exact HB.out)) hb); clear HO_141003; clear HO146; clear HO149; clear BK140; clear HB; have HO_141003 := n0_; have HO146 := n1_; have HO149 := n2_; have HO154 := n3_; have BK140 := n4_; have HB := n5_; clear n0_ n1_ n2_ n3_ n4_ n5_; (try clear hb); (try clear hb2); (try clear hk); (try clear hi); (try clear ho0)))
                have n0_ := Aside0.mk (Kd.V_drew HO_141003.out)
                have n1_ := Aside0.mk (Kd.R_drew HO146.out)
                have n2_ := Aside0.mk (Kd.N_drew HO149.out)
                have n3_ := Aside0.mk (Kd.N_drew HO154.out)
                have n4_ := Aside0.mk (blk_drew BK140.out)
                have n5_ := Aside0.mk (below_drew1 HB.out)
                clear HO_141003
                clear HO146
                clear HO149
                clear HO154
                clear BK140
                clear HB
                have HO_141003 := n0_
                have HO146 := n1_
                have HO149 := n2_
                have HO154 := n3_
                have BK140 := n4_
                have HB := n5_
                clear n0_ n1_ n2_ n3_ n4_ n5_
                refine start_ (n := 13) (S := fun w' => True) (ds := []) #[false, false, false, false, false, false, false, false, false, false, false, false, false] (by kernel_rfl) rfl rfl trivial (fun hHeld => ?_); refine with_tabW laws_FnDebugEq.tab6 laws_FnDebugEq.bits6 (fun HT_ HW_ => ?_)
                generalize w53.drew = w54 at HO_141003 HO146 HO149 HO154 BK140 HB hHeld ⊢
                refine pure_ (i := 0) (N := some 43) (v := ?_) (a' := ?_) #[true, false, false, false, false, false, false, false, false, false, false, false, false] rfl rfl (any_of HT_.out (by kernel_rfl)) (fun _ _ _ h => h) (Or.inl ⟨by rfl, ?_⟩) ?_ ?_
                rotate_left
                · intro w'
                  go_simp
                  with_reducible rfl
                rotate_left
                · simp only [Act.put, List.setIfInBounds_toArray, List.set_cons_zero, List.set_cons_succ, i64_w, i32_w]
                  rfl
                refine pure_ (i := 1) (N := some 44) (v := ?_) (a' := ?_) #[true, true, false, false, false, false, false, false, false, false, false, false, false] rfl rfl (any_of HT_.out (by kernel_rfl)) (fun _ _ _ h => h) (Or.inl ⟨by rfl, ?_⟩) ?_ ?_
                rotate_left
                · intro w'
                  go_simp
                  with_reducible rfl
                rotate_left
                · simp only [Act.put, List.setIfInBounds_toArray, List.set_cons_zero, List.set_cons_succ, i64_w, i32_w]
                  rfl
                refine pure_ (i := 2) (N := some 45) (v := undef) (a' := ?_) #[true, true, true, false, false, false, false, false, false, false, false, false, false] rfl rfl (any_of HT_.out (by kernel_rfl)) (fun _ _ _ h => h) (Or.inr ⟨by rfl, rfl⟩) ?_ ?_
                rotate_left
                · simp only [Act.put, List.setIfInBounds_toArray, List.set_cons_zero, List.set_cons_succ, i64_w, i32_w]
                  rfl
                refine pure_ (i := 3) (N := some 46) (v := undef) (a' := ?_) #[true, true, true, true, false, false, false, false, false, false, false, false, false] rfl rfl (any_of HT_.out (by kernel_rfl)) (fun _ _ _ h => h) (Or.inr ⟨by rfl, rfl⟩) ?_ ?_
                rotate_left
                · simp only [Act.put, List.setIfInBounds_toArray, List.set_cons_zero, List.set_cons_succ, i64_w, i32_w]
                  rfl
                refine pure_ (i := 4) (N := some 47) (v := undef) (a' := ?_) #[true, true, true, true, true, false, false, false, false, false, false, false, false] rfl rfl (any_of HT_.out (by kernel_rfl)) (fun _ _ _ h => h) (Or.inr ⟨by rfl, rfl⟩) ?_ ?_
                rotate_left
                · simp only [Act.put, List.setIfInBounds_toArray, List.set_cons_zero, List.set_cons_succ, i64_w, i32_w]
                  rfl
                refine pure_ (i := 5) (N := some 48) (v := undef) (a' := ?_) #[true, true, true, true, true, true, false, false, false, false, false, false, false] rfl rfl (any_of HT_.out (by kernel_rfl)) (fun _ _ _ h => h) (Or.inr ⟨by rfl, rfl⟩) ?_ ?_
                rotate_left
                · simp only [Act.put, List.setIfInBounds_toArray, List.set_cons_zero, List.set_cons_succ, i64_w, i32_w]
                  rfl
                refine pure_ (i := 6) (N := some 49) (v := undef) (a' := ?_) #[true, true, true, true, true, true, true, false, false, false, false, false, false] rfl rfl (any_of HT_.out (by kernel_rfl)) (fun _ _ _ h => h) (Or.inr ⟨by rfl, rfl⟩) ?_ ?_
                rotate_left
                · simp only [Act.put, List.setIfInBounds_toArray, List.set_cons_zero, List.set_cons_succ, i64_w, i32_w]
                  rfl
                refine pure_ (i := 7) (N := some 50) (v := undef) (a' := ?_) #[true, true, true, true, true, true, true, true, false, false, false, false, false] rfl rfl (any_of HT_.out (by kernel_rfl)) (fun _ _ _ h => h) (Or.inr ⟨by rfl, rfl⟩) ?_ ?_
                rotate_left
                · simp only [Act.put, List.setIfInBounds_toArray, List.set_cons_zero, List.set_cons_succ, i64_w, i32_w]
                  rfl
                refine pure_ (i := 8) (N := some 51) (v := undef) (a' := ?_) #[true, true, true, true, true, true, true, true, true, false, false, false, false] rfl rfl (any_of HT_.out (by kernel_rfl)) (fun _ _ _ h => h) (Or.inr ⟨by rfl, rfl⟩) ?_ ?_
                rotate_left
                · simp only [Act.put, List.setIfInBounds_toArray, List.set_cons_zero, List.set_cons_succ, i64_w, i32_w]
                  rfl
                refine pure_ (i := 9) (N := some 52) (v := undef) (a' := ?_) #[true, true, true, true, true, true, true, true, true, true, false, false, false] rfl rfl (any_of HT_.out (by kernel_rfl)) (fun _ _ _ h => h) (Or.inr ⟨by rfl, rfl⟩) ?_ ?_
                rotate_left
                · simp only [Act.put, List.setIfInBounds_toArray, List.set_cons_zero, List.set_cons_succ, i64_w, i32_w]
                  rfl
                refine pure_ (i := 10) (N := some 53) (v := undef) (a' := ?_) #[true, true, true, true, true, true, true, true, true, true, true, false, false] rfl rfl (any_of HT_.out (by kernel_rfl)) (fun _ _ _ h => h) (Or.inr ⟨by rfl, rfl⟩) ?_ ?_
                rotate_left
                · simp only [Act.put, List.setIfInBounds_toArray, List.set_cons_zero, List.set_cons_succ, i64_w, i32_w]
                  rfl
                refine pure_ (i := 11) (N := some 54) (v := ?_) (a' := ?_) #[true, true, true, true, true, true, true, true, true, true, true, true, false] rfl rfl (any_of HT_.out (by kernel_rfl)) (fun _ _ _ h => h) (Or.inl ⟨by rfl, ?_⟩) ?_ ?_
                rotate_left
                · intro w'
                  go_simp
                  with_reducible rfl
                rotate_left
                · simp only [Act.put, List.setIfInBounds_toArray, List.set_cons_zero, List.set_cons_succ, i64_w, i32_w]
                  rfl
                refine pure_ (i := 12) (N := some 4) (v := ?_) (a' := ?_) #[true, true, true, true, true, true, true, true, true, true, true, true, true] rfl rfl (any_of HT_.out (by kernel_rfl)) (fun _ _ _ h => h) (Or.inl ⟨by rfl, ?_⟩) ?_ ?_
                rotate_left
                · intro w'
                  go_simp
                  with_reducible rfl
                rotate_left
                · simp only [Act.put, List.setIfInBounds_toArray, List.set_cons_zero, List.set_cons_succ, i64_w, i32_w]
                  rfl
                refine done_ (done_of HT_.out (by kernel_rfl)) ?_
                try go_wp2
                go_ret
                exact ⟨by first | rfl | (simp [errW_none, errW_some] <;> rfl) | (simp [*, errW_none, errW_some] <;> rfl), by repeat (first | (with_reducible first | exact HB.out | apply below_alloc | apply pw_below_drewN | apply below_drew1 | refine below_set ?_ GE140.out) | exact HB.out)⟩

end Go.Proofs.YtabaldpjahcilaaDoor.QD
/-
  PROVED: 'laws.FnDebugEq': a condition of one column for people has its value in apostrophes. No condition but that the number is one of 64 bits.
-/
namespace Go.Proofs.YtabaldpjahcilaaDoor.Pure
open Go.RowKit Go.Proofs.YtabaldpjahcilaaDoor.QD Go.Proofs.YtabaldpjahcilaaDoor.H Go.Proofs.YtabaldpjahcilaaDoor.SB Go.Proofs.YtabaldpjahcilaaDoorW.PrintWords Go.Proofs.YtabaldpjahcilaaDoorW.PrintLast Go.Proofs.YtabaldpjahcilaaDoorW.PrintMore
set_option linter.unusedVariables false
set_option linter.unusedSimpArgs false

theorem name_pre {a : ByteArray} (h : ∀ j : Nat, j < a.size → bt a (j : Int) ≠ 44 ∧ bt a (j : Int) ≠ 32 ∧ bt a (j : Int) ≠ 63) : ∀ c ∈ a.data.toList, c ≠ 63 := by
  intro c hc h63
  obtain ⟨j, hj, rfl⟩ := List.mem_iff_getElem.1 hc
  have hj' : j < a.size := by rwa [list_size] at hj
  refine (h j hj').2.2 ?_
  rw [bt_s a j hj']
  exact b63.2 h63
theorem eq_marks {a : ByteArray} (h : ∀ c ∈ a.data.toList, c ≠ 63) : mkL (a ++ (⟨#[32, 61, 32, 63]⟩ : ByteArray)).data.toList = 1 := by
  rw [bytes_app, mk_pre _ _ h]
  rfl
theorem eq_cat (a : ByteArray) (v : S27) (h0 : v.f0 ≠ 0) (h5 : v.f0 ≠ 5) : eqTxt false a v = a ++ (⟨#[32, 61, 32, 63]⟩ : ByteArray) := by
  rw [eqTxt, if_neg h0, if_neg h5, if_neg (by decide)]
  exact ByteArray.ext (by simp)
theorem FnDebugEq (a : ByteArray) (v : S27) (hn : numR v) : ∃ k, laws_FnDebugEq.f k a v.f0 v.f1 v.f2 v.f3 = some true := by
  have j0T : Ev (fun k => laws_FnDebugEq.j0 k a true v.f0 v.f1 v.f2 v.f3) true := Ev.step (f := fun _ => some true) (fun k => by simp only [laws_FnDebugEq.j0]; rw [if_pos trivial]) (Ev.now _)
  have j1T : Ev (fun k => laws_FnDebugEq.j1 k a true v.f0 v.f1 v.f2 v.f3) true := Ev.step (f := fun _ => some true) (fun k => by simp only [laws_FnDebugEq.j1]; rw [if_pos trivial]) (Ev.now _)
  refine Ev.rounds (g := fun k => laws_FnDebugEq.f k a v.f0 v.f1 v.f2 v.f3) ?_
  by_cases h1 : (a.size : Int) > 2147483647
  · exact Ev.congr (fun k => by simp only [laws_FnDebugEq.f]; rw [if_pos h1]) j0T
  have hz : ∃ b, laws_zzFits2.f v.f0 v.f1 v.f2 v.f3 = some b := by
    unfold laws_zzFits2.f
    split
    · exact ⟨_, rfl⟩
    · split <;> exact ⟨_, rfl⟩
  obtain ⟨z, hz⟩ := hz
  refine Ev.congr (f := fun k => laws_FnDebugEq.j0 k a (!z) v.f0 v.f1 v.f2 v.f3) (fun k => by simp only [laws_FnDebugEq.f]; rw [if_neg h1, hz, Option.bind_some]) ?_
  cases z with
  | false => exact j0T
  | true =>
    obtain ⟨b, hN, hname⟩ := name_is a (by omega)
    obtain ⟨b2, hV, hv⟩ := vr_atom v
    refine Ev.step (f := fun k => (spec_NameOnly.f k a).bind fun t142 => (if t142 = true then ((spec_ValueRight.f k v.f0 v.f1 v.f2 v.f3 false).bind fun t143 => (if t143 = true then (if v.f0 = 0 then (laws_FnDebugEq.j1 k a true v.f0 v.f1 v.f2 v.f3) else (laws_FnDebugEq.j1 k a (decide ((a.size : Int) > 40)) v.f0 v.f1 v.f2 v.f3)) else (laws_FnDebugEq.j1 k a true v.f0 v.f1 v.f2 v.f3))) else (laws_FnDebugEq.j1 k a true v.f0 v.f1 v.f2 v.f3))) (fun k => ?_) (Ev.bind hN ?_)
    · simp only [laws_FnDebugEq.j0]
      rw [if_neg (by decide)]
    cases b with
    | false => exact Ev.congr (fun k => by rw [if_neg (by decide)]) j1T
    | true =>
      refine Ev.congr (f := fun k => (spec_ValueRight.f k v.f0 v.f1 v.f2 v.f3 false).bind fun t143 => (if t143 = true then (if v.f0 = 0 then (laws_FnDebugEq.j1 k a true v.f0 v.f1 v.f2 v.f3) else (laws_FnDebugEq.j1 k a (decide ((a.size : Int) > 40)) v.f0 v.f1 v.f2 v.f3)) else (laws_FnDebugEq.j1 k a true v.f0 v.f1 v.f2 v.f3))) (fun k => by rw [if_pos rfl]) (Ev.bind hV ?_)
      cases b2 with
      | false => exact Ev.congr (fun k => by rw [if_neg (by decide)]) j1T
      | true =>
        by_cases h0 : v.f0 = 0
        · exact Ev.congr (fun k => by rw [if_pos rfl, if_pos h0]) j1T
        by_cases h40 : (a.size : Int) > 40
        · exact Ev.congr (fun k => by rw [if_pos rfl, if_neg h0, decide_eq_true h40]) j1T
        have hok := hv rfl
        have h5 : v.f0 ≠ 5 := by have := hok.1.2.1; omega
        have hd : dbgR v := dbg_ok hok hn
        have hpre := name_pre (hname rfl)
        have hz4 : (⟨#[32, 61, 32, 63]⟩ : ByteArray).size = 4 := rfl
        have hsz : (a ++ (⟨#[32, 61, 32, 63]⟩ : ByteArray)).size = a.size + 4 := by rw [ByteArray.size_append, hz4]
        have hall : ∀ x ∈ [v], dbgR x := fun x hx => by rw [List.mem_singleton.1 hx]; exact hd
        have e1 : impl_EqOf.f [a] [v] = some (a ++ (⟨#[32, 61, 32, 63]⟩ : ByteArray), [v], true) := by
          show eqF false [a] [v] = _
          simp only [eqF]
          rw [if_pos ⟨by omega, (rightB_iff v).2 (.inl hok.1), by rw [hok.1.2.2.1]; simp⟩, eq_cat a v h0 h5, eqVals, if_neg h0, if_neg h5]
        have e2 : impl_Debug.f (a ++ (⟨#[32, 61, 32, 63]⟩ : ByteArray)) [v] = some (debF (a ++ (⟨#[32, 61, 32, 63]⟩ : ByteArray)) [v]) := impl_is _ (by omega) _ (by simp) hall
        have e3 := debug_is (a ++ (⟨#[32, 61, 32, 63]⟩ : ByteArray)) (by omega) [v] (by simp) hall (eq_marks hpre)
        refine Ev.congr (f := fun k => laws_FnDebugEq.j1 k a false v.f0 v.f1 v.f2 v.f3) (fun k => by rw [if_pos rfl, if_neg h0, decide_eq_false h40]) ?_
        refine Ev.step (f := fun k => (spec_Debug.f k (a ++ (⟨#[32, 61, 32, 63]⟩ : ByteArray)) [v]).bind fun t159 => (some ((debF (a ++ (⟨#[32, 61, 32, 63]⟩ : ByteArray)) [v]).toList == t159.toList))) (fun k => ?_) (Ev.bind e3 (Ev.congr (f := fun _ => some true) (fun k => by simp) (Ev.now _)))
        simp only [laws_FnDebugEq.j1]
        rw [if_neg (by decide), eta_val v, e1, Option.bind_some, if_pos rfl]
        simp only [e2, Option.bind_some]
        rw [if_pos (by omega)]
end Go.Proofs.YtabaldpjahcilaaDoor.Pure
-- WRITTEN BY A PROGRAM OF THIS SESSION (wip/rowtexts.py). Not trusted: Lean checks it.
namespace Go.Proofs.YtabaldpjahcilaaDoor.fnDebugEq
open Go.ChangeShapes Go.WideShapes Go.ChangeAt Go.RowKit
open Go.ChangeMaps (open_string shut_string)
open Go.Proofs.YtabaldpjahcilaaDoorW.PrintWords
set_option linter.unusedVariables false
theorem heap_ : Kd.Heap QD.k27 := Kd.heap_fix (fun _ h_ => Kd.heap_iso _ (Kd.heap_pair (Kd.heap_int .i64) (Kd.heap_pair (Kd.heap_int .i64) (Kd.heap_pair Kd.heap_string (Kd.heap_slice 27 h_)))))
/-- A list of texts, as an argument's cells hold it. -/
theorem texts_C {W : World} {a : Addr} {len c : Nat} {ss : List ByteArray} (hl : len ≤ c) (hm : c ≤ maxLen) (hz : ss.length = c) (hc : ∀ i, i < ss.length → W.cell? (a.add i) = some (.string (ss.getD i ByteArray.empty))) : Kd.C Kd.string W (some a) len (ss.take len) := by
  refine ⟨by rw [List.length_take]; omega, by simp only [maxLen] at hm; omega, fun _ => ⟨a, rfl, fun j p hj => ⟨[.string p], rfl, rfl, fun i u hu => ?_⟩⟩⟩
  obtain ⟨hj2, hj3⟩ := List.getElem?_eq_some_iff.1 hj
  have hj4 : j < ss.length := by rw [List.length_take] at hj2; omega
  have hp : ss.getD j ByteArray.empty = p := by
    rw [← hj3, List.getElem_take]
    simp [List.getD, hj4]
  cases i with
  | zero =>
    simp at hu
    subst hu
    rw [← hp]
    show W.cell? (a.add (j * 1 + 0)) = _
    rw [Nat.mul_one, Nat.add_zero]
    exact hc j hj4
  | succ i => simp at hu
theorem laidOut : laidOutB Tryd.prog = true := by kernel_rfl
theorem door_met (os : Os) (args : Array Value) : laidMetH Tryd.prog Rows.fnDebugEqRow.laid ((World.doorLaid Tryd.prog 43 os).forCall (fun _ _ => 0) ⟨#[], args, []⟩).memory :=
  laidMetH_of_parts3 (fuel := 8) (laidMet_of_run' 8 (by kernel_rfl) (by kernel_rfl)) (by kernel_rfl) (by kernel_rfl)
theorem gTab : Tryd.prog.globalNamed "internal/strconv.uint64pow10" = some 1 := by kernel_rfl
theorem tab_of_laid {W : World} (h : laidMetH Tryd.prog Rows.fnDebugEqRow.laid W) : H.Tab W := by
  have h2 := h.filter (fun x => x.1 == "internal/strconv.uint64pow10")
  have e : (Rows.fnDebugEqRow.laid.filter fun x => x.1 == "internal/strconv.uint64pow10") = [("internal/strconv.uint64pow10", Lib.tabData .u64 Lib.pow10Tab)] := by kernel_rfl
  rw [e] at h2
  have h3 : laidMet Tryd.prog [("internal/strconv.uint64pow10", Lib.tabData .u64 Lib.pow10Tab)] W := h2
  exact Lib.tabIs_of_head (rest := []) gTab (t := 104) (e := 93) (n := 20) (by kernel_rfl) (by kernel_rfl) (by kernel_rfl) (by kernel_rfl) (by kernel_rfl) h3
theorem own : ownKnob Tryd.prog.godebug = none := by kernel_rfl
set_option maxRecDepth 100000 in
theorem lifted (os : Os) (started : os.Started) (H : Type) (enc : TypeId × Value → H) :
    ReturnsInHanded {} Tryd.checked os 5 .any (fun w args => (Rows.fnDebugEqSpec.pre enc Tryd.prog Tryd.f5 [] false w args ∧ laidMetH Tryd.prog Rows.fnDebugEqRow.laid w) ∧ sizedMet enc Tryd.prog Tryd.f5 (OpenSpec.ofChange Rows.fnDebugEqSpec) false w args) (Rows.fnDebugEqSpec.post enc Tryd.prog Tryd.f5 false true false false) := by
  refine returnsInHanded_of_change_and (C := Tryd.checked) (X := fun w _ => laidMetH Tryd.prog Rows.fnDebugEqRow.laid w) (fun _ _ _ hh h => h.of_heap hh) own started (by kernel_rfl) Tryd.func5
    (ChangeSpec.witness_shaped (enc := enc) (C := Tryd.checked) (os := os) (X := fun w _ => laidMetH Tryd.prog Rows.fnDebugEqRow.laid w) false (World.doorLaid Tryd.prog 43 os) #[.string ByteArray.empty, .agg #[.int .i64 0, .int .i64 0, .string ByteArray.empty, .slice none 0 0]] 8 rfl (World.shaped_of_RefB (by kernel_rfl) (by kernel_rfl)) (by kernel_rfl) (by kernel_rfl) (by kernel_rfl) (door_met os _)) ?_
  intro W base args ds gs before hval0 hW hcnd hsz0 hL _
  have hsz : (DataW.weightsEach Tryd.prog (Tryd.f5.params.toList ++ Rows.fnDebugEqSpec.plain.varTypes Tryd.prog) (ds ++ gs)).all (· ≤ reachBytes) = true := hsz0
  have hval : ∀ (j : Nat) t v, Tryd.f5.params[j]? = some t → args[j]? = some v → Value.okWide Tryd.prog W .any base t v := hval0
  have hW' := hW
  obtain ⟨p, q, hA0, hV, rfl, hfz, hnd⟩ := hW
  have hA : DataW.TrodAll enc Tryd.prog W 0 (fun _ => true) true Tryd.f5.params.toList args.toList ds p := hA0
  rw [Tryd.params5] at hA hval hsz
  obtain ⟨v0, vs0, d0, ds0, p0, q0, hargs, rfl, rfl, h0, r0⟩ := trodAll_cons hA
  obtain ⟨v1, vs1, d1, ds1, p1, q1, rfl, rfl, rfl, h1, r1⟩ := trodAll_cons r0
  obtain ⟨rfl, rfl, rfl⟩ := trodAll_nil r1
  obtain rfl : args = #[v0, v1] := by cases args; simp_all
  obtain ⟨rfl, rfl⟩ := trodVars_none hV
  obtain ⟨a0, rfl, rfl, rfl, y0⟩ := open_string Tryd.underlying9 (hval 0 9 v0 rfl rfl) h0
  obtain ⟨cs1, rfl, _⟩ := okWide_struct Tryd.underlying27 (hval 1 27 v1 rfl rfl)
  have k1 := h1
  have lt1 : ∀ x ∈ p1, x.block < W.heap.size := by obtain ⟨m, hm⟩ := k1; exact DataW.trod_lt m _ _ _ hm
  obtain ⟨y1, A1, c1, e1, u1, w1, num1⟩ : ∃ (y : QD.S27) (A : Option Addr) (c : Nat), cs1 = #[.int .i64 y.f0, .int .i64 y.f1, .string y.f2, .slice A y.f3.length c] ∧ y.f3.length ≤ c ∧ Kd.C QD.k27 W A y.f3.length y.f3 ∧ Go.Proofs.YtabaldpjahcilaaDoor.H.numR y := by
    obtain ⟨fuel, hf⟩ := h1
    obtain ⟨y, hy, hN⟩ := Go.Proofs.YtabaldpjahcilaaDoor.H.opens_valN _ _ _ hf
    obtain ⟨A, c, e, hl, hC⟩ := QD.k27_open hy
    exact ⟨y, A, c, by cases cs1; simp_all [Value.cells], hl, hC, hN⟩
  subst e1
  clear hA0 hval0 hsz0 hsz
  obtain ⟨k, hk⟩ := Pure.FnDebugEq a0 y1 num1
  refine (QD.laws_FnDebugEq.calls k a0 y1.f0 y1.f1 y1.f2 (fun k_ => k_ < W.heap.size) A1 c1 y1.f3 true W (tab_of_laid hL) (Kd.V_mk u1 (Kd.C_F heap_ w1)) hk).mono fun e W' ⟨he, bel⟩ => ?_
  subst he
  exact ⟨_, rfl, _, _, _, [], _, [], hW', trodAll_mk1 (shut_bool Tryd.underlying4 _), (trodAll_cons_mk (shut_string Tryd.underlying9 y0) (trodAll_cons_mk (Below.trod laidOut (by kernel_rfl) (of_decide_eq_true (by kernel_rfl)) k1 bel lt1) trodAll_mk0)), rfl, bel.frame _, fun h => by cases h⟩
theorem lf : (Rows.fnDebugEqRow.lifted == Tryd.pinned.checked.prog.liftsFinal) = true := beq_iff_eq.mpr Facts.liftsFinal.symm
theorem mk : (Tryd.pinned.checked.prog.make == some Rows.fnDebugEqRow.make) = true := beq_iff_eq.mpr Facts.make
theorem joined : joinedFacts Tryd.pinned.checked.prog 5 Tryd.f5 Rows.fnDebugEqSpec Rows.fnDebugEqRow = true := by
  unfold joinedFacts
  rw [Facts.mayEnter, lf, mk]
  kernel_rfl
theorem over : Rows.fnDebugEqRow.holds Tryd.pinned (OpenSpec.ofChange Rows.fnDebugEqSpec) :=
  OpenClaim.holds_of_wide 5 Tryd.f5 rfl rfl rfl rfl rfl rfl rfl ⟨rfl, rfl, rfl, rfl, rfl⟩ rfl rfl rfl rfl rfl (by kernel_rfl) Tryd.func5 joined
    (of_decide_eq_true (by kernel_rfl)) (by unfold Func.isWrapper; first | (rw [if_pos (by decide +kernel)]; kernel_rfl) | (rw [if_neg (by decide +kernel)]; exact ⟨rfl, rfl⟩))
    (fun os started H enc _ => lifted os started H enc)
theorem proved : Rows.FnDebugEqSaid := over
theorem plain (f : FuncId) (fn : Func) (hf : Tryd.pinned.checked.prog.funcNamed "given.example/pub-conveyance/laws.FnDebugEq" = some f) (hfn : Tryd.pinned.checked.prog.funcs[f]? = some fn) :
    true = Tryd.pinned.checked.prog.looks [] ∧ ∀ (j : Nat) t, fn.params[j]? = some t → Tryd.pinned.checked.prog.wantsStandIn t = false := by
  obtain rfl : f = 5 := Option.some.inj ((show Tryd.prog.funcNamed "given.example/pub-conveyance/laws.FnDebugEq" = some 5 by kernel_rfl).symm.trans hf) |>.symm
  obtain rfl : fn = Tryd.f5 := (Option.some.inj (Tryd.func5.symm.trans hfn)).symm
  refine ⟨by kernel_rfl, fun j t ht => ?_⟩
  rw [Tryd.params5] at ht
  have hm : t ∈ [9, 27] := by simpa using Array.mem_of_getElem? ht
  have hall : ([9, 27].all fun u => !Tryd.prog.wantsStandIn u) = true := by kernel_rfl
  exact (show Tryd.prog.wantsStandIn t = false by simpa using List.all_eq_true.1 hall t hm)
theorem card : Rows.FnDebugEqCardSaid :=
  Claim7.holds_tied_plain_at .later [] _ _ _ _ proved (fun _ h => by cases h) (by kernel_rfl) (fun _ h => by cases h) fnDebugEq_row_tie rfl ⟨rfl, rfl⟩ Facts.mainIs rfl plain (by kernel_rfl)
#print axioms card
end Go.Proofs.YtabaldpjahcilaaDoor.fnDebugEq
namespace Go.Proofs.YtabaldpjahcilaaDoor
/-- The row, under a short name, for the claim. -/
theorem fnDebugEq_holds : Rows.FnDebugEqCardSaid := fnDebugEq.card
end Go.Proofs.YtabaldpjahcilaaDoor
