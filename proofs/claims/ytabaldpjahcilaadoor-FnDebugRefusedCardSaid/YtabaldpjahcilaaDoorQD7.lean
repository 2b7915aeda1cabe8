-- WRITTEN BY A PROGRAM OF THIS SESSION (wip/print2.py): the print, with contracts of this session's own let in. Not trusted: Lean checks it.
import Derived.Test.YtabaldpjahcilaaDoorHRow
import Derived.Test.YtabaldpjahcilaaDoorQD0
import Derived.Test.YtabaldpjahcilaaDoorQD3
import Derived.Test.YtabaldpjahcilaaDoorQD4
import Derived.Test.YtabaldpjahcilaaDoorHDebug
namespace Go.Proofs.YtabaldpjahcilaaDoor.QD
open Go.RowKit Go.Proofs.YtabaldpjahcilaaDoorW.PrintWords Go.Proofs.YtabaldpjahcilaaDoorW.PrintLast Go.Proofs.YtabaldpjahcilaaDoorW.PrintMore
attribute [local go_sem] max2_int min2_int max_two min_two max_three min_three max_four min_four   -- for this text's walks alone
set_option linter.unusedVariables false
set_option linter.unusedSimpArgs false

open Go.Proofs.YtabaldpjahcilaaDoor.H
/-! ### laws_FnDebugRefused: function 4 -/
def laws_FnDebugRefused.j0 : Nat → ByteArray → List (S27) → Bool → Option (Bool)
  | 0, _, _, _ => none
  | k + 1, x0, x1, x13 => if x13 = true then (some true) else (if (x0.size : Int) > 1000 then (some true) else ((laws_single9.f k x1).bind fun t132 => (if t132 = true then ((spec_Marks.f k x0).bind fun t133 => (if t133 = (x1.length : Int) then (some true) else ((impl_Debug.f x0 x1).bind fun t134 => (if (t134.size : Int) ≥ 21 then (if 0 ≤ 21 then (if 21 ≤ (t134.size : Int) then (some ((t134.extract 0 21).toList == ([91, 68, 101, 98, 117, 103, 83, 113, 108, 105, 122, 101, 114, 32, 101, 114, 114, 111, 114, 58, 32] : List UInt8))) else (none)) else (none)) else (some false))))) else (some true))))
def laws_FnDebugRefused.f (k : Nat) (a0 : ByteArray) (l1 : List (S27)) : Option (Bool) := if (a0.size : Int) > 2147483647 then (laws_FnDebugRefused.j0 k a0 l1 true) else (laws_FnDebugRefused.j0 k a0 l1 (decide ((l1.length : Int) > 2147483647)))
theorem laws_FnDebugRefused.mono_l : ∀ k, (∀ y0 y1 y2, LeO (laws_FnDebugRefused.j0 k y0 y1 y2) (laws_FnDebugRefused.j0 (k + 1) y0 y1 y2))
  | 0 => fun _ _ _ r h => by simp [laws_FnDebugRefused.j0] at h
  | k + 1 => by
    have ih0 := laws_FnDebugRefused.mono_l k
    · intro y0 y1 y2
      unfold laws_FnDebugRefused.j0
      repeat' first
      | (with_reducible exact ih0 _ _ _)
      | (with_reducible exact laws_single9.mono _ _)
      | (with_reducible exact spec_Marks.mono _ _)
      | (with_reducible exact LeO.refl _)
      | (with_reducible exact LeO.none _)
      | (with_reducible refine LeO.ite ?_ ?_)
      | (with_reducible refine LeO.bind ?_ (fun _ => ?_))
      | exact ih0 _ _ _
      | exact laws_single9.mono _ _
      | exact spec_Marks.mono _ _
      | exact LeO.none _
      | refine LeO.ite ?_ ?_
      | refine LeO.bind ?_ (fun _ => ?_)
theorem laws_FnDebugRefused.mono : ∀ a0 a1 k, LeO (laws_FnDebugRefused.f k a0 a1) (laws_FnDebugRefused.f (k + 1) a0 a1) := by
  intro a0 a1 k
  have ih0 := laws_FnDebugRefused.mono_l k
  unfold laws_FnDebugRefused.f
  repeat' first
      | (with_reducible exact ih0 _ _ _)
      | (with_reducible exact laws_single9.mono _ _)
      | (with_reducible exact spec_Marks.mono _ _)
      | (with_reducible exact LeO.refl _)
      | (with_reducible exact LeO.none _)
      | (with_reducible refine LeO.ite ?_ ?_)
      | (with_reducible refine LeO.bind ?_ (fun _ => ?_))
      | exact ih0 _ _ _
      | exact laws_single9.mono _ _
      | exact spec_Marks.mono _ _
      | exact LeO.none _
      | refine LeO.ite ?_ ?_
      | refine LeO.bind ?_ (fun _ => ?_)
set_option maxHeartbeats 8000000 in
set_option maxRecDepth 100000 in
theorem laws_FnDebugRefused.calls (k : Nat) (a0 : ByteArray) (A1 : Option Addr) (c1 : Nat) (l1 : List (S27)) (r : Bool) (w : World) (ht_ : Tab w) (hr1 : Kd.C k27 w A1 l1.length l1) (hc1 : l1.length ≤ c1) (h : laws_FnDebugRefused.f k a0 l1 = some r) :
    Calls Tryd.prog 4 #[.string a0, .slice A1 l1.length c1] w fun e w' => e = .returned (.bool r) ∧ Below w.heap.size w w' := by
  have HR1 := Aside0.mk hr1
  have HC1 := Aside0.mk hc1
  clear hr1 hc1
  have HB := Aside0.mk (Below.refl w.heap.size w)
  have HT_ := Aside0.mk (tab_below ht_)
  clear ht_
  have H : (if (a0.size : Int) > 2147483647 then (laws_FnDebugRefused.j0 k a0 l1 true) else (laws_FnDebugRefused.j0 k a0 l1 (decide ((l1.length : Int) > 2147483647)))) = some r := h
  clear h
  have HC3 := Aside0.mk H
  clear H
  go_enter Tryd.func4, Tryd.ntmps4
  go_upto_region 1 with (fail)
  go_cut [13] (fun v13 wc => ∃ (kq : Nat) (x13_2 : Bool), v13 = .bool x13_2 ∧ Aside0 (laws_FnDebugRefused.j0 kq a0 l1 x13_2 = some r) ∧ Aside0 (kq ≤ k) ∧ Aside0 (Below w.heap.size w wc))
  case first =>
    have H := HC3.out
    clear HC3
    by_cases c4 : (a0.size : Int) > 2147483647
    · rw [if_pos c4] at H
      have c4b0 : decide (2147483647 < (a0.size : Int)) = true := decide_eq_true c4
      have c4b1 : decide (2147483647 < a0.size) = true := decide_eq_true (by omega)
      clear c4
      (first | rw [c4b0] | (simp only [i64_w, i32_w]; rw [c4b0]) | skip)
      have H' := Aside0.mk H
      clear H
      go_wp2
      go_meet
      case rel => exact ⟨_, (true), (by first | rfl | (simp; done) | (simp [*]; done)), H', ⟨by first | omega | exact Nat.le_refl _⟩, ⟨by repeat (first | (with_reducible first | exact HB.out | apply below_alloc | apply pw_below_drewN | apply below_drew1) | exact HB.out)⟩⟩
    · rw [if_neg c4] at H
      have c4b0 : decide (2147483647 < (a0.size : Int)) = false := decide_eq_false c4
      have c4b1 : decide (2147483647 < a0.size) = false := decide_eq_false (by omega)
      clear c4
      (first | rw [c4b0] | (simp only [i64_w, i32_w]; rw [c4b0]) | skip)
      have H' := Aside0.mk H
      clear H
      go_wp2
      go_meet
      case rel => exact ⟨_, (decide ((l1.length : Int) > 2147483647)), (by first | rfl | (simp; done) | (simp [*]; done)), H', ⟨by first | omega | exact Nat.le_refl _⟩, ⟨by repeat (first | (with_reducible first | exact HB.out | apply below_alloc | apply pw_below_drewN | apply below_drew1) | exact HB.out)⟩⟩
  case rest =>
    clear HC3
    try clear c1
    try clear p2
    try clear c4
    try clear c4b0
    try clear c4b1
    obtain ⟨kq, x13_2, rfl, HA, HJ2, HB⟩ := hcut
    cases kq with
    | zero => exact absurd HA.out (by simp [laws_FnDebugRefused.j0])
    | succ kj2 =>
      have H := HA.out
      clear HA
      simp only [laws_FnDebugRefused.j0] at H
      by_cases c5 : x13_2 = true
      · subst c5
        have H1 : (some true) = some r := by rw [if_pos rfl] at H; exact H
        clear H
        have H := H1
        clear H1
        obtain rfl := Option.some.inj H
        go_wp2
        go_ret
        exact ⟨by first | rfl | (simp [errW_none, errW_some] <;> rfl) | (simp [*, errW_none, errW_some] <;> rfl), by repeat (first | (with_reducible first | exact HB.out | apply below_alloc | apply pw_below_drewN | apply below_drew1) | exact HB.out)⟩
      · replace c5 := Bool.eq_false_iff.mpr c5
        subst c5
        have H1 : (if (a0.size : Int) > 1000 then (some true) else ((laws_single9.f kj2 l1).bind fun t132 => (if t132 = true then ((spec_Marks.f kj2 a0).bind fun t133 => (if t133 = (l1.length : Int) then (some true) else ((impl_Debug.f a0 l1).bind fun t134 => (if (t134.size : Int) ≥ 21 then (if 0 ≤ 21 then (if 21 ≤ (t134.size : Int) then (some ((t134.extract 0 21).toList == ([91, 68, 101, 98, 117, 103, 83, 113, 108, 105, 122, 101, 114, 32, 101, 114, 114, 111, 114, 58, 32] : List UInt8))) else (none)) else (none)) else (some false))))) else (some true)))) = some r := by rw [if_neg (show ¬ (false = true) by decide)] at H; exact H
        clear H
        have H := H1
        clear H1
        by_cases c6 : (a0.size : Int) > 1000
        · rw [if_pos c6] at H
          have c6b0 : decide (1000 < (a0.size : Int)) = true := decide_eq_true c6
          have c6b1 : decide (1000 < a0.size) = true := decide_eq_true (by omega)
          clear c6
          obtain rfl := Option.some.inj H
          go_wp2
          go_ret
          exact ⟨by first | rfl | (simp [errW_none, errW_some] <;> rfl) | (simp [*, errW_none, errW_some] <;> rfl), by repeat (first | (with_reducible first | exact HB.out | apply below_alloc | apply pw_below_drewN | apply below_drew1) | exact HB.out)⟩
        · rw [if_neg c6] at H
          have c6b0 : decide (1000 < (a0.size : Int)) = false := decide_eq_false c6
          have c6b1 : decide (1000 < a0.size) = false := decide_eq_false (by omega)
          clear c6
          replace H := Option.bind_eq_some_iff.mp H
          obtain ⟨t132, A70, H⟩ := H
          replace H : (if t132 = true then ((spec_Marks.f kj2 a0).bind fun t133 => (if t133 = (l1.length : Int) then (some true) else ((impl_Debug.f a0 l1).bind fun t134 => (if (t134.size : Int) ≥ 21 then (if 0 ≤ 21 then (if 21 ≤ (t134.size : Int) then (some ((t134.extract 0 21).toList == ([91, 68, 101, 98, 117, 103, 83, 113, 108, 105, 122, 101, 114, 32, 101, 114, 114, 111, 114, 58, 32] : List UInt8))) else (none)) else (none)) else (some false))))) else (some true)) = some r := H
          have A7 := Aside0.mk A70
          clear A70
          by_cases c8 : t132 = true
          · subst c8
            have H1 : ((spec_Marks.f kj2 a0).bind fun t133 => (if t133 = (l1.length : Int) then (some true) else ((impl_Debug.f a0 l1).bind fun t134 => (if (t134.size : Int) ≥ 21 then (if 0 ≤ 21 then (if 21 ≤ (t134.size : Int) then (some ((t134.extract 0 21).toList == ([91, 68, 101, 98, 117, 103, 83, 113, 108, 105, 122, 101, 114, 32, 101, 114, 114, 111, 114, 58, 32] : List UInt8))) else (none)) else (none)) else (some false))))) = some r := by rw [if_pos rfl] at H; exact H
            clear H
            have H := H1
            clear H1
            replace H := Option.bind_eq_some_iff.mp H
            obtain ⟨t133, A90, H⟩ := H
            replace H : (if t133 = (l1.length : Int) then (some true) else ((impl_Debug.f a0 l1).bind fun t134 => (if (t134.size : Int) ≥ 21 then (if 0 ≤ 21 then (if 21 ≤ (t134.size : Int) then (some ((t134.extract 0 21).toList == ([91, 68, 101, 98, 117, 103, 83, 113, 108, 105, 122, 101, 114, 32, 101, 114, 114, 111, 114, 58, 32] : List UInt8))) else (none)) else (none)) else (some false)))) = some r := H
            have A9 := Aside0.mk A90
            clear A90
            by_cases c10 : t133 = (l1.length : Int)
            · rw [if_pos c10] at H
              have c10b0 : (t133 == (l1.length : Int)) = true := beq_iff_eq.mpr c10
              have c10b1 : (t133 != (l1.length : Int)) = false := bne_eq_false_iff_eq.mpr c10
              clear c10
              obtain rfl := Option.some.inj H
              go_wp2_with (first | (go_at_call 6; (with_reducible refine (laws_single9.calls kj2 _ _ l1 true _ ?side1 ?side2 A7.out).mono ?_); (case side1 => repeat (first | exact (Kd.C_below HR1.out HB.out) | (with_reducible refine Kd.C_alloc ?_ _) | (with_reducible refine Kd.C_drewN ?_ _) | (with_reducible refine Kd.C_drew ?_))); (case side2 => exact HC1.out); rintro e w11 ⟨rfl, hb⟩; have n0_ := Aside0.mk (below_step (by repeat (first | (with_reducible first | exact HB.out | apply below_alloc | apply pw_below_drewN | apply below_drew1) | exact HB.out)) hb); clear HB; have HB := n0_; clear n0_; (try clear hb); (try clear hb2); (try clear hk); (try clear hi)) | (go_at_call 7; (with_reducible refine (spec_Marks.calls kj2 a0 t133 _ A9.out).mono ?_); rintro e w' ⟨rfl, ⟨nd, rfl⟩⟩))
              go_ret
              exact ⟨by first | rfl | (simp [errW_none, errW_some] <;> rfl) | (simp [*, errW_none, errW_some] <;> rfl), by repeat (first | (with_reducible first | exact HB.out | apply below_alloc | apply pw_below_drewN | apply below_drew1) | exact HB.out)⟩
            · rw [if_neg c10] at H
              have c10b0 : (t133 == (l1.length : Int)) = false := beq_eq_false_iff_ne.mpr c10
              have c10b1 : (t133 != (l1.length : Int)) = true := bne_iff_ne.mpr c10
              replace H := Option.bind_eq_some_iff.mp H
              obtain ⟨t134, A120, H⟩ := H
              replace H : (if (t134.size : Int) ≥ 21 then (if 0 ≤ 21 then (if 21 ≤ (t134.size : Int) then (some ((t134.extract 0 21).toList == ([91, 68, 101, 98, 117, 103, 83, 113, 108, 105, 122, 101, 114, 32, 101, 114, 114, 111, 114, 58, 32] : List UInt8))) else (none)) else (none)) else (some false)) = some r := H
              have A12 := Aside0.mk A120
              clear A120
              by_cases c13 : (t134.size : Int) ≥ 21
              · rw [if_pos c13] at H
                have c13b0 : decide (21 ≤ (t134.size : Int)) = true := decide_eq_true c13
                have c13b1 : decide (21 ≤ t134.size) = true := decide_eq_true (by omega)
                clear c13
                by_cases c14 : 0 ≤ 21
                · rw [if_pos c14] at H
                  have c14b0 := eq_true c14
                  have c14b1 : decide (0 ≤ 21) = true := decide_eq_true c14
                  clear c14
                  by_cases c15 : 21 ≤ (t134.size : Int)
                  · rw [if_pos c15] at H
                    have c15b0 := eq_true c15
                    have c15b1 : decide (21 ≤ (t134.size : Int)) = true := decide_eq_true c15
                    clear c15
                    obtain rfl := Option.some.inj H
                    go_wp2_with (first | (go_at_call 6; (with_reducible refine (laws_single9.calls kj2 _ _ l1 true _ ?side1 ?side2 A7.out).mono ?_); (case side1 => repeat (first | exact (Kd.C_below HR1.out HB.out) | (with_reducible refine Kd.C_alloc ?_ _) | (with_reducible refine Kd.C_drewN ?_ _) | (with_reducible refine Kd.C_drew ?_))); (case side2 => exact HC1.out); rintro e w16 ⟨rfl, hb⟩; have n0_ := Aside0.mk (below_step (by repeat (first | (with_reducible first | exact HB.out | apply below_alloc | apply pw_below_drewN | apply below_drew1) | exact HB.out)) hb); clear HB; have HB := n0_; clear n0_; (try clear hb); (try clear hb2); (try clear hk); (try clear hi)) | (go_at_call 7; (with_reducible refine (spec_Marks.calls kj2 a0 t133 _ A9.out).mono ?_); rintro e w' ⟨rfl, ⟨nd, rfl⟩⟩) | ((with_reducible refine gate_callee (f := 8) rfl ?_); refine goesL_ (some 31) rfl rfl Tryd.func8 (by kernel_rfl) rfl #[.string a0, .slice A1 l1.length c1] rfl (by (try simp only [List.map_toArray, List.map_cons, List.map_nil]); first | done | rfl | (simp only [List.length_drop, List.length_take]; rfl)) ?_; (with_reducible refine (impl_Debug.calls a0 _ _ l1 t134 _ (tab_at HT_.out (by repeat (first | (with_reducible first | exact HB.out | apply below_alloc | apply pw_below_drewN | apply below_drew1) | exact HB.out))) ?side1 ?side2 A12.out).mono ?_); (case side1 => repeat (first | exact (Kd.C_below HR1.out (by repeat (first | (with_reducible first | exact HB.out | apply below_alloc | apply pw_below_drewN | apply below_drew1) | exact HB.out))) | (with_reducible refine Kd.C_alloc ?_ _) | (with_reducible refine Kd.C_drewN ?_ _) | (with_reducible refine Kd.C_drew ?_))); (case side2 => exact HC1.out); rintro e w17 ⟨rfl, hb⟩; refine ⟨_, rfl, ?_⟩; have n0_ := Aside0.mk (below_step (by repeat (first | (with_reducible first | exact HB.out | apply below_alloc | apply pw_below_drewN | apply below_drew1) | exact HB.out)) hb); clear HB; have HB := n0_; clear n0_; (try clear hb); (try clear hb2); (try clear hk); (try clear hi)))
                    go_ret
                    exact ⟨by first | rfl | (simp [errW_none, errW_some] <;> rfl) | (simp [*, errW_none, errW_some] <;> rfl), by repeat (first | (with_reducible first | exact HB.out | apply below_alloc | apply pw_below_drewN | apply below_drew1) | exact HB.out)⟩
                  · rw [if_neg c15] at H
                    exact absurd H (by simp)
                · rw [if_neg c14] at H
                  exact absurd H (by simp)
              · rw [if_neg c13] at H
                have c13b0 : decide (21 ≤ (t134.size : Int)) = false := decide_eq_false c13
                have c13b1 : decide (21 ≤ t134.size) = false := decide_eq_false (by omega)
                clear c13
                obtain rfl := Option.some.inj H
                go_wp2_with (first | (go_at_call 6; (with_reducible refine (laws_single9.calls kj2 _ _ l1 true _ ?side1 ?side2 A7.out).mono ?_); (case side1 => repeat (first | exact (Kd.C_below HR1.out HB.out) | (with_reducible refine Kd.C_alloc ?_ _) | (with_reducible refine Kd.C_drewN ?_ _) | (with_reducible refine Kd.C_drew ?_))); (case side2 => exact HC1.out); rintro e w18 ⟨rfl, hb⟩; have n0_ := Aside0.mk (below_step (by repeat (first | (with_reducible first | exact HB.out | apply below_alloc | apply pw_below_drewN | apply below_drew1) | exact HB.out)) hb); clear HB; have HB := n0_; clear n0_; (try clear hb); (try clear hb2); (try clear hk); (try clear hi)) | (go_at_call 7; (with_reducible refine (spec_Marks.calls kj2 a0 t133 _ A9.out).mono ?_); rintro e w' ⟨rfl, ⟨nd, rfl⟩⟩) | ((with_reducible refine gate_callee (f := 8) rfl ?_); refine goesL_ (some 31) rfl rfl Tryd.func8 (by kernel_rfl) rfl #[.string a0, .slice A1 l1.length c1] rfl (by (try simp only [List.map_toArray, List.map_cons, List.map_nil]); first | done | rfl | (simp only [List.length_drop, List.length_take]; rfl)) ?_; (with_reducible refine (impl_Debug.calls a0 _ _ l1 t134 _ (tab_at HT_.out (by repeat (first | (with_reducible first | exact HB.out | apply below_alloc | apply pw_below_drewN | apply below_drew1) | exact HB.out))) ?side1 ?side2 A12.out).mono ?_); (case side1 => repeat (first | exact (Kd.C_below HR1.out (by repeat (first | (with_reducible first | exact HB.out | apply below_alloc | apply pw_below_drewN | apply below_drew1) | exact HB.out))) | (with_reducible refine Kd.C_alloc ?_ _) | (with_reducible refine Kd.C_drewN ?_ _) | (with_reducible refine Kd.C_drew ?_))); (case side2 => exact HC1.out); rintro e w19 ⟨rfl, hb⟩; refine ⟨_, rfl, ?_⟩; have n0_ := Aside0.mk (below_step (by repeat (first | (with_reducible first | exact HB.out | apply below_alloc | apply pw_below_drewN | apply below_drew1) | exact HB.out)) hb); clear HB; have HB := n0_; clear n0_; (try clear hb); (try clear hb2); (try clear hk); (try clear hi)))
                go_ret
                exact ⟨by first | rfl | (simp [errW_none, errW_some] <;> rfl) | (simp [*, errW_none, errW_some] <;> rfl), by repeat (first | (with_reducible first | exact HB.out | apply below_alloc | apply pw_below_drewN | apply below_drew1) | exact HB.out)⟩
          · replace c8 := Bool.eq_false_iff.mpr c8
            subst c8
            have H1 : (some true) = some r := by rw [if_neg (show ¬ (false = true) by decide)] at H; exact H
            clear H
            have H := H1
            clear H1
            obtain rfl := Option.some.inj H
            go_wp2_with (first | (go_at_call 6; (with_reducible refine (laws_single9.calls kj2 _ _ l1 false _ ?side1 ?side2 A7.out).mono ?_); (case side1 => repeat (first | exact (Kd.C_below HR1.out HB.out) | (with_reducible refine Kd.C_alloc ?_ _) | (with_reducible refine Kd.C_drewN ?_ _) | (with_reducible refine Kd.C_drew ?_))); (case side2 => exact HC1.out); rintro e w20 ⟨rfl, hb⟩; have n0_ := Aside0.mk (below_step (by repeat (first | (with_reducible first | exact HB.out | apply below_alloc | apply pw_below_drewN | apply below_drew1) | exact HB.out)) hb); clear HB; have HB := n0_; clear n0_; (try clear hb); (try clear hb2); (try clear hk); (try clear hi)))
            go_ret
            exact ⟨by first | rfl | (simp [errW_none, errW_some] <;> rfl) | (simp [*, errW_none, errW_some] <;> rfl), by repeat (first | (with_reducible first | exact HB.out | apply below_alloc | apply pw_below_drewN | apply below_drew1) | exact HB.out)⟩

/-! ### laws_zzFits2: function 10 -/
def laws_zzFits2.f (a0_0 : Int) (a0_1 : Int) (a0_2 : ByteArray) (l0_3 : List (S27)) : Option (Bool) := if (a0_2.size : Int) > 2147483647 then (some false) else (if (l0_3.length : Int) > 2147483647 then (some false) else (some true))
set_option maxHeartbeats 8000000 in
set_option maxRecDepth 100000 in
theorem laws_zzFits2.calls (a0_0 : Int) (a0_1 : Int) (a0_2 : ByteArray) (A0_3 : Option Addr) (c0_3 : Nat) (l0_3 : List (S27)) (r : Bool) (w : World) (hr0_3 : Kd.C k27 w A0_3 l0_3.length l0_3) (hc0_3 : l0_3.length ≤ c0_3) (h : laws_zzFits2.f a0_0 a0_1 a0_2 l0_3 = some r) :
    Calls Tryd.prog 10 #[.agg #[.int .i64 a0_0, .int .i64 a0_1, .string a0_2, .slice A0_3 l0_3.length c0_3]] w fun e w' => e = .returned (.bool r) ∧ Below w.heap.size w w' := by
  have hu27 := Tryd.underlying27
  have HR0_3 := Aside0.mk hr0_3
  have HC0_3 := Aside0.mk hc0_3
  clear hr0_3 hc0_3
  have HB := Aside0.mk (Below.refl w.heap.size w)
  have H : (if (a0_2.size : Int) > 2147483647 then (some false) else (if (l0_3.length : Int) > 2147483647 then (some false) else (some true))) = some r := h
  clear h
  by_cases c2 : (a0_2.size : Int) > 2147483647
  · rw [if_pos c2] at H
    have c2b0 : decide (2147483647 < (a0_2.size : Int)) = true := decide_eq_true c2
    have c2b1 : decide (2147483647 < a0_2.size) = true := decide_eq_true (by omega)
    clear c2
    obtain rfl := Option.some.inj H
    go_enter Tryd.func10, Tryd.ntmps10
    go_wp2_with (first | ((with_reducible refine gate_dst (N := 1) rfl ?_); refine box_event ?hg (N := 1) ?hd (cs := #[.int .i64 a0_0, .int .i64 a0_1, .string a0_2, .slice A0_3 l0_3.length c0_3]) (t := 27) ?hr ?_; (case hd => rfl); (case hg => rfl); (case hr => first | (go_simp; done) | (go_simp; rfl)); intro gb135 hg w3 hbox hb; have n0_ := Aside0.mk (below_step (by repeat (first | (with_reducible first | exact HB.out | apply below_alloc | apply pw_below_drewN | apply below_drew1) | exact HB.out)) hb); have n1_ := Aside0.mk (hbox); have n2_ := Aside0.mk ((by rw [hg]; exact (below_size (by repeat (first | (with_reducible first | exact HB.out | apply below_alloc | apply pw_below_drewN | apply below_drew1) | exact HB.out))) : w.heap.size ≤ gb135)); have n3_ := Aside0.mk ((by rw [hg]; exact (below_size (by repeat (first | (with_reducible first | exact HB.out | apply below_alloc | apply pw_below_drewN | apply below_drew1) | exact HB.out))) : w.heap.size ≤ gb135)); clear HB; have HB := n0_; have BK135 := n1_; have GW135 := n2_; have GE135 := n3_; clear n0_ n1_ n2_ n3_; clear hb hbox hg; have hcz4_0 : w3.cell? ⟨gb135, 0, none⟩ = some (.int .i64 a0_0) := (blk_cell BK135.out 0).trans rfl; have hcz4_1 : w3.cell? ⟨gb135, 1, none⟩ = some (.int .i64 a0_1) := (blk_cell BK135.out 1).trans rfl; have hcz4_2 : w3.cell? ⟨gb135, 2, none⟩ = some (.string a0_2) := (blk_cell BK135.out 2).trans rfl; have hcz4_3 : w3.cell? ⟨gb135, 3, none⟩ = some (.slice A0_3 l0_3.length c0_3) := (blk_cell BK135.out 3).trans rfl; have hfz4_0 := blk_frozen BK135.out 0; have hfz4_1 := blk_frozen BK135.out 1; have hfz4_2 := blk_frozen BK135.out 2; have hfz4_3 := blk_frozen BK135.out 3))
    go_ret
    exact ⟨by first | rfl | (simp [errW_none, errW_some] <;> rfl) | (simp [*, errW_none, errW_some] <;> rfl), by repeat (first | (with_reducible first | exact HB.out | apply below_alloc | apply pw_below_drewN | apply below_drew1 | refine below_set ?_ GE135.out) | exact HB.out)⟩
  · rw [if_neg c2] at H
    have c2b0 : decide (2147483647 < (a0_2.size : Int)) = false := decide_eq_false c2
    have c2b1 : decide (2147483647 < a0_2.size) = false := decide_eq_false (by omega)
    clear c2
    by_cases c5 : (l0_3.length : Int) > 2147483647
    · rw [if_pos c5] at H
      have c5b0 : decide (2147483647 < (l0_3.length : Int)) = true := decide_eq_true c5
      have c5b1 : decide (2147483647 < l0_3.length) = true := decide_eq_true (by omega)
      clear c5
      obtain rfl := Option.some.inj H
      go_enter Tryd.func10, Tryd.ntmps10
      go_wp2_with (first | ((with_reducible refine gate_dst (N := 1) rfl ?_); refine box_event ?hg (N := 1) ?hd (cs := #[.int .i64 a0_0, .int .i64 a0_1, .string a0_2, .slice A0_3 l0_3.length c0_3]) (t := 27) ?hr ?_; (case hd => rfl); (case hg => rfl); (case hr => first | (go_simp; done) | (go_simp; rfl)); intro gb135 hg w6 hbox hb; have n0_ := Aside0.mk (below_step (by repeat (first | (with_reducible first | exact HB.out | apply below_alloc | apply pw_below_drewN | apply below_drew1) | exact HB.out)) hb); have n1_ := Aside0.mk (hbox); have n2_ := Aside0.mk ((by rw [hg]; exact (below_size (by repeat (first | (with_reducible first | exact HB.out | apply below_alloc | apply pw_below_drewN | apply below_drew1) | exact HB.out))) : w.heap.size ≤ gb135)); have n3_ := Aside0.mk ((by rw [hg]; exact (below_size (by repeat (first | (with_reducible first | exact HB.out | apply below_alloc | apply pw_below_drewN | apply below_drew1) | exact HB.out))) : w.heap.size ≤ gb135)); clear HB; have HB := n0_; have BK135 := n1_; have GW135 := n2_; have GE135 := n3_; clear n0_ n1_ n2_ n3_; clear hb hbox hg; have hcz7_0 : w6.cell? ⟨gb135, 0, none⟩ = some (.int .i64 a0_0) := (blk_cell BK135.out 0).trans rfl; have hcz7_1 : w6.cell? ⟨gb135, 1, none⟩ = some (.int .i64 a0_1) := (blk_cell BK135.out 1).trans rfl; have hcz7_2 : w6.cell? ⟨gb135, 2, none⟩ = some (.string a0_2) := (blk_cell BK135.out 2).trans rfl; have hcz7_3 : w6.cell? ⟨gb135, 3, none⟩ = some (.slice A0_3 l0_3.length c0_3) := (blk_cell BK135.out 3).trans rfl; have hfz7_0 := blk_frozen BK135.out 0; have hfz7_1 := blk_frozen BK135.out 1; have hfz7_2 := blk_frozen BK135.out 2; have hfz7_3 := blk_frozen BK135.out 3))
      go_ret
      exact ⟨by first | rfl | (simp [errW_none, errW_some] <;> rfl) | (simp [*, errW_none, errW_some] <;> rfl), by repeat (first | (with_reducible first | exact HB.out | apply below_alloc | apply pw_below_drewN | apply below_drew1 | refine below_set ?_ GE135.out) | exact HB.out)⟩
    · rw [if_neg c5] at H
      have c5b0 : decide (2147483647 < (l0_3.length : Int)) = false := decide_eq_false c5
      have c5b1 : decide (2147483647 < l0_3.length) = false := decide_eq_false (by omega)
      clear c5
      obtain rfl := Option.some.inj H
      go_enter Tryd.func10, Tryd.ntmps10
      go_wp2_with (first | ((with_reducible refine gate_dst (N := 1) rfl ?_); refine box_event ?hg (N := 1) ?hd (cs := #[.int .i64 a0_0, .int .i64 a0_1, .string a0_2, .slice A0_3 l0_3.length c0_3]) (t := 27) ?hr ?_; (case hd => rfl); (case hg => rfl); (case hr => first | (go_simp; done) | (go_simp; rfl)); intro gb135 hg w8 hbox hb; have n0_ := Aside0.mk (below_step (by repeat (first | (with_reducible first | exact HB.out | apply below_alloc | apply pw_below_drewN | apply below_drew1) | exact HB.out)) hb); have n1_ := Aside0.mk (hbox); have n2_ := Aside0.mk ((by rw [hg]; exact (below_size (by repeat (first | (with_reducible first | exact HB.out | apply below_alloc | apply pw_below_drewN | apply below_drew1) | exact HB.out))) : w.heap.size ≤ gb135)); have n3_ := Aside0.mk ((by rw [hg]; exact (below_size (by repeat (first | (with_reducible first | exact HB.out | apply below_alloc | apply pw_below_drewN | apply below_drew1) | exact HB.out))) : w.heap.size ≤ gb135)); clear HB; have HB := n0_; have BK135 := n1_; have GW135 := n2_; have GE135 := n3_; clear n0_ n1_ n2_ n3_; clear hb hbox hg; have hcz9_0 : w8.cell? ⟨gb135, 0, none⟩ = some (.int .i64 a0_0) := (blk_cell BK135.out 0).trans rfl; have hcz9_1 : w8.cell? ⟨gb135, 1, none⟩ = some (.int .i64 a0_1) := (blk_cell BK135.out 1).trans rfl; have hcz9_2 : w8.cell? ⟨gb135, 2, none⟩ = some (.string a0_2) := (blk_cell BK135.out 2).trans rfl; have hcz9_3 : w8.cell? ⟨gb135, 3, none⟩ = some (.slice A0_3 l0_3.length c0_3) := (blk_cell BK135.out 3).trans rfl; have hfz9_0 := blk_frozen BK135.out 0; have hfz9_1 := blk_frozen BK135.out 1; have hfz9_2 := blk_frozen BK135.out 2; have hfz9_3 := blk_frozen BK135.out 3))
      go_ret
      exact ⟨by first | rfl | (simp [errW_none, errW_some] <;> rfl) | (simp [*, errW_none, errW_some] <;> rfl), by repeat (first | (with_reducible first | exact HB.out | apply below_alloc | apply pw_below_drewN | apply below_drew1 | refine below_set ?_ GE135.out) | exact HB.out)⟩

end Go.Proofs.YtabaldpjahcilaaDoor.QD
