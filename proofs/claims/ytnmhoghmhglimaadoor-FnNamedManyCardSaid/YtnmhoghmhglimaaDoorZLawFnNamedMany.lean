/-
  MERGED BY A PROGRAM OF THIS SESSION (wip/pack.py): QN16, PureFnNamedMany, LawFnNamedMany.
-/
import Derived.Test.YtnmhoghmhglimaaDoorZB
import Derived.Test.YtnmhoghmhglimaaDoorZD
import Derived.Test.YtnmhoghmhglimaaDoorZE
import Derived.Test.YtnmhoghmhglimaaDoorZI
import Derived.Test.YtnmhoghmhglimaaDoorZF
import Derived.Test.YtnmhoghmhglimaaDoorZH
import Derived.Test.YtnmhoghmhglimaaDoorCards
import Derived.Test.YtnmhoghmhglimaaDoorTie
import Derived.LaidMore
import Derived.Lib.LaidTab
import Derived.LaidSub
import Derived.Stop.Joined
import Derived.SevenTiedAt
import Derived.Test.YtnmhoghmhglimaaDoorFactsA
import Derived.Test.YtnmhoghmhglimaaDoorFactsB
import Derived.Test.YtnmhoghmhglimaaDoorFactsC
import Derived.Test.YtnmhoghmhglimaaDoorFactsD
import Derived.Test.YtnmhoghmhglimaaDoorZG
import Derived.Test.YtnmhoghmhglimaaDoorZK
import Derived.WalkKit
import Derived.ProofKit
import Derived.OpenShut
import Derived.ShutString
import Derived.ChangeOld
import Derived.Below
import Derived.SizedLaws
import Derived.SliceStrings
-- WRITTEN BY A PROGRAM OF THIS SESSION (wip/print2.py): the print, with contracts of this session's own let in. Not trusted: Lean checks it.
namespace Go.Proofs.YtnmhoghmhglimaaDoor.QN
open Go.RowKit Go.Proofs.YtnmhoghmhglimaaDoorW.PrintWords Go.Proofs.YtnmhoghmhglimaaDoorW.PrintLast Go.Proofs.YtnmhoghmhglimaaDoorW.PrintMore
attribute [local go_sem] max2_int min2_int max_two min_two max_three min_three max_four min_four   -- for this text's walks alone
set_option linter.unusedVariables false
set_option linter.unusedSimpArgs false

open Go.Proofs.YtnmhoghmhglimaaDoor.H
/-! ### laws_FnNamedMany: function 15 -/
mutual
def laws_FnNamedMany.j0 : Nat → ByteArray → List (List (S54)) → Bool → Option (Bool)
  | 0, _, _, _ => none
  | k + 1, x0, x1, x19 => if x19 = true then (some true) else (if (x0.size : Int) > 1000 then (laws_FnNamedMany.j1 k x0 x1 true) else ((laws_rows9.f k x1).bind fun t286 => (laws_FnNamedMany.j1 k x0 x1 (!t286))))
def laws_FnNamedMany.j1 : Nat → ByteArray → List (List (S54)) → Bool → Option (Bool)
  | 0, _, _, _ => none
  | k + 1, x0, x1, x27 => if x27 = true then (some true) else ((spec_NamedMany.f k x0 x1).bind fun bt287 => (if bt287.2.2.2 = true then ((impl_NamedMany.f x0 x1).bind fun bt293 => (if (bt293.2.2 == bt287.2.2.1) = true then (if bt287.2.2.1 = true then (if bt293.1.toList = bt287.1.toList then ((spec_EqualValues.f bt287.2.1 bt293.2.1).bind fun t298 => (some t298)) else (some false)) else (some true)) else (some false))) else (some true)))
end
def laws_FnNamedMany.f (k : Nat) (a0 : ByteArray) (l1 : List (List (S54))) : Option (Bool) := if (a0.size : Int) > 2147483647 then (laws_FnNamedMany.j0 k a0 l1 true) else (laws_FnNamedMany.j0 k a0 l1 (decide ((l1.length : Int) > 2147483647)))
theorem laws_FnNamedMany.mono_l : ∀ k, (∀ y0 y1 y2, LeO (laws_FnNamedMany.j0 k y0 y1 y2) (laws_FnNamedMany.j0 (k + 1) y0 y1 y2)) ∧ (∀ y0 y1 y2, LeO (laws_FnNamedMany.j1 k y0 y1 y2) (laws_FnNamedMany.j1 (k + 1) y0 y1 y2))
  | 0 => ⟨fun _ _ _ r h => by simp [laws_FnNamedMany.j0] at h, fun _ _ _ r h => by simp [laws_FnNamedMany.j1] at h⟩
  | k + 1 => by
    obtain ⟨ih0, ih1⟩ := laws_FnNamedMany.mono_l k
    refine ⟨?_, ?_⟩
    · intro y0 y1 y2
      unfold laws_FnNamedMany.j0
      repeat' first
      | (with_reducible exact ih0 _ _ _)
      | (with_reducible exact ih1 _ _ _)
      | (with_reducible exact laws_rows9.mono _ _)
      | (with_reducible exact spec_NamedMany.mono _ _ _)
      | (with_reducible exact LeO.refl _)
      | (with_reducible exact LeO.none _)
      | (with_reducible refine LeO.ite ?_ ?_)
      | (with_reducible refine LeO.bind ?_ (fun _ => ?_))
      | exact ih0 _ _ _
      | exact ih1 _ _ _
      | exact laws_rows9.mono _ _
      | exact spec_NamedMany.mono _ _ _
      | exact LeO.none _
      | refine LeO.ite ?_ ?_
      | refine LeO.bind ?_ (fun _ => ?_)
    · intro y0 y1 y2
      unfold laws_FnNamedMany.j1
      repeat' first
      | (with_reducible exact ih0 _ _ _)
      | (with_reducible exact ih1 _ _ _)
      | (with_reducible exact laws_rows9.mono _ _)
      | (with_reducible exact spec_NamedMany.mono _ _ _)
      | (with_reducible exact LeO.refl _)
      | (with_reducible exact LeO.none _)
      | (with_reducible refine LeO.ite ?_ ?_)
      | (with_reducible refine LeO.bind ?_ (fun _ => ?_))
      | exact ih0 _ _ _
      | exact ih1 _ _ _
      | exact laws_rows9.mono _ _
      | exact spec_NamedMany.mono _ _ _
      | exact LeO.none _
      | refine LeO.ite ?_ ?_
      | refine LeO.bind ?_ (fun _ => ?_)
theorem laws_FnNamedMany.mono : ∀ a0 a1 k, LeO (laws_FnNamedMany.f k a0 a1) (laws_FnNamedMany.f (k + 1) a0 a1) := by
  intro a0 a1 k
  obtain ⟨ih0, ih1⟩ := laws_FnNamedMany.mono_l k
  unfold laws_FnNamedMany.f
  repeat' first
      | (with_reducible exact ih0 _ _ _)
      | (with_reducible exact ih1 _ _ _)
      | (with_reducible exact laws_rows9.mono _ _)
      | (with_reducible exact spec_NamedMany.mono _ _ _)
      | (with_reducible exact LeO.refl _)
      | (with_reducible exact LeO.none _)
      | (with_reducible refine LeO.ite ?_ ?_)
      | (with_reducible refine LeO.bind ?_ (fun _ => ?_))
      | exact ih0 _ _ _
      | exact ih1 _ _ _
      | exact laws_rows9.mono _ _
      | exact spec_NamedMany.mono _ _ _
      | exact LeO.none _
      | refine LeO.ite ?_ ?_
      | refine LeO.bind ?_ (fun _ => ?_)
set_option maxHeartbeats 8000000 in
set_option maxRecDepth 100000 in
theorem laws_FnNamedMany.calls (k : Nat) (a0 : ByteArray) (A1 : Option Addr) (c1 : Nat) (l1 : List (List (S54))) (r : Bool) (w : World) (ht_ : Tab w) (hr1 : Kd.C (Kd.slice 54 k54) w A1 l1.length l1) (hc1 : l1.length ≤ c1) (h : laws_FnNamedMany.f k a0 l1 = some r) :
    Calls Tryd.prog 15 #[.string a0, .slice A1 l1.length c1] w fun e w' => e = .returned (.bool r) ∧ Below w.heap.size w w' := by
  have HR1 := Aside0.mk hr1
  have HC1 := Aside0.mk hc1
  clear hr1 hc1
  have HB := Aside0.mk (Below.refl w.heap.size w)
  have HT_ := Aside0.mk (tab_below ht_)
  clear ht_
  have H : (if (a0.size : Int) > 2147483647 then (laws_FnNamedMany.j0 k a0 l1 true) else (laws_FnNamedMany.j0 k a0 l1 (decide ((l1.length : Int) > 2147483647)))) = some r := h
  clear h
  have HC3 := Aside0.mk H
  clear H
  go_enter Tryd.func15, Tryd.ntmps15
  go_upto_region 1 with (fail)
  go_cut [19] (fun v19 wc => ∃ (kq : Nat) (x19_2 : Bool), v19 = .bool x19_2 ∧ Aside0 (laws_FnNamedMany.j0 kq a0 l1 x19_2 = some r) ∧ Aside0 (kq ≤ k) ∧ Aside0 (Below w.heap.size w wc))
  case first =>
    have H := HC3.out
    clear HC3
    by_cases c4 : (a0.size : Int) > 2147483647
    · rw [if_pos c4] at H
      have c4b0 : decide (2147483647 < (a0.size : Int)) = true := decide_eq_true c4
      have c4b1 : decide (2147483647 < a0.size) = true := decide_eq_true (by omega)
      clear c4
      (first | rw [c4b0] | (simp only [i64_w, i32_w]; rw [c4b0]) | skip)
      have H' := Aside0.mk H
      clear H
      go_wp2
      go_meet
      case rel => exact ⟨_, (true), (by first | rfl | (simp; done) | (simp [*]; done)), H', ⟨by first | omega | exact Nat.le_refl _⟩, ⟨by repeat (first | (with_reducible first | exact HB.out | apply below_alloc | apply pw_below_drewN | apply below_drew1) | exact HB.out)⟩⟩
    · rw [if_neg c4] at H
      have c4b0 : decide (2147483647 < (a0.size : Int)) = false := decide_eq_false c4
      have c4b1 : decide (2147483647 < a0.size) = false := decide_eq_false (by omega)
      clear c4
      (first | rw [c4b0] | (simp only [i64_w, i32_w]; rw [c4b0]) | skip)
      have H' := Aside0.mk H
      clear H
      go_wp2
      go_meet
      case rel => exact ⟨_, (decide ((l1.length : Int) > 2147483647)), (by first | rfl | (simp; done) | (simp [*]; done)), H', ⟨by first | omega | exact Nat.le_refl _⟩, ⟨by repeat (first | (with_reducible first | exact HB.out | apply below_alloc | apply pw_below_drewN | apply below_drew1) | exact HB.out)⟩⟩
  case rest =>
    clear HC3
    try clear c1
    try clear p2
    try clear c4
    try clear c4b0
    try clear c4b1
    obtain ⟨kq, x19_2, rfl, HA, HJ2, HB⟩ := hcut
    cases kq with
    | zero => exact absurd HA.out (by simp [laws_FnNamedMany.j0])
    | succ kj2 =>
      have H := HA.out
      clear HA
      simp only [laws_FnNamedMany.j0] at H
      by_cases c5 : x19_2 = true
      · subst c5
        have H1 : (some true) = some r := by rw [if_pos rfl] at H; exact H
        clear H
        have H := H1
        clear H1
        obtain rfl := Option.some.inj H
        go_wp2
        go_ret
        exact ⟨by first | rfl | (simp [errW_none, errW_some] <;> rfl) | (simp [*, errW_none, errW_some] <;> rfl), by repeat (first | (with_reducible first | exact HB.out | apply below_alloc | apply pw_below_drewN | apply below_drew1) | exact HB.out)⟩
      · replace c5 := Bool.eq_false_iff.mpr c5
        subst c5
        have H1 : (if (a0.size : Int) > 1000 then (laws_FnNamedMany.j1 kj2 a0 l1 true) else ((laws_rows9.f kj2 l1).bind fun t286 => (laws_FnNamedMany.j1 kj2 a0 l1 (!t286)))) = some r := by rw [if_neg (show ¬ (false = true) by decide)] at H; exact H
        clear H
        have H := H1
        clear H1
        have HC6 := Aside0.mk H
        clear H
        go_upto_region 3 with (fail)
        go_cut [27] (fun v27 wc => ∃ (kq : Nat) (x27_5 : Bool), v27 = .bool x27_5 ∧ Aside0 (laws_FnNamedMany.j1 kq a0 l1 x27_5 = some r) ∧ Aside0 (kq ≤ kj2) ∧ Aside0 (Below w.heap.size w wc))
        case first =>
          have H := HC6.out
          clear HC6
          by_cases c7 : (a0.size : Int) > 1000
          · rw [if_pos c7] at H
            have c7b0 : decide (1000 < (a0.size : Int)) = true := decide_eq_true c7
            have c7b1 : decide (1000 < a0.size) = true := decide_eq_true (by omega)
            clear c7
            (first | rw [c7b0] | (simp only [i64_w, i32_w]; rw [c7b0]) | skip)
            have H' := Aside0.mk H
            clear H
            go_wp2
            go_meet
            case rel => exact ⟨_, (true), (by first | rfl | (simp; done) | (simp [*]; done)), H', ⟨by have := HJ2.out; first | omega | exact Nat.le_refl _⟩, ⟨by repeat (first | (with_reducible first | exact HB.out | apply below_alloc | apply pw_below_drewN | apply below_drew1) | exact HB.out)⟩⟩
          · rw [if_neg c7] at H
            have c7b0 : decide (1000 < (a0.size : Int)) = false := decide_eq_false c7
            have c7b1 : decide (1000 < a0.size) = false := decide_eq_false (by omega)
            clear c7
            (first | rw [c7b0] | (simp only [i64_w, i32_w]; rw [c7b0]) | skip)
            replace H := Option.bind_eq_some_iff.mp H
            obtain ⟨t286, A80, H⟩ := H
            replace H : (laws_FnNamedMany.j1 kj2 a0 l1 (!t286)) = some r := H
            have A8 := Aside0.mk A80
            clear A80
            have H' := Aside0.mk H
            clear H
            go_wp2_with (first | (go_at_call 40; (with_reducible refine (laws_rows9.calls kj2 _ _ l1 t286 _ ?side1 ?side2 A8.out).mono ?_); (case side1 => repeat (first | exact (Kd.C_below HR1.out HB.out) | (with_reducible refine Kd.C_alloc ?_ _) | (with_reducible refine Kd.C_drewN ?_ _) | (with_reducible refine Kd.C_drew ?_))); (case side2 => exact HC1.out); rintro e w9 ⟨rfl, hb⟩; have n0_ := Aside0.mk (below_step (by repeat (first | (with_reducible first | exact HB.out | apply below_alloc | apply pw_below_drewN | apply below_drew1) | exact HB.out)) hb); clear HB; have HB := n0_; clear n0_; (try clear hb); (try clear hb2); (try clear hk); (try clear hi)))
            go_meet
            case rel => exact ⟨_, (!t286), (by first | rfl | (simp; done) | (simp [*]; done)), H', ⟨by have := HJ2.out; first | omega | exact Nat.le_refl _⟩, ⟨by repeat (first | (with_reducible first | exact HB.out | apply below_alloc | apply pw_below_drewN | apply below_drew1) | exact HB.out)⟩⟩
        case rest =>
          clear HC6
          try clear c1
          try clear p2
          try clear c4
          try clear c4b0
          try clear c4b1
          try clear c5
          try clear c7
          try clear c7b0
          try clear c7b1
          try clear p2
          obtain ⟨kq, x27_5, rfl, HA, HJ5, HB⟩ := hcut
          cases kq with
          | zero => exact absurd HA.out (by simp [laws_FnNamedMany.j1])
          | succ kj5 =>
            have H := HA.out
            clear HA
            simp only [laws_FnNamedMany.j1] at H
            by_cases c10 : x27_5 = true
            · subst c10
              have H1 : (some true) = some r := by rw [if_pos rfl] at H; exact H
              clear H
              have H := H1
              clear H1
              obtain rfl := Option.some.inj H
              go_wp2
              go_ret
              exact ⟨by first | rfl | (simp [errW_none, errW_some] <;> rfl) | (simp [*, errW_none, errW_some] <;> rfl), by repeat (first | (with_reducible first | exact HB.out | apply below_alloc | apply pw_below_drewN | apply below_drew1) | exact HB.out)⟩
            · replace c10 := Bool.eq_false_iff.mpr c10
              subst c10
              have H1 : ((spec_NamedMany.f kj5 a0 l1).bind fun bt287 => (if bt287.2.2.2 = true then ((impl_NamedMany.f a0 l1).bind fun bt293 => (if (bt293.2.2 == bt287.2.2.1) = true then (if bt287.2.2.1 = true then (if bt293.1.toList = bt287.1.toList then ((spec_EqualValues.f bt287.2.1 bt293.2.1).bind fun t298 => (some t298)) else (some false)) else (some true)) else (some false))) else (some true))) = some r := by rw [if_neg (show ¬ (false = true) by decide)] at H; exact H
              clear H
              have H := H1
              clear H1
              replace H := Option.bind_eq_some_iff.mp H
              obtain ⟨⟨t287, t288, t291, t292⟩, A110, H⟩ := H
              replace H : (if t292 = true then ((impl_NamedMany.f a0 l1).bind fun bt293 => (if (bt293.2.2 == t291) = true then (if t291 = true then (if bt293.1.toList = t287.toList then ((spec_EqualValues.f t288 bt293.2.1).bind fun t298 => (some t298)) else (some false)) else (some true)) else (some false))) else (some true)) = some r := H
              have A11 := Aside0.mk A110
              clear A110
              by_cases c12 : t292 = true
              · subst c12
                have H1 : ((impl_NamedMany.f a0 l1).bind fun bt293 => (if (bt293.2.2 == t291) = true then (if t291 = true then (if bt293.1.toList = t287.toList then ((spec_EqualValues.f t288 bt293.2.1).bind fun t298 => (some t298)) else (some false)) else (some true)) else (some false))) = some r := by rw [if_pos rfl] at H; exact H
                clear H
                have H := H1
                clear H1
                replace H := Option.bind_eq_some_iff.mp H
                obtain ⟨⟨t293, t294, t295⟩, A130, H⟩ := H
                replace H : (if (t295 == t291) = true then (if t291 = true then (if t293.toList = t287.toList then ((spec_EqualValues.f t288 t294).bind fun t298 => (some t298)) else (some false)) else (some true)) else (some false)) = some r := H
                have A13 := Aside0.mk A130
                clear A130
                by_cases c14 : (t295 == t291) = true
                · rw [if_pos c14] at H
                  have c14b0 : (t295 == t291) = true := c14
                  (try (have c14b1 : decide (t295 = t291) = true := by simpa using c14))
                  (try (have c14b2 : (t295 == t291) = true := by simpa using c14))
                  clear c14
                  by_cases c15 : t291 = true
                  · subst c15
                    have H1 : (if t293.toList = t287.toList then ((spec_EqualValues.f t288 t294).bind fun t298 => (some t298)) else (some false)) = some r := by rw [if_pos rfl] at H; exact H
                    clear H
                    have H := H1
                    clear H1
                    by_cases c16 : t293.toList = t287.toList
                    · rw [if_pos c16] at H
                      have c16b0 : (t293.toList == t287.toList) = true := beq_iff_eq.mpr c16
                      have c16b1 : (t293.toList != t287.toList) = false := bne_eq_false_iff_eq.mpr c16
                      clear c16
                      replace H := Option.bind_eq_some_iff.mp H
                      obtain ⟨t298, A170, H⟩ := H
                      replace H : (some t298) = some r := H
                      have A17 := Aside0.mk A170
                      clear A170
                      obtain rfl := Option.some.inj H
                      go_wp2_with (first | ((with_reducible refine gate_callee (f := 41) rfl ?_); refine goesL_ (some 31) rfl rfl Tryd.func41 (by kernel_rfl) rfl #[.string a0, .slice A1 l1.length c1] rfl (by (try simp only [List.map_toArray, List.map_cons, List.map_nil]); first | done | rfl | (simp only [List.length_drop, List.length_take]; rfl)) ?_; (with_reducible refine (spec_NamedMany.calls kj5 a0 (fun k_ => k_ < w.heap.size) _ _ l1 t287 t288 true true _ ?side1 A11.out).mono ?_); (case side1 => exact Kd.V_mk HC1.out (Kd.F_below (Kd.C_F (Kd.heap_slice 54 k54_heap) HR1.out) (by repeat (first | (with_reducible first | exact HB.out | apply below_alloc | apply pw_below_drewN | apply below_drew1) | exact HB.out)))); rintro e w18 ⟨v289, rfl, ho0, hb⟩; refine ⟨_, rfl, ?_⟩; have n0_ := Aside0.mk (Kd.N_lower (Kd.N_mono (ok' := fun k_ => True) ho0 (fun k_ hk_ => trivial)) (below_size (by repeat (first | (with_reducible first | exact HB.out | apply below_alloc | apply pw_below_drewN | apply below_drew1) | exact HB.out)))); have n1_ := Aside0.mk (below_step (by repeat (first | (with_reducible first | exact HB.out | apply below_alloc | apply pw_below_drewN | apply below_drew1) | exact HB.out)) hb); clear HB; have HO290 := n0_; have HB := n1_; clear n0_ n1_; (try clear hb); (try clear hb2); (try clear hk); (try clear hi); (try clear ho0)) | ((with_reducible refine gate_callee (f := 43) rfl ?_); refine goesL_ (some 41) rfl rfl Tryd.func43 (by kernel_rfl) rfl #[.string a0, .slice A1 l1.length c1] rfl (by (try simp only [List.map_toArray, List.map_cons, List.map_nil]); first | done | rfl | (simp only [List.length_drop, List.length_take]; rfl)) ?_; (with_reducible refine (impl_NamedMany.calls a0 _ _ l1 t293 t294 t295 _ (tab_at HT_.out (by repeat (first | (with_reducible first | exact HB.out | apply below_alloc | apply pw_below_drewN | apply below_drew1) | exact HB.out))) ?side1 ?side2 A13.out).mono ?_); (case side1 => repeat (first | exact (Kd.C_below HR1.out HB.out) | (with_reducible refine Kd.C_alloc ?_ _) | (with_reducible refine Kd.C_drewN ?_ _) | (with_reducible refine Kd.C_drew ?_))); (case side2 => exact HC1.out); rintro e w19 ⟨v296, rfl, ho0, hb⟩; refine ⟨_, rfl, ?_⟩; have n0_ := Aside0.mk (Kd.N_elder' (by (with_reducible repeat (first | apply Kd.N_alloc | apply Kd.N_drewN | apply Kd.N_drew)); exact HO290.out) (Kd.N_base (Kd.R_N ho0)) hb); have n1_ := Aside0.mk (Kd.N_lower (Kd.N_mono (ok' := fun k_ => some k_ ≠ (v289 : Value).ownBlock) (Kd.R_N (Kd.R_bound ho0)) (fun k_ hk_ => (Kd.fresh' (Kd.N_lt (by (with_reducible repeat (first | apply Kd.N_alloc | apply Kd.N_drewN | apply Kd.N_drew)); exact HO290.out)) k_ hk_.2.1))) (below_size (by repeat (first | (with_reducible first | exact HB.out | apply below_alloc | apply pw_below_drewN | apply below_drew1) | exact HB.out)))); have n2_ := Aside0.mk (below_step (by repeat (first | (with_reducible first | exact HB.out | apply below_alloc | apply pw_below_drewN | apply below_drew1) | exact HB.out)) hb); clear HO290; clear HB; have HO290 := n0_; have HO297 := n1_; have HB := n2_; clear n0_ n1_ n2_; (try clear hb); (try clear hb2); (try clear hk); (try clear hi); (try clear ho0); obtain ⟨Ao20, co20, eo20⟩ := Kd.N_slice HO290.out; subst eo20; obtain ⟨Ao21, co21, eo21⟩ := Kd.N_slice HO297.out; subst eo21) | (go_at_call 37; (with_reducible refine (spec_EqualValues.calls _ _ t288 _ _ t294 t298 _ ?side1 ?side2 ?side3 ?side4 A17.out).mono ?_); (case side1 => repeat (first | exact (Kd.N_reads' HO290.out).2.2 | (with_reducible refine Kd.C_alloc ?_ _) | (with_reducible refine Kd.C_drewN ?_ _) | (with_reducible refine Kd.C_drew ?_))); (case side2 => exact (Kd.N_reads' HO290.out).2.1); (case side3 => repeat (first | exact (Kd.N_reads' HO297.out).2.2 | (with_reducible refine Kd.C_alloc ?_ _) | (with_reducible refine Kd.C_drewN ?_ _) | (with_reducible refine Kd.C_drew ?_))); (case side4 => exact (Kd.N_reads' HO297.out).2.1); rintro e w22 ⟨rfl, hb⟩; have n0_ := Aside0.mk (Kd.N_below (by (with_reducible repeat (first | apply Kd.N_alloc | apply Kd.N_drewN | apply Kd.N_drew)); exact HO290.out) hb); have n1_ := Aside0.mk (Kd.N_below (by (with_reducible repeat (first | apply Kd.N_alloc | apply Kd.N_drewN | apply Kd.N_drew)); exact HO297.out) hb); have n2_ := Aside0.mk (below_step (by repeat (first | (with_reducible first | exact HB.out | apply below_alloc | apply pw_below_drewN | apply below_drew1) | exact HB.out)) hb); clear HO290; clear HO297; clear HB; have HO290 := n0_; have HO297 := n1_; have HB := n2_; clear n0_ n1_ n2_; (try clear hb); (try clear hb2); (try clear hk); (try clear hi)))
                      go_ret
                      exact ⟨by first | rfl | (simp [errW_none, errW_some] <;> rfl) | (simp [*, errW_none, errW_some] <;> rfl), by repeat (first | (with_reducible first | exact HB.out | apply below_alloc | apply pw_below_drewN | apply below_drew1) | exact HB.out)⟩
                    · rw [if_neg c16] at H
                      have c16b0 : (t293.toList == t287.toList) = false := beq_eq_false_iff_ne.mpr c16
                      have c16b1 : (t293.toList != t287.toList) = true := bne_iff_ne.mpr c16
                      obtain rfl := Option.some.inj H
                      go_wp2_with (first | ((with_reducible refine gate_callee (f := 41) rfl ?_); refine goesL_ (some 31) rfl rfl Tryd.func41 (by kernel_rfl) rfl #[.string a0, .slice A1 l1.length c1] rfl (by (try simp only [List.map_toArray, List.map_cons, List.map_nil]); first | done | rfl | (simp only [List.length_drop, List.length_take]; rfl)) ?_; (with_reducible refine (spec_NamedMany.calls kj5 a0 (fun k_ => k_ < w.heap.size) _ _ l1 t287 t288 true true _ ?side1 A11.out).mono ?_); (case side1 => exact Kd.V_mk HC1.out (Kd.F_below (Kd.C_F (Kd.heap_slice 54 k54_heap) HR1.out) (by repeat (first | (with_reducible first | exact HB.out | apply below_alloc | apply pw_below_drewN | apply below_drew1) | exact HB.out)))); rintro e w23 ⟨v289, rfl, ho0, hb⟩; refine ⟨_, rfl, ?_⟩; have n0_ := Aside0.mk (Kd.N_lower (Kd.N_mono (ok' := fun k_ => True) ho0 (fun k_ hk_ => trivial)) (below_size (by repeat (first | (with_reducible first | exact HB.out | apply below_alloc | apply pw_below_drewN | apply below_drew1) | exact HB.out)))); have n1_ := Aside0.mk (below_step (by repeat (first | (with_reducible first | exact HB.out | apply below_alloc | apply pw_below_drewN | apply below_drew1) | exact HB.out)) hb); clear HB; have HO290 := n0_; have HB := n1_; clear n0_ n1_; (try clear hb); (try clear hb2); (try clear hk); (try clear hi); (try clear ho0)) | ((with_reducible refine gate_callee (f := 43) rfl ?_); refine goesL_ (some 41) rfl rfl Tryd.func43 (by kernel_rfl) rfl #[.string a0, .slice A1 l1.length c1] rfl (by (try simp only [List.map_toArray, List.map_cons, List.map_nil]); first | done | rfl | (simp only [List.length_drop, List.length_take]; rfl)) ?_; (with_reducible refine (impl_NamedMany.calls a0 _ _ l1 t293 t294 t295 _ (tab_at HT_.out (by repeat (first | (with_reducible first | exact HB.out | apply below_alloc | apply pw_below_drewN | apply below_drew1) | exact HB.out))) ?side1 ?side2 A13.out).mono ?_); (case side1 => repeat (first | exact (Kd.C_below HR1.out HB.out) | (with_reducible refine Kd.C_alloc ?_ _) | (with_reducible refine Kd.C_drewN ?_ _) | (with_reducible refine Kd.C_drew ?_))); (case side2 => exact HC1.out); rintro e w24 ⟨v296, rfl, ho0, hb⟩; refine ⟨_, rfl, ?_⟩; have n0_ := Aside0.mk (Kd.N_elder' (by (with_reducible repeat (first | apply Kd.N_alloc | apply Kd.N_drewN | apply Kd.N_drew)); exact HO290.out) (Kd.N_base (Kd.R_N ho0)) hb); have n1_ := Aside0.mk (Kd.N_lower (Kd.N_mono (ok' := fun k_ => some k_ ≠ (v289 : Value).ownBlock) (Kd.R_N (Kd.R_bound ho0)) (fun k_ hk_ => (Kd.fresh' (Kd.N_lt (by (with_reducible repeat (first | apply Kd.N_alloc | apply Kd.N_drewN | apply Kd.N_drew)); exact HO290.out)) k_ hk_.2.1))) (below_size (by repeat (first | (with_reducible first | exact HB.out | apply below_alloc | apply pw_below_drewN | apply below_drew1) | exact HB.out)))); have n2_ := Aside0.mk (below_step (by repeat (first | (with_reducible first | exact HB.out | apply below_alloc | apply pw_below_drewN | apply below_drew1) | exact HB.out)) hb); clear HO290; clear HB; have HO290 := n0_; have HO297 := n1_; have HB := n2_; clear n0_ n1_ n2_; (try clear hb); (try clear hb2); (try clear hk); (try clear hi); (try clear ho0)))
                      go_ret
                      exact ⟨by first | rfl | (simp [errW_none, errW_some] <;> rfl) | (simp [*, errW_none, errW_some] <;> rfl), by repeat (first | (with_reducible first | exact HB.out | apply below_alloc | apply pw_below_drewN | apply below_drew1) | exact HB.out)⟩
                  · replace c15 := Bool.eq_false_iff.mpr c15
                    subst c15
                    have H1 : (some true) = some r := by rw [if_neg (show ¬ (false = true) by decide)] at H; exact H
                    clear H
                    have H := H1
                    clear H1
                    obtain rfl := Option.some.inj H
                    go_wp2_with (first | ((with_reducible refine gate_callee (f := 41) rfl ?_); refine goesL_ (some 31) rfl rfl Tryd.func41 (by kernel_rfl) rfl #[.string a0, .slice A1 l1.length c1] rfl (by (try simp only [List.map_toArray, List.map_cons, List.map_nil]); first | done | rfl | (simp only [List.length_drop, List.length_take]; rfl)) ?_; (with_reducible refine (spec_NamedMany.calls kj5 a0 (fun k_ => k_ < w.heap.size) _ _ l1 t287 t288 false true _ ?side1 A11.out).mono ?_); (case side1 => exact Kd.V_mk HC1.out (Kd.F_below (Kd.C_F (Kd.heap_slice 54 k54_heap) HR1.out) (by repeat (first | (with_reducible first | exact HB.out | apply below_alloc | apply pw_below_drewN | apply below_drew1) | exact HB.out)))); rintro e w25 ⟨v289, rfl, ho0, hb⟩; refine ⟨_, rfl, ?_⟩; have n0_ := Aside0.mk (Kd.N_lower (Kd.N_mono (ok' := fun k_ => True) ho0 (fun k_ hk_ => trivial)) (below_size (by repeat (first | (with_reducible first | exact HB.out | apply below_alloc | apply pw_below_drewN | apply below_drew1) | exact HB.out)))); have n1_ := Aside0.mk (below_step (by repeat (first | (with_reducible first | exact HB.out | apply below_alloc | apply pw_below_drewN | apply below_drew1) | exact HB.out)) hb); clear HB; have HO290 := n0_; have HB := n1_; clear n0_ n1_; (try clear hb); (try clear hb2); (try clear hk); (try clear hi); (try clear ho0)) | ((with_reducible refine gate_callee (f := 43) rfl ?_); refine goesL_ (some 41) rfl rfl Tryd.func43 (by kernel_rfl) rfl #[.string a0, .slice A1 l1.length c1] rfl (by (try simp only [List.map_toArray, List.map_cons, List.map_nil]); first | done | rfl | (simp only [List.length_drop, List.length_take]; rfl)) ?_; (with_reducible refine (impl_NamedMany.calls a0 _ _ l1 t293 t294 t295 _ (tab_at HT_.out (by repeat (first | (with_reducible first | exact HB.out | apply below_alloc | apply pw_below_drewN | apply below_drew1) | exact HB.out))) ?side1 ?side2 A13.out).mono ?_); (case side1 => repeat (first | exact (Kd.C_below HR1.out HB.out) | (with_reducible refine Kd.C_alloc ?_ _) | (with_reducible refine Kd.C_drewN ?_ _) | (with_reducible refine Kd.C_drew ?_))); (case side2 => exact HC1.out); rintro e w26 ⟨v296, rfl, ho0, hb⟩; refine ⟨_, rfl, ?_⟩; have n0_ := Aside0.mk (Kd.N_elder' (by (with_reducible repeat (first | apply Kd.N_alloc | apply Kd.N_drewN | apply Kd.N_drew)); exact HO290.out) (Kd.N_base (Kd.R_N ho0)) hb); have n1_ := Aside0.mk (Kd.N_lower (Kd.N_mono (ok' := fun k_ => some k_ ≠ (v289 : Value).ownBlock) (Kd.R_N (Kd.R_bound ho0)) (fun k_ hk_ => (Kd.fresh' (Kd.N_lt (by (with_reducible repeat (first | apply Kd.N_alloc | apply Kd.N_drewN | apply Kd.N_drew)); exact HO290.out)) k_ hk_.2.1))) (below_size (by repeat (first | (with_reducible first | exact HB.out | apply below_alloc | apply pw_below_drewN | apply below_drew1) | exact HB.out)))); have n2_ := Aside0.mk (below_step (by repeat (first | (with_reducible first | exact HB.out | apply below_alloc | apply pw_below_drewN | apply below_drew1) | exact HB.out)) hb); clear HO290; clear HB; have HO290 := n0_; have HO297 := n1_; have HB := n2_; clear n0_ n1_ n2_; (try clear hb); (try clear hb2); (try clear hk); (try clear hi); (try clear ho0)))
                    go_ret
                    exact ⟨by first | rfl | (simp [errW_none, errW_some] <;> rfl) | (simp [*, errW_none, errW_some] <;> rfl), by repeat (first | (with_reducible first | exact HB.out | apply below_alloc | apply pw_below_drewN | apply below_drew1) | exact HB.out)⟩
                · rw [if_neg c14] at H
                  have c14b0 : (t295 == t291) = false := by simpa using c14
                  (try (have c14b1 : decide (t295 = t291) = false := by simpa using c14))
                  (try (have c14b2 : (t295 == t291) = false := by simpa using c14))
                  (try (have c14b3 : ¬ (t295 = t291) := by simpa using c14))
                  clear c14
                  obtain rfl := Option.some.inj H
                  go_wp2_with (first | ((with_reducible refine gate_callee (f := 41) rfl ?_); refine goesL_ (some 31) rfl rfl Tryd.func41 (by kernel_rfl) rfl #[.string a0, .slice A1 l1.length c1] rfl (by (try simp only [List.map_toArray, List.map_cons, List.map_nil]); first | done | rfl | (simp only [List.length_drop, List.length_take]; rfl)) ?_; (with_reducible refine (spec_NamedMany.calls kj5 a0 (fun k_ => k_ < w.heap.size) _ _ l1 t287 t288 t291 true _ ?side1 A11.out).mono ?_); (case side1 => exact Kd.V_mk HC1.out (Kd.F_below (Kd.C_F (Kd.heap_slice 54 k54_heap) HR1.out) (by repeat (first | (with_reducible first | exact HB.out | apply below_alloc | apply pw_below_drewN | apply below_drew1) | exact HB.out)))); rintro e w27 ⟨v289, rfl, ho0, hb⟩; refine ⟨_, rfl, ?_⟩; have n0_ := Aside0.mk (Kd.N_lower (Kd.N_mono (ok' := fun k_ => True) ho0 (fun k_ hk_ => trivial)) (below_size (by repeat (first | (with_reducible first | exact HB.out | apply below_alloc | apply pw_below_drewN | apply below_drew1) | exact HB.out)))); have n1_ := Aside0.mk (below_step (by repeat (first | (with_reducible first | exact HB.out | apply below_alloc | apply pw_below_drewN | apply below_drew1) | exact HB.out)) hb); clear HB; have HO290 := n0_; have HB := n1_; clear n0_ n1_; (try clear hb); (try clear hb2); (try clear hk); (try clear hi); (try clear ho0)) | ((with_reducible refine gate_callee (f := 43) rfl ?_); refine goesL_ (some 41) rfl rfl Tryd.func43 (by kernel_rfl) rfl #[.string a0, .slice A1 l1.length c1] rfl (by (try simp only [List.map_toArray, List.map_cons, List.map_nil]); first | done | rfl | (simp only [List.length_drop, List.length_take]; rfl)) ?_; (with_reducible refine (impl_NamedMany.calls a0 _ _ l1 t293 t294 t295 _ (tab_at HT_.out (by repeat (first | (with_reducible first | exact HB.out | apply below_alloc | apply pw_below_drewN | apply below_drew1) | exact HB.out))) ?side1 ?side2 A13.out).mono ?_); (case side1 => repeat (first | exact (Kd.C_below HR1.out HB.out) | (with_reducible refine Kd.C_alloc ?_ _) | (with_reducible refine Kd.C_drewN ?_ _) | (with_reducible refine Kd.C_drew ?_))); (case side2 => exact HC1.out); rintro e w28 ⟨v296, rfl, ho0, hb⟩; refine ⟨_, rfl, ?_⟩; have n0_ := Aside0.mk (Kd.N_elder' (by (with_reducible repeat (first | apply Kd.N_alloc | apply Kd.N_drewN | apply Kd.N_drew)); exact HO290.out) (Kd.N_base (Kd.R_N ho0)) hb); have n1_ := Aside0.mk (Kd.N_lower (Kd.N_mono (ok' := fun k_ => some k_ ≠ (v289 : Value).ownBlock) (Kd.R_N (Kd.R_bound ho0)) (fun k_ hk_ => (Kd.fresh' (Kd.N_lt (by (with_reducible repeat (first | apply Kd.N_alloc | apply Kd.N_drewN | apply Kd.N_drew)); exact HO290.out)) k_ hk_.2.1))) (below_size (by repeat (first | (with_reducible first | exact HB.out | apply below_alloc | apply pw_below_drewN | apply below_drew1) | exact HB.out)))); have n2_ := Aside0.mk (below_step (by repeat (first | (with_reducible first | exact HB.out | apply below_alloc | apply pw_below_drewN | apply below_drew1) | exact HB.out)) hb); clear HO290; clear HB; have HO290 := n0_; have HO297 := n1_; have HB := n2_; clear n0_ n1_ n2_; (try clear hb); (try clear hb2); (try clear hk); (try clear hi); (try clear ho0)))
                  go_ret
                  exact ⟨by first | rfl | (simp [errW_none, errW_some] <;> rfl) | (simp [*, errW_none, errW_some] <;> rfl), by repeat (first | (with_reducible first | exact HB.out | apply below_alloc | apply pw_below_drewN | apply below_drew1) | exact HB.out)⟩
              · replace c12 := Bool.eq_false_iff.mpr c12
                subst c12
                have H1 : (some true) = some r := by rw [if_neg (show ¬ (false = true) by decide)] at H; exact H
                clear H
                have H := H1
                clear H1
                obtain rfl := Option.some.inj H
                go_wp2_with (first | ((with_reducible refine gate_callee (f := 41) rfl ?_); refine goesL_ (some 31) rfl rfl Tryd.func41 (by kernel_rfl) rfl #[.string a0, .slice A1 l1.length c1] rfl (by (try simp only [List.map_toArray, List.map_cons, List.map_nil]); first | done | rfl | (simp only [List.length_drop, List.length_take]; rfl)) ?_; (with_reducible refine (spec_NamedMany.calls kj5 a0 (fun k_ => k_ < w.heap.size) _ _ l1 t287 t288 t291 false _ ?side1 A11.out).mono ?_); (case side1 => exact Kd.V_mk HC1.out (Kd.F_below (Kd.C_F (Kd.heap_slice 54 k54_heap) HR1.out) (by repeat (first | (with_reducible first | exact HB.out | apply below_alloc | apply pw_below_drewN | apply below_drew1) | exact HB.out)))); rintro e w29 ⟨v289, rfl, ho0, hb⟩; refine ⟨_, rfl, ?_⟩; have n0_ := Aside0.mk (Kd.N_lower (Kd.N_mono (ok' := fun k_ => True) ho0 (fun k_ hk_ => trivial)) (below_size (by repeat (first | (with_reducible first | exact HB.out | apply below_alloc | apply pw_below_drewN | apply below_drew1) | exact HB.out)))); have n1_ := Aside0.mk (below_step (by repeat (first | (with_reducible first | exact HB.out | apply below_alloc | apply pw_below_drewN | apply below_drew1) | exact HB.out)) hb); clear HB; have HO290 := n0_; have HB := n1_; clear n0_ n1_; (try clear hb); (try clear hb2); (try clear hk); (try clear hi); (try clear ho0)))
                go_ret
                exact ⟨by first | rfl | (simp [errW_none, errW_some] <;> rfl) | (simp [*, errW_none, errW_some] <;> rfl), by repeat (first | (with_reducible first | exact HB.out | apply below_alloc | apply pw_below_drewN | apply below_drew1) | exact HB.out)⟩

end Go.Proofs.YtnmhoghmhglimaaDoor.QN
/-
  PROVED: 'laws.FnNamedMany': a text for several lists of arguments, as the reference says where it is sure. No condition.
-/
namespace Go.Proofs.YtnmhoghmhglimaaDoor.Pure
open Go.RowKit Go.Proofs.YtnmhoghmhglimaaDoor.QN Go.Proofs.YtnmhoghmhglimaaDoor.H Go.Proofs.YtnmhoghmhglimaaDoor.SC Go.Proofs.YtnmhoghmhglimaaDoor.SN Go.Proofs.YtnmhoghmhglimaaDoorW.PrintWords Go.Proofs.YtnmhoghmhglimaaDoorW.PrintLast Go.Proofs.YtnmhoghmhglimaaDoorW.PrintMore

theorem FnNamedMany (s : ByteArray) (rows : List (List S54)) (hr : ∀ r ∈ rows, r.length ≤ 9223372036854775807) : ∃ k, laws_FnNamedMany.f k s rows = some true := by
  have j0T : Ev (fun k => laws_FnNamedMany.j0 k s rows true) true := Ev.step (f := fun _ => some true) (fun k => by simp only [laws_FnNamedMany.j0]; rw [if_pos trivial]) (Ev.now _)
  have j1T : Ev (fun k => laws_FnNamedMany.j1 k s rows true) true := Ev.step (f := fun _ => some true) (fun k => by simp only [laws_FnNamedMany.j1]; rw [if_pos trivial]) (Ev.now _)
  refine Ev.rounds (g := fun k => laws_FnNamedMany.f k s rows) ?_
  by_cases h1 : (s.size : Int) > 2147483647
  · exact Ev.congr (fun k => by simp only [laws_FnNamedMany.f]; rw [if_pos h1]) j0T
  by_cases h2 : (rows.length : Int) > 2147483647
  · exact Ev.congr (fun k => by simp only [laws_FnNamedMany.f]; rw [if_neg h1, decide_eq_true h2]) j0T
  refine Ev.congr (f := fun k => laws_FnNamedMany.j0 k s rows false) (fun k => by simp only [laws_FnNamedMany.f]; rw [if_neg h1, decide_eq_false h2]) ?_
  by_cases h3 : (s.size : Int) > 1000
  · refine Ev.step (fun k => ?_) j1T
    simp only [laws_FnNamedMany.j0]
    rw [if_neg (by decide), if_pos h3]
  obtain ⟨b, hE, hb⟩ := rows9_is rows (by omega) hr
  refine Ev.step (f := fun k => (laws_rows9.f k rows).bind fun t => laws_FnNamedMany.j1 k s rows (!t)) (fun k => ?_) (Ev.bind hE ?_)
  · simp only [laws_FnNamedMany.j0]
    rw [if_neg (by decide), if_neg h3]
  cases b with
  | false => exact j1T
  | true =>
    have hs : s.size ≤ 4096 := by omega
    obtain ⟨hrl, hok⟩ := hb rfl
    have hargs : ∀ r ∈ rows, ArgsOk r := fun r hr => (hok r hr).1
    obtain ⟨res, hres, hsure, hun⟩ := namedMany_is s hs rows (by omega) (fun r hr => by have := (hok r hr).2; omega)
    have hi := many_law 1 (by decide) (by decide) s hs rows (by omega) hargs
    refine Ev.step (f := fun k => (spec_NamedMany.f k s rows).bind fun bt287 => (if bt287.2.2.2 = true then ((impl_NamedMany.f s rows).bind fun bt293 => (if (bt293.2.2 == bt287.2.2.1) = true then (if bt287.2.2.1 = true then (if bt293.1.toList = bt287.1.toList then ((spec_EqualValues.f bt287.2.1 bt293.2.1).bind fun t298 => (some t298)) else (some false)) else (some true)) else (some false))) else (some true))) (fun k => ?_) (Ev.bind hres ?_)
    · simp only [laws_FnNamedMany.j1]
      rw [Bool.not_true, if_neg (by decide)]
    refine Ev.congr (f := fun _ => some true) (fun k => ?_) (Ev.now _)
    by_cases hsu : (bitsOf s).2.2 = true
    · rcases hsure hsu with ⟨hm, hr1⟩ | ⟨r, hm, e1, e2, e3⟩
      · rw [hm] at hi
        rw [hr1, if_pos rfl, impl_NamedMany.f, hi, Option.bind_some, Option.bind_some, if_pos (by simp), if_neg (by simp)]
      · rw [hm] at hi
        have hd := many_deep hs (by omega) hargs hm
        obtain ⟨x1, x2, x3, x4⟩ := res
        have e1' : x2 = r.2 := e1
        have e2' : x3 = true := e2
        subst e1' e2'
        cases x4 with
        | false => rw [if_neg (by simp)]
        | true =>
          have e3' : x1 = r.1 := e3 rfl
          subst e3'
          have e4 : reText 1 r.1 = r.1 := if_pos (.inl rfl)
          rw [if_pos rfl, impl_NamedMany.f, hi, Option.bind_some, Option.bind_some, if_pos (by simp), if_pos rfl, if_pos (by show (reText 1 r.1).toList = _; rw [e4]), equal_self _ hd, Option.bind_some]
    · rw [hun hsu, if_neg (by decide)]
end Go.Proofs.YtnmhoghmhglimaaDoor.Pure
-- WRITTEN BY A PROGRAM OF THIS SESSION (wip/rowtexts.py). Not trusted: Lean checks it.
namespace Go.Proofs.YtnmhoghmhglimaaDoor.fnNamedMany
open Go.ChangeShapes Go.WideShapes Go.ChangeAt Go.RowKit
open Go.ChangeMaps (open_string shut_string)
open Go.Proofs.YtnmhoghmhglimaaDoorW.PrintWords
set_option linter.unusedVariables false
/-- A list of texts, as an argument's cells hold it. -/
theorem texts_C {W : World} {a : Addr} {len c : Nat} {ss : List ByteArray} (hl : len ≤ c) (hm : c ≤ maxLen) (hz : ss.length = c) (hc : ∀ i, i < ss.length → W.cell? (a.add i) = some (.string (ss.getD i ByteArray.empty))) : Kd.C Kd.string W (some a) len (ss.take len) := by
  refine ⟨by rw [List.length_take]; omega, by simp only [maxLen] at hm; omega, fun _ => ⟨a, rfl, fun j p hj => ⟨[.string p], rfl, rfl, fun i u hu => ?_⟩⟩⟩
  obtain ⟨hj2, hj3⟩ := List.getElem?_eq_some_iff.1 hj
  have hj4 : j < ss.length := by rw [List.length_take] at hj2; omega
  have hp : ss.getD j ByteArray.empty = p := by
    rw [← hj3, List.getElem_take]
    simp [List.getD, hj4]
  cases i with
  | zero =>
    simp at hu
    subst hu
    rw [← hp]
    show W.cell? (a.add (j * 1 + 0)) = _
    rw [Nat.mul_one, Nat.add_zero]
    exact hc j hj4
  | succ i => simp at hu
theorem laidOut : laidOutB Tryd.prog = true := by kernel_rfl
theorem door_met (os : Os) (args : Array Value) : laidMetH Tryd.prog Rows.fnNamedManyRow.laid ((World.doorLaid Tryd.prog 43 os).forCall (fun _ _ => 0) ⟨#[], args, []⟩).memory :=
  laidMetH_of_parts3 (fuel := 8) (laidMet_of_run' 8 (by kernel_rfl) (by kernel_rfl)) (by kernel_rfl) (by kernel_rfl)
theorem gTab : Tryd.prog.globalNamed "internal/strconv.uint64pow10" = some 2 := by kernel_rfl
theorem tab_of_laid {W : World} (h : laidMetH Tryd.prog Rows.fnNamedManyRow.laid W) : H.Tab W := by
  have h2 := h.filter (fun x => x.1 == "internal/strconv.uint64pow10")
  have e : (Rows.fnNamedManyRow.laid.filter fun x => x.1 == "internal/strconv.uint64pow10") = [("internal/strconv.uint64pow10", Lib.tabData .u64 Lib.pow10Tab)] := by kernel_rfl
  rw [e] at h2
  have h3 : laidMet Tryd.prog [("internal/strconv.uint64pow10", Lib.tabData .u64 Lib.pow10Tab)] W := h2
  exact Lib.tabIs_of_head (rest := []) gTab (t := 148) (e := 131) (n := 20) (by kernel_rfl) (by kernel_rfl) (by kernel_rfl) (by kernel_rfl) (by kernel_rfl) h3
theorem own : ownKnob Tryd.prog.godebug = none := by kernel_rfl
set_option maxRecDepth 100000 in
theorem lifted (os : Os) (started : os.Started) (H : Type) (enc : TypeId × Value → H) :
    ReturnsInHanded {} Tryd.checked os 15 .any (fun w args => (Rows.fnNamedManySpec.pre enc Tryd.prog Tryd.f15 [] false w args ∧ laidMetH Tryd.prog Rows.fnNamedManyRow.laid w) ∧ sizedMet enc Tryd.prog Tryd.f15 (OpenSpec.ofChange Rows.fnNamedManySpec) false w args) (Rows.fnNamedManySpec.post enc Tryd.prog Tryd.f15 false true false false) := by
  refine returnsInHanded_of_change_and (C := Tryd.checked) (X := fun w _ => laidMetH Tryd.prog Rows.fnNamedManyRow.laid w) (fun _ _ _ hh h => h.of_heap hh) own started (by kernel_rfl) Tryd.func15
    (ChangeSpec.witness_shaped (enc := enc) (C := Tryd.checked) (os := os) (X := fun w _ => laidMetH Tryd.prog Rows.fnNamedManyRow.laid w) false (World.doorLaid Tryd.prog 43 os) #[.string ByteArray.empty, .slice none 0 0] 8 rfl (World.shaped_of_RefB (by kernel_rfl) (by kernel_rfl)) (by kernel_rfl) (by kernel_rfl) (by kernel_rfl) (door_met os _)) ?_
  intro W base args ds gs before hval0 hW hcnd hsz0 hL _
  have hsz : (DataW.weightsEach Tryd.prog (Tryd.f15.params.toList ++ Rows.fnNamedManySpec.plain.varTypes Tryd.prog) (ds ++ gs)).all (· ≤ reachBytes) = true := hsz0
  have hval : ∀ (j : Nat) t v, Tryd.f15.params[j]? = some t → args[j]? = some v → Value.okWide Tryd.prog W .any base t v := hval0
  have hW' := hW
  obtain ⟨p, q, hA0, hV, rfl, hfz, hnd⟩ := hW
  have hA : DataW.TrodAll enc Tryd.prog W 0 (fun _ => true) true Tryd.f15.params.toList args.toList ds p := hA0
  rw [Tryd.params15] at hA hval hsz
  obtain ⟨v0, vs0, d0, ds0, p0, q0, hargs, rfl, rfl, h0, r0⟩ := trodAll_cons hA
  obtain ⟨v1, vs1, d1, ds1, p1, q1, rfl, rfl, rfl, h1, r1⟩ := trodAll_cons r0
  obtain ⟨rfl, rfl, rfl⟩ := trodAll_nil r1
  obtain rfl : args = #[v0, v1] := by cases args; simp_all
  obtain ⟨rfl, rfl⟩ := trodVars_none hV
  obtain ⟨a0, rfl, rfl, rfl, y0⟩ := open_string Tryd.underlying9 (hval 0 9 v0 rfl rfl) h0
  obtain ⟨A1, n1, c1, rfl⟩ := okWide_slice Tryd.underlying58 (hval 1 58 v1 rfl rfl)
  have k1 := h1
  have lt1 : ∀ x ∈ p1, x.block < W.heap.size := by obtain ⟨m, hm⟩ := k1; exact DataW.trod_lt m _ _ _ hm
  obtain ⟨l1, e1, w1, u1⟩ : ∃ l : List (List QN.S54), n1 = l.length ∧ Kd.C (Kd.slice 54 QN.k54) W A1 l.length l ∧ l.length ≤ c1 := by
    obtain ⟨fuel, hf⟩ := h1
    obtain ⟨l, A, c, hcs, hl, hC⟩ := Go.Proofs.YtnmhoghmhglimaaDoor.H.opens_rows hf
    simp [Value.cells] at hcs
    obtain ⟨rfl, rfl, rfl⟩ := hcs
    exact ⟨l, rfl, hC, hl⟩
  subst e1
  clear hA0 hval0 hsz0 hsz
  obtain ⟨k, hk⟩ := Pure.FnNamedMany a0 l1 (Go.Proofs.YtnmhoghmhglimaaDoor.H.rows_len w1)
  refine (QN.laws_FnNamedMany.calls k a0 A1 c1 l1 true W (tab_of_laid hL) w1 u1 hk).mono fun e W' ⟨he, bel⟩ => ?_
  subst he
  exact ⟨_, rfl, _, _, _, [], _, [], hW', trodAll_mk1 (shut_bool Tryd.underlying4 _), (trodAll_cons_mk (shut_string Tryd.underlying9 y0) (trodAll_cons_mk (Below.trod laidOut (by kernel_rfl) (of_decide_eq_true (by kernel_rfl)) k1 bel lt1) trodAll_mk0)), rfl, bel.frame _, fun h => by cases h⟩
theorem lf : (Rows.fnNamedManyRow.lifted == Tryd.pinned.checked.prog.liftsFinal) = true := beq_iff_eq.mpr Facts.liftsFinal.symm
theorem mk : (Tryd.pinned.checked.prog.make == some Rows.fnNamedManyRow.make) = true := beq_iff_eq.mpr Facts.make
theorem joined : joinedFacts Tryd.pinned.checked.prog 15 Tryd.f15 Rows.fnNamedManySpec Rows.fnNamedManyRow = true := by
  unfold joinedFacts
  rw [Facts.mayEnter, lf, mk]
  kernel_rfl
theorem over : Rows.fnNamedManyRow.holds Tryd.pinned (OpenSpec.ofChange Rows.fnNamedManySpec) :=
  OpenClaim.holds_of_wide 15 Tryd.f15 rfl rfl rfl rfl rfl rfl rfl ⟨rfl, rfl, rfl, rfl, rfl⟩ rfl rfl rfl rfl rfl (by kernel_rfl) Tryd.func15 joined
    (of_decide_eq_true (by kernel_rfl)) (by unfold Func.isWrapper; first | (rw [if_pos (by decide +kernel)]; kernel_rfl) | (rw [if_neg (by decide +kernel)]; exact ⟨rfl, rfl⟩))
    (fun os started H enc _ => lifted os started H enc)
theorem proved : Rows.FnNamedManySaid := over
theorem plain (f : FuncId) (fn : Func) (hf : Tryd.pinned.checked.prog.funcNamed "given.example/pub-conveyance/laws.FnNamedMany" = some f) (hfn : Tryd.pinned.checked.prog.funcs[f]? = some fn) :
    true = Tryd.pinned.checked.prog.looks [] ∧ ∀ (j : Nat) t, fn.params[j]? = some t → Tryd.pinned.checked.prog.wantsStandIn t = false := by
  obtain rfl : f = 15 := Option.some.inj ((show Tryd.prog.funcNamed "given.example/pub-conveyance/laws.FnNamedMany" = some 15 by kernel_rfl).symm.trans hf) |>.symm
  obtain rfl : fn = Tryd.f15 := (Option.some.inj (Tryd.func15.symm.trans hfn)).symm
  refine ⟨by kernel_rfl, fun j t ht => ?_⟩
  rw [Tryd.params15] at ht
  have hm : t ∈ [9, 58] := by simpa using Array.mem_of_getElem? ht
  have hall : ([9, 58].all fun u => !Tryd.prog.wantsStandIn u) = true := by kernel_rfl
  exact (show Tryd.prog.wantsStandIn t = false by simpa using List.all_eq_true.1 hall t hm)
theorem card : Rows.FnNamedManyCardSaid :=
  Claim7.holds_tied_plain_at .later [] _ _ _ _ proved (fun _ h => by cases h) (by kernel_rfl) (fun _ h => by cases h) fnNamedMany_row_tie rfl ⟨rfl, rfl⟩ Facts.mainIs rfl plain (by kernel_rfl)
#print axioms card
end Go.Proofs.YtnmhoghmhglimaaDoor.fnNamedMany
namespace Go.Proofs.YtnmhoghmhglimaaDoor
/-- The row, under a short name, for the claim. -/
theorem fnNamedMany_holds : Rows.FnNamedManyCardSaid := fnNamedMany.card
end Go.Proofs.YtnmhoghmhglimaaDoor
