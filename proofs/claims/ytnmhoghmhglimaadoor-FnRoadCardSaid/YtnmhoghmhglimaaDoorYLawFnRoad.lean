/-
  MERGED BY A PROGRAM OF THIS SESSION (wip/pack.py): QN21, PureFnRoad, LawFnRoad.
-/
import Derived.Test.YtnmhoghmhglimaaDoorYB
import Derived.Test.YtnmhoghmhglimaaDoorYD
import Derived.Test.YtnmhoghmhglimaaDoorYE
import Derived.Test.YtnmhoghmhglimaaDoorYF
import Derived.Test.YtnmhoghmhglimaaDoorYM
import Derived.Test.YtnmhoghmhglimaaDoorYN
import Derived.Test.YtnmhoghmhglimaaDoorYO
import Derived.Test.YtnmhoghmhglimaaDoorYJ
import Derived.Test.YtnmhoghmhglimaaDoorCards
import Derived.Test.YtnmhoghmhglimaaDoorTie
import Derived.LaidMore
import Derived.Lib.LaidTab
import Derived.LaidSub
import Derived.Stop.Joined
import Derived.SevenTiedAt
import Derived.Test.YtnmhoghmhglimaaDoorFactsA
import Derived.Test.YtnmhoghmhglimaaDoorFactsB
import Derived.Test.YtnmhoghmhglimaaDoorFactsC
import Derived.Test.YtnmhoghmhglimaaDoorFactsD
import Derived.Test.YtnmhoghmhglimaaDoorYG
import Derived.WalkKit
import Derived.ProofKit
import Derived.OpenShut
import Derived.ShutString
import Derived.ChangeOld
import Derived.Below
import Derived.SizedLaws
import Derived.SliceStrings
-- WRITTEN BY A PROGRAM OF THIS SESSION (wip/print2.py): the print, with contracts of this session's own let in. Not trusted: Lean checks it.
namespace Go.Proofs.YtnmhoghmhglimaaDoor.QN
open Go.RowKit Go.Proofs.YtnmhoghmhglimaaDoorW.PrintWords Go.Proofs.YtnmhoghmhglimaaDoorW.PrintLast Go.Proofs.YtnmhoghmhglimaaDoorW.PrintMore
attribute [local go_sem] max2_int min2_int max_two min_two max_three min_three max_four min_four   -- for this text's walks alone
set_option linter.unusedVariables false
set_option linter.unusedSimpArgs false

open Go.Proofs.YtnmhoghmhglimaaDoor.H
/-! ### laws_FnRoad: function 17 -/
mutual
def laws_FnRoad.j0 : Nat → Int → ByteArray → List (S54) → Bool → Option (Bool)
  | 0, _, _, _, _ => none
  | k + 1, x0, x1, x2, x25 => if x25 = true then (some true) else (if (x1.size : Int) > 1000 then (laws_FnRoad.j1 k x0 x1 x2 true) else ((spec_ArgsRight.f k x2).bind fun t346 => (if t346 = true then ((laws_marks9.f k x1).bind fun t347 => (laws_FnRoad.j1 k x0 x1 x2 (decide (t347 > 0)))) else (laws_FnRoad.j1 k x0 x1 x2 true))))
def laws_FnRoad.j1 : Nat → Int → ByteArray → List (S54) → Bool → Option (Bool)
  | 0, _, _, _, _ => none
  | k + 1, x0, x1, x2, x38 => if x38 = true then (some true) else ((spec_NamedOf.f k 1 x1 x2).bind fun bt348 => (if bt348.2.2.2 = true then (if bt348.2.2.1 = true then (laws_FnRoad.j2 k x0 x1 x2 bt348.1 bt348.2.1 (decide ((bt348.2.1.length : Int) > 50))) else (laws_FnRoad.j2 k x0 x1 x2 bt348.1 bt348.2.1 true)) else (laws_FnRoad.j2 k x0 x1 x2 bt348.1 bt348.2.1 true)))
def laws_FnRoad.j2 : Nat → Int → ByteArray → List (S54) → ByteArray → List (S52) → Bool → Option (Bool)
  | 0, _, _, _, _, _, _ => none
  | k + 1, x0, x1, x2, x7, x8, x57 => if x57 = true then (some true) else ((spec_Expanded.f k x7 x8).bind fun bt354 => (if bt354.2.2 = true then ((impl_Named.f x1 x2).bind fun bt359 => ((impl_Expanded.f bt359.1 bt359.2.1).bind fun bt364 => ((laws_kind9.f x0).bind fun t369 => ((impl_Rebound.f t369 bt364.1).bind fun t370 => (if bt359.2.2 = true then (if bt364.2.2 = true then (if bt364.1.toList = bt354.1.toList then ((spec_EqualValues.f bt364.2.1 bt354.2.1).bind fun t371 => (if t371 = true then ((laws_marks9.f k bt364.1).bind fun t372 => (if t372 = (bt364.2.1.length : Int) then ((laws_kind9.f x0).bind fun t373 => ((spec_Rebound.f k t373 bt354.1).bind fun t374 => (some (t370.toList == t374.toList)))) else (some false))) else (some false))) else (some false)) else (some false)) else (some false)))))) else (some true)))
end
def laws_FnRoad.f (k : Nat) (a0 : Int) (a1 : ByteArray) (l2 : List (S54)) : Option (Bool) := if (a1.size : Int) > 2147483647 then (laws_FnRoad.j0 k a0 a1 l2 true) else (laws_FnRoad.j0 k a0 a1 l2 (decide ((l2.length : Int) > 2147483647)))
set_option maxHeartbeats 8000000 in
set_option maxRecDepth 100000 in
theorem laws_FnRoad.calls (k : Nat) (a0 : Int) (a1 : ByteArray) (A2 : Option Addr) (c2 : Nat) (l2 : List (S54)) (r : Bool) (w : World) (ht_ : Tab w) (hr2 : Kd.C k54 w A2 l2.length l2) (hc2 : l2.length ≤ c2) (h : laws_FnRoad.f k a0 a1 l2 = some r) :
    Calls Tryd.prog 17 #[.int .u8 a0, .string a1, .slice A2 l2.length c2] w fun e w' => e = .returned (.bool r) ∧ Below w.heap.size w w' := by
  have HR2 := Aside0.mk hr2
  have HC2 := Aside0.mk hc2
  clear hr2 hc2
  have HB := Aside0.mk (Below.refl w.heap.size w)
  have HT_ := Aside0.mk (tab_below ht_)
  clear ht_
  have H : (if (a1.size : Int) > 2147483647 then (laws_FnRoad.j0 k a0 a1 l2 true) else (laws_FnRoad.j0 k a0 a1 l2 (decide ((l2.length : Int) > 2147483647)))) = some r := h
  clear h
  have HC4 := Aside0.mk H
  clear H
  go_enter Tryd.func17, Tryd.ntmps17
  go_upto_region 1 with (fail)
  go_cut [25] (fun v25 wc => ∃ (kq : Nat) (x25_3 : Bool), v25 = .bool x25_3 ∧ Aside0 (laws_FnRoad.j0 kq a0 a1 l2 x25_3 = some r) ∧ Aside0 (kq ≤ k) ∧ Aside0 (Below w.heap.size w wc))
  case first =>
    have H := HC4.out
    clear HC4
    by_cases c5 : (a1.size : Int) > 2147483647
    · rw [if_pos c5] at H
      have c5b0 : decide (2147483647 < (a1.size : Int)) = true := decide_eq_true c5
      have c5b1 : decide (2147483647 < a1.size) = true := decide_eq_true (by omega)
      clear c5
      (first | rw [c5b0] | (simp only [i64_w, i32_w]; rw [c5b0]) | skip)
      have H' := Aside0.mk H
      clear H
      go_wp2
      go_meet
      case rel => exact ⟨_, (true), (by first | rfl | (simp; done) | (simp [*]; done)), H', ⟨by first | omega | exact Nat.le_refl _⟩, ⟨by repeat (first | (with_reducible first | exact HB.out | apply below_alloc | apply pw_below_drewN | apply below_drew1) | exact HB.out)⟩⟩
    · rw [if_neg c5] at H
      have c5b0 : decide (2147483647 < (a1.size : Int)) = false := decide_eq_false c5
      have c5b1 : decide (2147483647 < a1.size) = false := decide_eq_false (by omega)
      clear c5
      (first | rw [c5b0] | (simp only [i64_w, i32_w]; rw [c5b0]) | skip)
      have H' := Aside0.mk H
      clear H
      go_wp2
      go_meet
      case rel => exact ⟨_, (decide ((l2.length : Int) > 2147483647)), (by first | rfl | (simp; done) | (simp [*]; done)), H', ⟨by first | omega | exact Nat.le_refl _⟩, ⟨by repeat (first | (with_reducible first | exact HB.out | apply below_alloc | apply pw_below_drewN | apply below_drew1) | exact HB.out)⟩⟩
  case rest =>
    clear HC4
    try clear c1
    try clear c2
    try clear p2
    try clear c5
    try clear c5b0
    try clear c5b1
    obtain ⟨kq, x25_3, rfl, HA, HJ3, HB⟩ := hcut
    cases kq with
    | zero => exact absurd HA.out (by simp [laws_FnRoad.j0])
    | succ kj3 =>
      have H := HA.out
      clear HA
      simp only [laws_FnRoad.j0] at H
      by_cases c6 : x25_3 = true
      · subst c6
        have H1 : (some true) = some r := by rw [if_pos rfl] at H; exact H
        clear H
        have H := H1
        clear H1
        obtain rfl := Option.some.inj H
        go_wp2
        go_ret
        exact ⟨by first | rfl | (simp [errW_none, errW_some] <;> rfl) | (simp [*, errW_none, errW_some] <;> rfl), by repeat (first | (with_reducible first | exact HB.out | apply below_alloc | apply pw_below_drewN | apply below_drew1) | exact HB.out)⟩
      · replace c6 := Bool.eq_false_iff.mpr c6
        subst c6
        have H1 : (if (a1.size : Int) > 1000 then (laws_FnRoad.j1 kj3 a0 a1 l2 true) else ((spec_ArgsRight.f kj3 l2).bind fun t346 => (if t346 = true then ((laws_marks9.f kj3 a1).bind fun t347 => (laws_FnRoad.j1 kj3 a0 a1 l2 (decide (t347 > 0)))) else (laws_FnRoad.j1 kj3 a0 a1 l2 true)))) = some r := by rw [if_neg (show ¬ (false = true) by decide)] at H; exact H
        clear H
        have H := H1
        clear H1
        have HC7 := Aside0.mk H
        clear H
        go_upto_region 3 with (fail)
        go_cut [38] (fun v38 wc => ∃ (kq : Nat) (x38_6 : Bool), v38 = .bool x38_6 ∧ Aside0 (laws_FnRoad.j1 kq a0 a1 l2 x38_6 = some r) ∧ Aside0 (kq ≤ kj3) ∧ Aside0 (Below w.heap.size w wc))
        case first =>
          have H := HC7.out
          clear HC7
          by_cases c8 : (a1.size : Int) > 1000
          · rw [if_pos c8] at H
            have c8b0 : decide (1000 < (a1.size : Int)) = true := decide_eq_true c8
            have c8b1 : decide (1000 < a1.size) = true := decide_eq_true (by omega)
            clear c8
            (first | rw [c8b0] | (simp only [i64_w, i32_w]; rw [c8b0]) | skip)
            have H' := Aside0.mk H
            clear H
            go_wp2
            go_meet
            case rel => exact ⟨_, (true), (by first | rfl | (simp; done) | (simp [*]; done)), H', ⟨by have := HJ3.out; first | omega | exact Nat.le_refl _⟩, ⟨by repeat (first | (with_reducible first | exact HB.out | apply below_alloc | apply pw_below_drewN | apply below_drew1) | exact HB.out)⟩⟩
          · rw [if_neg c8] at H
            have c8b0 : decide (1000 < (a1.size : Int)) = false := decide_eq_false c8
            have c8b1 : decide (1000 < a1.size) = false := decide_eq_false (by omega)
            clear c8
            (first | rw [c8b0] | (simp only [i64_w, i32_w]; rw [c8b0]) | skip)
            replace H := Option.bind_eq_some_iff.mp H
            obtain ⟨t346, A90, H⟩ := H
            replace H : (if t346 = true then ((laws_marks9.f kj3 a1).bind fun t347 => (laws_FnRoad.j1 kj3 a0 a1 l2 (decide (t347 > 0)))) else (laws_FnRoad.j1 kj3 a0 a1 l2 true)) = some r := H
            have A9 := Aside0.mk A90
            clear A90
            by_cases c10 : t346 = true
            · subst c10
              have H1 : ((laws_marks9.f kj3 a1).bind fun t347 => (laws_FnRoad.j1 kj3 a0 a1 l2 (decide (t347 > 0)))) = some r := by rw [if_pos rfl] at H; exact H
              clear H
              have H := H1
              clear H1
              replace H := Option.bind_eq_some_iff.mp H
              obtain ⟨t347, A110, H⟩ := H
              replace H : (laws_FnRoad.j1 kj3 a0 a1 l2 (decide (t347 > 0))) = some r := H
              have A11 := Aside0.mk A110
              clear A110
              have H' := Aside0.mk H
              clear H
              go_wp2_with (first | (go_at_call 34; (with_reducible refine (spec_ArgsRight.calls kj3 _ _ l2 true _ ?side1 ?side2 A9.out).mono ?_); (case side1 => repeat (first | exact (Kd.C_below HR2.out HB.out) | (with_reducible refine Kd.C_alloc ?_ _) | (with_reducible refine Kd.C_drewN ?_ _) | (with_reducible refine Kd.C_drew ?_))); (case side2 => exact HC2.out); rintro e w12 ⟨rfl, hb⟩; have n0_ := Aside0.mk (below_step (by repeat (first | (with_reducible first | exact HB.out | apply below_alloc | apply pw_below_drewN | apply below_drew1) | exact HB.out)) hb); clear HB; have HB := n0_; clear n0_; (try clear hb); (try clear hb2); (try clear hk); (try clear hi)) | (go_at_call 33; (with_reducible refine (laws_marks9.calls kj3 a1 t347 _ A11.out).mono ?_); rintro e w' ⟨rfl, ⟨nd, rfl⟩⟩))
              go_meet
              case rel => exact ⟨_, (decide (t347 > 0)), (by first | rfl | (simp; done) | (simp [*]; done)), H', ⟨by have := HJ3.out; first | omega | exact Nat.le_refl _⟩, ⟨by repeat (first | (with_reducible first | exact HB.out | apply below_alloc | apply pw_below_drewN | apply below_drew1) | exact HB.out)⟩⟩
            · replace c10 := Bool.eq_false_iff.mpr c10
              subst c10
              have H1 : (laws_FnRoad.j1 kj3 a0 a1 l2 true) = some r := by rw [if_neg (show ¬ (false = true) by decide)] at H; exact H
              clear H
              have H := H1
              clear H1
              have H' := Aside0.mk H
              clear H
              go_wp2_with (first | (go_at_call 34; (with_reducible refine (spec_ArgsRight.calls kj3 _ _ l2 false _ ?side1 ?side2 A9.out).mono ?_); (case side1 => repeat (first | exact (Kd.C_below HR2.out HB.out) | (with_reducible refine Kd.C_alloc ?_ _) | (with_reducible refine Kd.C_drewN ?_ _) | (with_reducible refine Kd.C_drew ?_))); (case side2 => exact HC2.out); rintro e w13 ⟨rfl, hb⟩; have n0_ := Aside0.mk (below_step (by repeat (first | (with_reducible first | exact HB.out | apply below_alloc | apply pw_below_drewN | apply below_drew1) | exact HB.out)) hb); clear HB; have HB := n0_; clear n0_; (try clear hb); (try clear hb2); (try clear hk); (try clear hi)))
              go_meet
              case rel => exact ⟨_, (true), (by first | rfl | (simp; done) | (simp [*]; done)), H', ⟨by have := HJ3.out; first | omega | exact Nat.le_refl _⟩, ⟨by repeat (first | (with_reducible first | exact HB.out | apply below_alloc | apply pw_below_drewN | apply below_drew1) | exact HB.out)⟩⟩
        case rest =>
          clear HC7
          try clear c1
          try clear c2
          try clear p2
          try clear c5
          try clear c5b0
          try clear c5b1
          try clear c6
          try clear c8
          try clear c8b0
          try clear c8b1
          try clear c10
          try clear p2
          obtain ⟨kq, x38_6, rfl, HA, HJ6, HB⟩ := hcut
          cases kq with
          | zero => exact absurd HA.out (by simp [laws_FnRoad.j1])
          | succ kj6 =>
            have H := HA.out
            clear HA
            simp only [laws_FnRoad.j1] at H
            by_cases c14 : x38_6 = true
            · subst c14
              have H1 : (some true) = some r := by rw [if_pos rfl] at H; exact H
              clear H
              have H := H1
              clear H1
              obtain rfl := Option.some.inj H
              go_wp2
              go_ret
              exact ⟨by first | rfl | (simp [errW_none, errW_some] <;> rfl) | (simp [*, errW_none, errW_some] <;> rfl), by repeat (first | (with_reducible first | exact HB.out | apply below_alloc | apply pw_below_drewN | apply below_drew1) | exact HB.out)⟩
            · replace c14 := Bool.eq_false_iff.mpr c14
              subst c14
              have H1 : ((spec_NamedOf.f kj6 1 a1 l2).bind fun bt348 => (if bt348.2.2.2 = true then (if bt348.2.2.1 = true then (laws_FnRoad.j2 kj6 a0 a1 l2 bt348.1 bt348.2.1 (decide ((bt348.2.1.length : Int) > 50))) else (laws_FnRoad.j2 kj6 a0 a1 l2 bt348.1 bt348.2.1 true)) else (laws_FnRoad.j2 kj6 a0 a1 l2 bt348.1 bt348.2.1 true))) = some r := by rw [if_neg (show ¬ (false = true) by decide)] at H; exact H
              clear H
              have H := H1
              clear H1
              replace H := Option.bind_eq_some_iff.mp H
              obtain ⟨⟨t348, t349, t352, t353⟩, A150, H⟩ := H
              replace H : (if t353 = true then (if t352 = true then (laws_FnRoad.j2 kj6 a0 a1 l2 t348 t349 (decide ((t349.length : Int) > 50))) else (laws_FnRoad.j2 kj6 a0 a1 l2 t348 t349 true)) else (laws_FnRoad.j2 kj6 a0 a1 l2 t348 t349 true)) = some r := H
              have A15 := Aside0.mk A150
              clear A150
              have HC16 := Aside0.mk H
              clear H
              go_upto_region 6 with (first | ((with_reducible refine gate_callee (f := 35) rfl ?_); refine goesL_ (some 42) rfl rfl Tryd.func35 (by kernel_rfl) rfl #[.int .i64 1, .string a1, .slice A2 l2.length c2] rfl (by (try simp only [List.map_toArray, List.map_cons, List.map_nil]); first | done | rfl | (simp only [List.length_drop, List.length_take]; rfl)) ?_; (with_reducible refine (spec_NamedOf.calls kj6 1 a1 (fun k_ => k_ < w.heap.size) _ _ l2 t348 t349 t352 t353 _ ?side1 A15.out).mono ?_); (case side1 => exact Kd.V_mk HC2.out (Kd.F_below (Kd.C_F k54_heap HR2.out) (by repeat (first | (with_reducible first | exact HB.out | apply below_alloc | apply pw_below_drewN | apply below_drew1) | exact HB.out)))); rintro e w17 ⟨v350, rfl, ho0, hb⟩; refine ⟨_, rfl, ?_⟩; have n0_ := Aside0.mk (Kd.N_lower (Kd.N_mono (ok' := fun k_ => True) ho0 (fun k_ hk_ => trivial)) (below_size (by repeat (first | (with_reducible first | exact HB.out | apply below_alloc | apply pw_below_drewN | apply below_drew1) | exact HB.out)))); have n1_ := Aside0.mk (below_step (by repeat (first | (with_reducible first | exact HB.out | apply below_alloc | apply pw_below_drewN | apply below_drew1) | exact HB.out)) hb); clear HB; have HO351 := n0_; have HB := n1_; clear n0_ n1_; (try clear hb); (try clear hb2); (try clear hk); (try clear hi); (try clear ho0)))
              (try simp only [Act.put, List.setIfInBounds_toArray, List.set_cons_zero, List.set_cons_succ])
              go_cut [57] (fun v57 wc => ∃ (kq : Nat) (x57_15 : Bool), v57 = .bool x57_15 ∧ Aside0 (laws_FnRoad.j2 kq a0 a1 l2 t348 t349 x57_15 = some r) ∧ Aside0 (kq ≤ kj6) ∧ Aside0 (Kd.N k52 52 wc w.heap.size (fun _ => True) v350 t349) ∧ Aside0 (Below w.heap.size w wc))
              case first =>
                have H := HC16.out
                clear HC16
                by_cases c18 : t353 = true
                · subst c18
                  have H1 : (if t352 = true then (laws_FnRoad.j2 kj6 a0 a1 l2 t348 t349 (decide ((t349.length : Int) > 50))) else (laws_FnRoad.j2 kj6 a0 a1 l2 t348 t349 true)) = some r := by rw [if_pos rfl] at H; exact H
                  clear H
                  have H := H1
                  clear H1
                  by_cases c19 : t352 = true
                  · subst c19
                    have H1 : (laws_FnRoad.j2 kj6 a0 a1 l2 t348 t349 (decide ((t349.length : Int) > 50))) = some r := by rw [if_pos rfl] at H; exact H
                    clear H
                    have H := H1
                    clear H1
                    have H' := Aside0.mk H
                    clear H
                    obtain ⟨Ao20, co20, eo20⟩ := Kd.N_slice HO351.out
                    subst eo20
                    go_wp2
                    go_meet
                    case rel => exact ⟨_, (decide ((t349.length : Int) > 50)), (by first | rfl | (simp; done) | (simp [*]; done)), H', ⟨by have := HJ3.out; have := HJ6.out; first | omega | exact Nat.le_refl _⟩, ⟨by (with_reducible repeat (first | apply Kd.N_alloc | apply Kd.N_drewN | apply Kd.N_drew)); exact HO351.out⟩, ⟨by repeat (first | (with_reducible first | exact HB.out | apply below_alloc | apply pw_below_drewN | apply below_drew1) | exact HB.out)⟩⟩
                  · replace c19 := Bool.eq_false_iff.mpr c19
                    subst c19
                    have H1 : (laws_FnRoad.j2 kj6 a0 a1 l2 t348 t349 true) = some r := by rw [if_neg (show ¬ (false = true) by decide)] at H; exact H
                    clear H
                    have H := H1
                    clear H1
                    have H' := Aside0.mk H
                    clear H
                    go_wp2
                    go_meet
                    case rel => exact ⟨_, (true), (by first | rfl | (simp; done) | (simp [*]; done)), H', ⟨by have := HJ3.out; have := HJ6.out; first | omega | exact Nat.le_refl _⟩, ⟨by (with_reducible repeat (first | apply Kd.N_alloc | apply Kd.N_drewN | apply Kd.N_drew)); exact HO351.out⟩, ⟨by repeat (first | (with_reducible first | exact HB.out | apply below_alloc | apply pw_below_drewN | apply below_drew1) | exact HB.out)⟩⟩
                · replace c18 := Bool.eq_false_iff.mpr c18
                  subst c18
                  have H1 : (laws_FnRoad.j2 kj6 a0 a1 l2 t348 t349 true) = some r := by rw [if_neg (show ¬ (false = true) by decide)] at H; exact H
                  clear H
                  have H := H1
                  clear H1
                  have H' := Aside0.mk H
                  clear H
                  go_wp2
                  go_meet
                  case rel => exact ⟨_, (true), (by first | rfl | (simp; done) | (simp [*]; done)), H', ⟨by have := HJ3.out; have := HJ6.out; first | omega | exact Nat.le_refl _⟩, ⟨by (with_reducible repeat (first | apply Kd.N_alloc | apply Kd.N_drewN | apply Kd.N_drew)); exact HO351.out⟩, ⟨by repeat (first | (with_reducible first | exact HB.out | apply below_alloc | apply pw_below_drewN | apply below_drew1) | exact HB.out)⟩⟩
              case rest =>
                clear HC16
                try clear c1
                try clear c2
                try clear p2
                try clear c3
                try clear c5
                try clear c5b0
                try clear c5b1
                try clear c6
                try clear c8
                try clear c8b0
                try clear c8b1
                try clear c10
                try clear c14
                try clear c17
                try clear c18
                try clear c19
                try clear p2
                obtain ⟨kq, x57_15, rfl, HA, HJ15, HO_8, HB⟩ := hcut
                cases kq with
                | zero => exact absurd HA.out (by simp [laws_FnRoad.j2])
                | succ kj15 =>
                  have H := HA.out
                  clear HA
                  simp only [laws_FnRoad.j2] at H
                  by_cases c21 : x57_15 = true
                  · subst c21
                    have H1 : (some true) = some r := by rw [if_pos rfl] at H; exact H
                    clear H
                    have H := H1
                    clear H1
                    obtain rfl := Option.some.inj H
                    go_wp2
                    go_ret
                    exact ⟨by first | rfl | (simp [errW_none, errW_some] <;> rfl) | (simp [*, errW_none, errW_some] <;> rfl), by repeat (first | (with_reducible first | exact HB.out | apply below_alloc | apply pw_below_drewN | apply below_drew1) | exact HB.out)⟩
                  · replace c21 := Bool.eq_false_iff.mpr c21
                    subst c21
                    have H1 : ((spec_Expanded.f kj15 t348 t349).bind fun bt354 => (if bt354.2.2 = true then ((impl_Named.f a1 l2).bind fun bt359 => ((impl_Expanded.f bt359.1 bt359.2.1).bind fun bt364 => ((laws_kind9.f a0).bind fun t369 => ((impl_Rebound.f t369 bt364.1).bind fun t370 => (if bt359.2.2 = true then (if bt364.2.2 = true then (if bt364.1.toList = bt354.1.toList then ((spec_EqualValues.f bt364.2.1 bt354.2.1).bind fun t371 => (if t371 = true then ((laws_marks9.f kj15 bt364.1).bind fun t372 => (if t372 = (bt364.2.1.length : Int) then ((laws_kind9.f a0).bind fun t373 => ((spec_Rebound.f kj15 t373 bt354.1).bind fun t374 => (some (t370.toList == t374.toList)))) else (some false))) else (some false))) else (some false)) else (some false)) else (some false)))))) else (some true))) = some r := by rw [if_neg (show ¬ (false = true) by decide)] at H; exact H
                    clear H
                    have H := H1
                    clear H1
                    replace H := Option.bind_eq_some_iff.mp H
                    obtain ⟨⟨t354, t355, t358⟩, A220, H⟩ := H
                    replace H : (if t358 = true then ((impl_Named.f a1 l2).bind fun bt359 => ((impl_Expanded.f bt359.1 bt359.2.1).bind fun bt364 => ((laws_kind9.f a0).bind fun t369 => ((impl_Rebound.f t369 bt364.1).bind fun t370 => (if bt359.2.2 = true then (if bt364.2.2 = true then (if bt364.1.toList = t354.toList then ((spec_EqualValues.f bt364.2.1 t355).bind fun t371 => (if t371 = true then ((laws_marks9.f kj15 bt364.1).bind fun t372 => (if t372 = (bt364.2.1.length : Int) then ((laws_kind9.f a0).bind fun t373 => ((spec_Rebound.f kj15 t373 t354).bind fun t374 => (some (t370.toList == t374.toList)))) else (some false))) else (some false))) else (some false)) else (some false)) else (some false)))))) else (some true)) = some r := H
                    have A22 := Aside0.mk A220
                    clear A220
                    by_cases c23 : t358 = true
                    · subst c23
                      have H1 : ((impl_Named.f a1 l2).bind fun bt359 => ((impl_Expanded.f bt359.1 bt359.2.1).bind fun bt364 => ((laws_kind9.f a0).bind fun t369 => ((impl_Rebound.f t369 bt364.1).bind fun t370 => (if bt359.2.2 = true then (if bt364.2.2 = true then (if bt364.1.toList = t354.toList then ((spec_EqualValues.f bt364.2.1 t355).bind fun t371 => (if t371 = true then ((laws_marks9.f kj15 bt364.1).bind fun t372 => (if t372 = (bt364.2.1.length : Int) then ((laws_kind9.f a0).bind fun t373 => ((spec_Rebound.f kj15 t373 t354).bind fun t374 => (some (t370.toList == t374.toList)))) else (some false))) else (some false))) else (some false)) else (some false)) else (some false)))))) = some r := by rw [if_pos rfl] at H; exact H
                      clear H
                      have H := H1
                      clear H1
                      replace H := Option.bind_eq_some_iff.mp H
                      obtain ⟨⟨t359, t360, t361⟩, A240, H⟩ := H
                      replace H : ((impl_Expanded.f t359 t360).bind fun bt364 => ((laws_kind9.f a0).bind fun t369 => ((impl_Rebound.f t369 bt364.1).bind fun t370 => (if t361 = true then (if bt364.2.2 = true then (if bt364.1.toList = t354.toList then ((spec_EqualValues.f bt364.2.1 t355).bind fun t371 => (if t371 = true then ((laws_marks9.f kj15 bt364.1).bind fun t372 => (if t372 = (bt364.2.1.length : Int) then ((laws_kind9.f a0).bind fun t373 => ((spec_Rebound.f kj15 t373 t354).bind fun t374 => (some (t370.toList == t374.toList)))) else (some false))) else (some false))) else (some false)) else (some false)) else (some false))))) = some r := H
                      have A24 := Aside0.mk A240
                      clear A240
                      replace H := Option.bind_eq_some_iff.mp H
                      obtain ⟨⟨t364, t365, t366⟩, A250, H⟩ := H
                      replace H : ((laws_kind9.f a0).bind fun t369 => ((impl_Rebound.f t369 t364).bind fun t370 => (if t361 = true then (if t366 = true then (if t364.toList = t354.toList then ((spec_EqualValues.f t365 t355).bind fun t371 => (if t371 = true then ((laws_marks9.f kj15 t364).bind fun t372 => (if t372 = (t365.length : Int) then ((laws_kind9.f a0).bind fun t373 => ((spec_Rebound.f kj15 t373 t354).bind fun t374 => (some (t370.toList == t374.toList)))) else (some false))) else (some false))) else (some false)) else (some false)) else (some false)))) = some r := H
                      have A25 := Aside0.mk A250
                      clear A250
                      replace H := Option.bind_eq_some_iff.mp H
                      obtain ⟨t369, A260, H⟩ := H
                      replace H : ((impl_Rebound.f t369 t364).bind fun t370 => (if t361 = true then (if t366 = true then (if t364.toList = t354.toList then ((spec_EqualValues.f t365 t355).bind fun t371 => (if t371 = true then ((laws_marks9.f kj15 t364).bind fun t372 => (if t372 = (t365.length : Int) then ((laws_kind9.f a0).bind fun t373 => ((spec_Rebound.f kj15 t373 t354).bind fun t374 => (some (t370.toList == t374.toList)))) else (some false))) else (some false))) else (some false)) else (some false)) else (some false))) = some r := H
                      have A26 := Aside0.mk A260
                      clear A260
                      replace H := Option.bind_eq_some_iff.mp H
                      obtain ⟨t370, A270, H⟩ := H
                      replace H : (if t361 = true then (if t366 = true then (if t364.toList = t354.toList then ((spec_EqualValues.f t365 t355).bind fun t371 => (if t371 = true then ((laws_marks9.f kj15 t364).bind fun t372 => (if t372 = (t365.length : Int) then ((laws_kind9.f a0).bind fun t373 => ((spec_Rebound.f kj15 t373 t354).bind fun t374 => (some (t370.toList == t374.toList)))) else (some false))) else (some false))) else (some false)) else (some false)) else (some false)) = some r := H
                      have A27 := Aside0.mk A270
                      clear A270
                      by_cases c28 : t361 = true
                      · subst c28
                        have H1 : (if t366 = true then (if t364.toList = t354.toList then ((spec_EqualValues.f t365 t355).bind fun t371 => (if t371 = true then ((laws_marks9.f kj15 t364).bind fun t372 => (if t372 = (t365.length : Int) then ((laws_kind9.f a0).bind fun t373 => ((spec_Rebound.f kj15 t373 t354).bind fun t374 => (some (t370.toList == t374.toList)))) else (some false))) else (some false))) else (some false)) else (some false)) = some r := by rw [if_pos rfl] at H; exact H
                        clear H
                        have H := H1
                        clear H1
                        by_cases c29 : t366 = true
                        · subst c29
                          have H1 : (if t364.toList = t354.toList then ((spec_EqualValues.f t365 t355).bind fun t371 => (if t371 = true then ((laws_marks9.f kj15 t364).bind fun t372 => (if t372 = (t365.length : Int) then ((laws_kind9.f a0).bind fun t373 => ((spec_Rebound.f kj15 t373 t354).bind fun t374 => (some (t370.toList == t374.toList)))) else (some false))) else (some false))) else (some false)) = some r := by rw [if_pos rfl] at H; exact H
                          clear H
                          have H := H1
                          clear H1
                          by_cases c30 : t364.toList = t354.toList
                          · rw [if_pos c30] at H
                            have c30b0 : (t364.toList == t354.toList) = true := beq_iff_eq.mpr c30
                            have c30b1 : (t364.toList != t354.toList) = false := bne_eq_false_iff_eq.mpr c30
                            clear c30
                            replace H := Option.bind_eq_some_iff.mp H
                            obtain ⟨t371, A310, H⟩ := H
                            replace H : (if t371 = true then ((laws_marks9.f kj15 t364).bind fun t372 => (if t372 = (t365.length : Int) then ((laws_kind9.f a0).bind fun t373 => ((spec_Rebound.f kj15 t373 t354).bind fun t374 => (some (t370.toList == t374.toList)))) else (some false))) else (some false)) = some r := H
                            have A31 := Aside0.mk A310
                            clear A310
                            by_cases c32 : t371 = true
                            · subst c32
                              have H1 : ((laws_marks9.f kj15 t364).bind fun t372 => (if t372 = (t365.length : Int) then ((laws_kind9.f a0).bind fun t373 => ((spec_Rebound.f kj15 t373 t354).bind fun t374 => (some (t370.toList == t374.toList)))) else (some false))) = some r := by rw [if_pos rfl] at H; exact H
                              clear H
                              have H := H1
                              clear H1
                              replace H := Option.bind_eq_some_iff.mp H
                              obtain ⟨t372, A330, H⟩ := H
                              replace H : (if t372 = (t365.length : Int) then ((laws_kind9.f a0).bind fun t373 => ((spec_Rebound.f kj15 t373 t354).bind fun t374 => (some (t370.toList == t374.toList)))) else (some false)) = some r := H
                              have A33 := Aside0.mk A330
                              clear A330
                              by_cases c34 : t372 = (t365.length : Int)
                              · rw [if_pos c34] at H
                                have c34b0 : (t372 == (t365.length : Int)) = true := beq_iff_eq.mpr c34
                                have c34b1 : (t372 != (t365.length : Int)) = false := bne_eq_false_iff_eq.mpr c34
                                clear c34
                                replace H := Option.bind_eq_some_iff.mp H
                                obtain ⟨t373, A350, H⟩ := H
                                replace H : ((spec_Rebound.f kj15 t373 t354).bind fun t374 => (some (t370.toList == t374.toList))) = some r := H
                                have A35 := Aside0.mk A350
                                clear A350
                                replace H := Option.bind_eq_some_iff.mp H
                                obtain ⟨t374, A360, H⟩ := H
                                replace H : (some (t370.toList == t374.toList)) = some r := H
                                have A36 := Aside0.mk A360
                                clear A360
                                obtain rfl := Option.some.inj H
                                obtain ⟨Ao37, co37, eo37⟩ := Kd.N_slice HO_8.out
                                subst eo37
                                go_wp2_with (first | ((with_reducible refine gate_callee (f := 44) rfl ?_); refine goesL_ (some 61) rfl rfl Tryd.func44 (by kernel_rfl) rfl #[.string t348, .slice Ao37 t349.length co37] rfl (by (try simp only [List.map_toArray, List.map_cons, List.map_nil]); first | done | rfl | (simp only [List.length_drop, List.length_take]; rfl)) ?_; (with_reducible refine (spec_Expanded.calls kj15 t348 (fun k_ => True) _ _ t349 t354 t355 true _ ?side1 A22.out).mono ?_); (case side1 => exact Kd.N_V (HO_8.out)); rintro e w38 ⟨v356, rfl, ho0, hb⟩; refine ⟨_, rfl, ?_⟩; have n0_ := Aside0.mk (Kd.N_below (by (with_reducible repeat (first | apply Kd.N_alloc | apply Kd.N_drewN | apply Kd.N_drew)); exact HO_8.out) hb); have n1_ := Aside0.mk (Kd.V_lower (Kd.V_mono (ok' := fun k_ => True) ho0 (fun k_ hk_ => trivial)) (below_size (by repeat (first | (with_reducible first | exact HB.out | apply below_alloc | apply pw_below_drewN | apply below_drew1) | exact HB.out)))); have n2_ := Aside0.mk (below_step (by repeat (first | (with_reducible first | exact HB.out | apply below_alloc | apply pw_below_drewN | apply below_drew1) | exact HB.out)) hb); clear HO_8; clear HB; have HO_8 := n0_; have HO357 := n1_; have HB := n2_; clear n0_ n1_ n2_; (try clear hb); (try clear hb2); (try clear hk); (try clear hi); (try clear ho0)) | ((with_reducible refine gate_callee (f := 38) rfl ?_); refine goesL_ (some 70) rfl rfl Tryd.func38 (by kernel_rfl) rfl #[.string a1, .slice A2 l2.length c2] rfl (by (try simp only [List.map_toArray, List.map_cons, List.map_nil]); first | done | rfl | (simp only [List.length_drop, List.length_take]; rfl)) ?_; (with_reducible refine (impl_Named.calls a1 _ _ l2 t359 t360 true _ (tab_at HT_.out (by repeat (first | (with_reducible first | exact HB.out | apply below_alloc | apply pw_below_drewN | apply below_drew1) | exact HB.out))) ?side1 ?side2 A24.out).mono ?_); (case side1 => repeat (first | exact (Kd.C_below HR2.out HB.out) | (with_reducible refine Kd.C_alloc ?_ _) | (with_reducible refine Kd.C_drewN ?_ _) | (with_reducible refine Kd.C_drew ?_))); (case side2 => exact HC2.out); rintro e w39 ⟨v362, rfl, ho0, hb⟩; refine ⟨_, rfl, ?_⟩; have n0_ := Aside0.mk (Kd.N_elder' (by (with_reducible repeat (first | apply Kd.N_alloc | apply Kd.N_drewN | apply Kd.N_drew)); exact HO_8.out) (Kd.N_base (Kd.R_N ho0)) hb); have n1_ := Aside0.mk (Kd.V_elder' (by (with_reducible repeat (first | apply Kd.V_alloc | apply Kd.V_drewN | apply Kd.V_drew)); exact HO357.out) (Kd.N_base (Kd.R_N ho0)) hb); have n2_ := Aside0.mk (Kd.N_lower (Kd.N_mono (ok' := fun k_ => some k_ ≠ (.slice Ao37 t349.length co37 : Value).ownBlock) (Kd.R_N (Kd.R_bound ho0)) (fun k_ hk_ => (Kd.fresh' (Kd.N_lt (by (with_reducible repeat (first | apply Kd.N_alloc | apply Kd.N_drewN | apply Kd.N_drew)); exact HO_8.out)) k_ hk_.2.1))) (below_size (by repeat (first | (with_reducible first | exact HB.out | apply below_alloc | apply pw_below_drewN | apply below_drew1) | exact HB.out)))); have n3_ := Aside0.mk (below_step (by repeat (first | (with_reducible first | exact HB.out | apply below_alloc | apply pw_below_drewN | apply below_drew1) | exact HB.out)) hb); clear HO_8; clear HO357; clear HB; have HO_8 := n0_; have HO357 := n1_; have HO363 := n2_; have HB := n3_; clear n0_ n1_ n2_ n3_; (try clear hb); (try clear hb2); (try clear hk); (try clear hi); (try clear ho0); obtain ⟨Ao40, co40, eo40⟩ := Kd.N_slice HO363.out; subst eo40) | ((with_reducible refine gate_callee (f := 45) rfl ?_); refine goesL_ (some 77) rfl rfl Tryd.func45 (by kernel_rfl) rfl #[.string t359, .slice Ao40 t360.length co40] rfl (by (try simp only [List.map_toArray, List.map_cons, List.map_nil]); first | done | rfl | (simp only [List.length_drop, List.length_take]; rfl)) ?_; (with_reducible refine (impl_Expanded.calls t359 _ _ t360 t364 t365 true _ ?side1 ?side2 A25.out).mono ?_); (case side1 => repeat (first | exact (Kd.N_reads' HO363.out).2.2 | (with_reducible refine Kd.C_alloc ?_ _) | (with_reducible refine Kd.C_drewN ?_ _) | (with_reducible refine Kd.C_drew ?_))); (case side2 => exact (Kd.N_reads' HO363.out).2.1); rintro e w41 ⟨v367, rfl, ho0, hb⟩; refine ⟨_, rfl, ?_⟩; have n0_ := Aside0.mk (Kd.N_elder' (by (with_reducible repeat (first | apply Kd.N_alloc | apply Kd.N_drewN | apply Kd.N_drew)); exact HO_8.out) (Kd.N_base (Kd.R_N ho0)) hb); have n1_ := Aside0.mk (Kd.V_elder' (by (with_reducible repeat (first | apply Kd.V_alloc | apply Kd.V_drewN | apply Kd.V_drew)); exact HO357.out) (Kd.N_base (Kd.R_N ho0)) hb); have n2_ := Aside0.mk (Kd.N_elder' (by (with_reducible repeat (first | apply Kd.N_alloc | apply Kd.N_drewN | apply Kd.N_drew)); exact HO363.out) (Kd.N_base (Kd.R_N ho0)) hb); have n3_ := Aside0.mk (Kd.N_lower (Kd.N_mono (ok' := fun k_ => some k_ ≠ (.slice Ao37 t349.length co37 : Value).ownBlock ∧ some k_ ≠ (.slice Ao40 t360.length co40 : Value).ownBlock) (Kd.R_N (Kd.R_bound ho0)) (fun k_ hk_ => ⟨(Kd.fresh' (Kd.N_lt (by (with_reducible repeat (first | apply Kd.N_alloc | apply Kd.N_drewN | apply Kd.N_drew)); exact HO_8.out)) k_ hk_.2.1), (Kd.fresh' (Kd.N_lt (by (with_reducible repeat (first | apply Kd.N_alloc | apply Kd.N_drewN | apply Kd.N_drew)); exact HO363.out)) k_ hk_.2.1)⟩)) (below_size (by repeat (first | (with_reducible first | exact HB.out | apply below_alloc | apply pw_below_drewN | apply below_drew1) | exact HB.out)))); have n4_ := Aside0.mk (below_step (by repeat (first | (with_reducible first | exact HB.out | apply below_alloc | apply pw_below_drewN | apply below_drew1) | exact HB.out)) hb); clear HO_8; clear HO357; clear HO363; clear HB; have HO_8 := n0_; have HO357 := n1_; have HO363 := n2_; have HO368 := n3_; have HB := n4_; clear n0_ n1_ n2_ n3_ n4_; (try clear hb); (try clear hb2); (try clear hk); (try clear hi); (try clear ho0)) | ((with_reducible refine gate_callee (f := 24) rfl ?_); refine goesL_ (some 82) rfl rfl Tryd.func24 (by kernel_rfl) rfl #[.int .u8 a0] rfl (by (try simp only [List.map_toArray, List.map_cons, List.map_nil]); first | done | rfl | (simp only [List.length_drop, List.length_take]; rfl)) ?_; (with_reducible refine (laws_kind9.calls a0 t369 _ A26.out).mono ?_); rintro e w' ⟨rfl, ⟨nd, rfl⟩⟩; refine ⟨_, rfl, ?_⟩) | ((with_reducible refine gate_callee (f := 23) rfl ?_); refine goesL_ (some 84) rfl rfl Tryd.func23 (by kernel_rfl) rfl #[.int .i64 t369, .string t364] rfl (by (try simp only [List.map_toArray, List.map_cons, List.map_nil]); first | done | rfl | (simp only [List.length_drop, List.length_take]; rfl)) ?_; (with_reducible refine (impl_Rebound.calls t369 t364 t370 _ (tab_at HT_.out (by repeat (first | (with_reducible first | exact HB.out | apply below_alloc | apply pw_below_drewN | apply below_drew1) | exact HB.out))) A27.out).mono ?_); rintro e w42 ⟨rfl, hb⟩; refine ⟨_, rfl, ?_⟩; have n0_ := Aside0.mk (Kd.N_below (by (with_reducible repeat (first | apply Kd.N_alloc | apply Kd.N_drewN | apply Kd.N_drew)); exact HO_8.out) hb); have n1_ := Aside0.mk (Kd.V_below (by (with_reducible repeat (first | apply Kd.V_alloc | apply Kd.V_drewN | apply Kd.V_drew)); exact HO357.out) hb); have n2_ := Aside0.mk (Kd.N_below (by (with_reducible repeat (first | apply Kd.N_alloc | apply Kd.N_drewN | apply Kd.N_drew)); exact HO363.out) hb); have n3_ := Aside0.mk (Kd.N_below (by (with_reducible repeat (first | apply Kd.N_alloc | apply Kd.N_drewN | apply Kd.N_drew)); exact HO368.out) hb); have n4_ := Aside0.mk (below_step (by repeat (first | (with_reducible first | exact HB.out | apply below_alloc | apply pw_below_drewN | apply below_drew1) | exact HB.out)) hb); clear HO_8; clear HO357; clear HO363; clear HO368; clear HB; have HO_8 := n0_; have HO357 := n1_; have HO363 := n2_; have HO368 := n3_; have HB := n4_; clear n0_ n1_ n2_ n3_ n4_; (try clear hb); (try clear hb2); (try clear hk); (try clear hi); obtain ⟨Ao43, co43, eo43⟩ := Kd.N_slice HO368.out; subst eo43; obtain ⟨Ao44, co44, eo44⟩ := Kd.V_slice HO357.out; subst eo44) | (go_at_call 37; (with_reducible refine (spec_EqualValues.calls _ _ t365 _ _ t355 true _ ?side1 ?side2 ?side3 ?side4 A31.out).mono ?_); (case side1 => repeat (first | exact (Kd.N_reads' HO368.out).2.2 | (with_reducible refine Kd.C_alloc ?_ _) | (with_reducible refine Kd.C_drewN ?_ _) | (with_reducible refine Kd.C_drew ?_))); (case side2 => exact (Kd.N_reads' HO368.out).2.1); (case side3 => repeat (first | exact (Kd.V_reads' HO357.out).2.2 | (with_reducible refine Kd.C_alloc ?_ _) | (with_reducible refine Kd.C_drewN ?_ _) | (with_reducible refine Kd.C_drew ?_))); (case side4 => exact (Kd.V_reads' HO357.out).2.1); rintro e w45 ⟨rfl, hb⟩; have n0_ := Aside0.mk (Kd.N_below (by (with_reducible repeat (first | apply Kd.N_alloc | apply Kd.N_drewN | apply Kd.N_drew)); exact HO_8.out) hb); have n1_ := Aside0.mk (Kd.V_below (by (with_reducible repeat (first | apply Kd.V_alloc | apply Kd.V_drewN | apply Kd.V_drew)); exact HO357.out) hb); have n2_ := Aside0.mk (Kd.N_below (by (with_reducible repeat (first | apply Kd.N_alloc | apply Kd.N_drewN | apply Kd.N_drew)); exact HO363.out) hb); have n3_ := Aside0.mk (Kd.N_below (by (with_reducible repeat (first | apply Kd.N_alloc | apply Kd.N_drewN | apply Kd.N_drew)); exact HO368.out) hb); have n4_ := Aside0.mk (below_step (by repeat (first | (with_reducible first | exact HB.out | apply below_alloc | apply pw_below_drewN | apply below_drew1) | exact HB.out)) hb); clear HO_8; clear HO357; clear HO363; clear HO368; clear HB; have HO_8 := n0_; have HO357 := n1_; have HO363 := n2_; have HO368 := n3_; have HB := n4_; clear n0_ n1_ n2_ n3_ n4_; (try clear hb); (try clear hb2); (try clear hk); (try clear hi)) | (go_at_call 33; (with_reducible refine (laws_marks9.calls kj15 t364 t372 _ A33.out).mono ?_); rintro e w' ⟨rfl, ⟨nd, rfl⟩⟩) | (go_at_call 24; (with_reducible refine (laws_kind9.calls a0 t373 _ A35.out).mono ?_); rintro e w' ⟨rfl, ⟨nd, rfl⟩⟩) | (go_at_call 25; (with_reducible refine (spec_Rebound.calls kj15 t373 t354 t374 _ A36.out).mono ?_); rintro e w46 ⟨rfl, hb⟩; have n0_ := Aside0.mk (Kd.N_below (by (with_reducible repeat (first | apply Kd.N_alloc | apply Kd.N_drewN | apply Kd.N_drew)); exact HO_8.out) hb); have n1_ := Aside0.mk (Kd.V_below (by (with_reducible repeat (first | apply Kd.V_alloc | apply Kd.V_drewN | apply Kd.V_drew)); exact HO357.out) hb); have n2_ := Aside0.mk (Kd.N_below (by (with_reducible repeat (first | apply Kd.N_alloc | apply Kd.N_drewN | apply Kd.N_drew)); exact HO363.out) hb); have n3_ := Aside0.mk (Kd.N_below (by (with_reducible repeat (first | apply Kd.N_alloc | apply Kd.N_drewN | apply Kd.N_drew)); exact HO368.out) hb); have n4_ := Aside0.mk (below_step (by repeat (first | (with_reducible first | exact HB.out | apply below_alloc | apply pw_below_drewN | apply below_drew1) | exact HB.out)) hb); clear HO_8; clear HO357; clear HO363; clear HO368; clear HB; have HO_8 := n0_; have HO357 := n1_; have HO363 := n2_; have HO368 := n3_; have HB := n4_; clear n0_ n1_ n2_ n3_ n4_; (try clear hb); (try clear hb2); (try clear hk); (try clear hi)))
                                go_ret
                                exact ⟨by first | rfl | (simp [errW_none, errW_some] <;> rfl) | (simp [*, errW_none, errW_some] <;> rfl), by repeat (first | (with_reducible first | exact HB.out | apply below_alloc | apply pw_below_drewN | apply below_drew1) | exact HB.out)⟩
                              · rw [if_neg c34] at H
                                have c34b0 : (t372 == (t365.length : Int)) = false := beq_eq_false_iff_ne.mpr c34
                                have c34b1 : (t372 != (t365.length : Int)) = true := bne_iff_ne.mpr c34
                                obtain rfl := Option.some.inj H
                                obtain ⟨Ao47, co47, eo47⟩ := Kd.N_slice HO_8.out
                                subst eo47
                                go_wp2_with (first | ((with_reducible refine gate_callee (f := 44) rfl ?_); refine goesL_ (some 61) rfl rfl Tryd.func44 (by kernel_rfl) rfl #[.string t348, .slice Ao47 t349.length co47] rfl (by (try simp only [List.map_toArray, List.map_cons, List.map_nil]); first | done | rfl | (simp only [List.length_drop, List.length_take]; rfl)) ?_; (with_reducible refine (spec_Expanded.calls kj15 t348 (fun k_ => True) _ _ t349 t354 t355 true _ ?side1 A22.out).mono ?_); (case side1 => exact Kd.N_V (HO_8.out)); rintro e w48 ⟨v356, rfl, ho0, hb⟩; refine ⟨_, rfl, ?_⟩; have n0_ := Aside0.mk (Kd.N_below (by (with_reducible repeat (first | apply Kd.N_alloc | apply Kd.N_drewN | apply Kd.N_drew)); exact HO_8.out) hb); have n1_ := Aside0.mk (Kd.V_lower (Kd.V_mono (ok' := fun k_ => True) ho0 (fun k_ hk_ => trivial)) (below_size (by repeat (first | (with_reducible first | exact HB.out | apply below_alloc | apply pw_below_drewN | apply below_drew1) | exact HB.out)))); have n2_ := Aside0.mk (below_step (by repeat (first | (with_reducible first | exact HB.out | apply below_alloc | apply pw_below_drewN | apply below_drew1) | exact HB.out)) hb); clear HO_8; clear HB; have HO_8 := n0_; have HO357 := n1_; have HB := n2_; clear n0_ n1_ n2_; (try clear hb); (try clear hb2); (try clear hk); (try clear hi); (try clear ho0)) | ((with_reducible refine gate_callee (f := 38) rfl ?_); refine goesL_ (some 70) rfl rfl Tryd.func38 (by kernel_rfl) rfl #[.string a1, .slice A2 l2.length c2] rfl (by (try simp only [List.map_toArray, List.map_cons, List.map_nil]); first | done | rfl | (simp only [List.length_drop, List.length_take]; rfl)) ?_; (with_reducible refine (impl_Named.calls a1 _ _ l2 t359 t360 true _ (tab_at HT_.out (by repeat (first | (with_reducible first | exact HB.out | apply below_alloc | apply pw_below_drewN | apply below_drew1) | exact HB.out))) ?side1 ?side2 A24.out).mono ?_); (case side1 => repeat (first | exact (Kd.C_below HR2.out HB.out) | (with_reducible refine Kd.C_alloc ?_ _) | (with_reducible refine Kd.C_drewN ?_ _) | (with_reducible refine Kd.C_drew ?_))); (case side2 => exact HC2.out); rintro e w49 ⟨v362, rfl, ho0, hb⟩; refine ⟨_, rfl, ?_⟩; have n0_ := Aside0.mk (Kd.N_elder' (by (with_reducible repeat (first | apply Kd.N_alloc | apply Kd.N_drewN | apply Kd.N_drew)); exact HO_8.out) (Kd.N_base (Kd.R_N ho0)) hb); have n1_ := Aside0.mk (Kd.V_elder' (by (with_reducible repeat (first | apply Kd.V_alloc | apply Kd.V_drewN | apply Kd.V_drew)); exact HO357.out) (Kd.N_base (Kd.R_N ho0)) hb); have n2_ := Aside0.mk (Kd.N_lower (Kd.N_mono (ok' := fun k_ => some k_ ≠ (.slice Ao47 t349.length co47 : Value).ownBlock) (Kd.R_N (Kd.R_bound ho0)) (fun k_ hk_ => (Kd.fresh' (Kd.N_lt (by (with_reducible repeat (first | apply Kd.N_alloc | apply Kd.N_drewN | apply Kd.N_drew)); exact HO_8.out)) k_ hk_.2.1))) (below_size (by repeat (first | (with_reducible first | exact HB.out | apply below_alloc | apply pw_below_drewN | apply below_drew1) | exact HB.out)))); have n3_ := Aside0.mk (below_step (by repeat (first | (with_reducible first | exact HB.out | apply below_alloc | apply pw_below_drewN | apply below_drew1) | exact HB.out)) hb); clear HO_8; clear HO357; clear HB; have HO_8 := n0_; have HO357 := n1_; have HO363 := n2_; have HB := n3_; clear n0_ n1_ n2_ n3_; (try clear hb); (try clear hb2); (try clear hk); (try clear hi); (try clear ho0); obtain ⟨Ao50, co50, eo50⟩ := Kd.N_slice HO363.out; subst eo50) | ((with_reducible refine gate_callee (f := 45) rfl ?_); refine goesL_ (some 77) rfl rfl Tryd.func45 (by kernel_rfl) rfl #[.string t359, .slice Ao50 t360.length co50] rfl (by (try simp only [List.map_toArray, List.map_cons, List.map_nil]); first | done | rfl | (simp only [List.length_drop, List.length_take]; rfl)) ?_; (with_reducible refine (impl_Expanded.calls t359 _ _ t360 t364 t365 true _ ?side1 ?side2 A25.out).mono ?_); (case side1 => repeat (first | exact (Kd.N_reads' HO363.out).2.2 | (with_reducible refine Kd.C_alloc ?_ _) | (with_reducible refine Kd.C_drewN ?_ _) | (with_reducible refine Kd.C_drew ?_))); (case side2 => exact (Kd.N_reads' HO363.out).2.1); rintro e w51 ⟨v367, rfl, ho0, hb⟩; refine ⟨_, rfl, ?_⟩; have n0_ := Aside0.mk (Kd.N_elder' (by (with_reducible repeat (first | apply Kd.N_alloc | apply Kd.N_drewN | apply Kd.N_drew)); exact HO_8.out) (Kd.N_base (Kd.R_N ho0)) hb); have n1_ := Aside0.mk (Kd.V_elder' (by (with_reducible repeat (first | apply Kd.V_alloc | apply Kd.V_drewN | apply Kd.V_drew)); exact HO357.out) (Kd.N_base (Kd.R_N ho0)) hb); have n2_ := Aside0.mk (Kd.N_elder' (by (with_reducible repeat (first | apply Kd.N_alloc | apply Kd.N_drewN | apply Kd.N_drew)); exact HO363.out) (Kd.N_base (Kd.R_N ho0)) hb); have n3_ := Aside0.mk (Kd.N_lower (Kd.N_mono (ok' := fun k_ => some k_ ≠ (.slice Ao47 t349.length co47 : Value).ownBlock ∧ some k_ ≠ (.slice Ao50 t360.length co50 : Value).ownBlock) (Kd.R_N (Kd.R_bound ho0)) (fun k_ hk_ => ⟨(Kd.fresh' (Kd.N_lt (by (with_reducible repeat (first | apply Kd.N_alloc | apply Kd.N_drewN | apply Kd.N_drew)); exact HO_8.out)) k_ hk_.2.1), (Kd.fresh' (Kd.N_lt (by (with_reducible repeat (first | apply Kd.N_alloc | apply Kd.N_drewN | apply Kd.N_drew)); exact HO363.out)) k_ hk_.2.1)⟩)) (below_size (by repeat (first | (with_reducible first | exact HB.out | apply below_alloc | apply pw_below_drewN | apply below_drew1) | exact HB.out)))); have n4_ := Aside0.mk (below_step (by repeat (first | (with_reducible first | exact HB.out | apply below_alloc | apply pw_below_drewN | apply below_drew1) | exact HB.out)) hb); clear HO_8; clear HO357; clear HO363; clear HB; have HO_8 := n0_; have HO357 := n1_; have HO363 := n2_; have HO368 := n3_; have HB := n4_; clear n0_ n1_ n2_ n3_ n4_; (try clear hb); (try clear hb2); (try clear hk); (try clear hi); (try clear ho0)) | ((with_reducible refine gate_callee (f := 24) rfl ?_); refine goesL_ (some 82) rfl rfl Tryd.func24 (by kernel_rfl) rfl #[.int .u8 a0] rfl (by (try simp only [List.map_toArray, List.map_cons, List.map_nil]); first | done | rfl | (simp only [List.length_drop, List.length_take]; rfl)) ?_; (with_reducible refine (laws_kind9.calls a0 t369 _ A26.out).mono ?_); rintro e w' ⟨rfl, ⟨nd, rfl⟩⟩; refine ⟨_, rfl, ?_⟩) | ((with_reducible refine gate_callee (f := 23) rfl ?_); refine goesL_ (some 84) rfl rfl Tryd.func23 (by kernel_rfl) rfl #[.int .i64 t369, .string t364] rfl (by (try simp only [List.map_toArray, List.map_cons, List.map_nil]); first | done | rfl | (simp only [List.length_drop, List.length_take]; rfl)) ?_; (with_reducible refine (impl_Rebound.calls t369 t364 t370 _ (tab_at HT_.out (by repeat (first | (with_reducible first | exact HB.out | apply below_alloc | apply pw_below_drewN | apply below_drew1) | exact HB.out))) A27.out).mono ?_); rintro e w52 ⟨rfl, hb⟩; refine ⟨_, rfl, ?_⟩; have n0_ := Aside0.mk (Kd.N_below (by (with_reducible repeat (first | apply Kd.N_alloc | apply Kd.N_drewN | apply Kd.N_drew)); exact HO_8.out) hb); have n1_ := Aside0.mk (Kd.V_below (by (with_reducible repeat (first | apply Kd.V_alloc | apply Kd.V_drewN | apply Kd.V_drew)); exact HO357.out) hb); have n2_ := Aside0.mk (Kd.N_below (by (with_reducible repeat (first | apply Kd.N_alloc | apply Kd.N_drewN | apply Kd.N_drew)); exact HO363.out) hb); have n3_ := Aside0.mk (Kd.N_below (by (with_reducible repeat (first | apply Kd.N_alloc | apply Kd.N_drewN | apply Kd.N_drew)); exact HO368.out) hb); have n4_ := Aside0.mk (below_step (by repeat (first | (with_reducible first | exact HB.out | apply below_alloc | apply pw_below_drewN | apply below_drew1) | exact HB.out)) hb); clear HO_8; clear HO357; clear HO363; clear HO368; clear HB; have HO_8 := n0_; have HO357 := n1_; have HO363 := n2_; have HO368 := n3_; have HB := n4_; clear n0_ n1_ n2_ n3_ n4_; (try clear hb); (try clear hb2); (try clear hk); (try clear hi); obtain ⟨Ao53, co53, eo53⟩ := Kd.N_slice HO368.out; subst eo53; obtain ⟨Ao54, co54, eo54⟩ := Kd.V_slice HO357.out; subst eo54) | (go_at_call 37; (with_reducible refine (spec_EqualValues.calls _ _ t365 _ _ t355 true _ ?side1 ?side2 ?side3 ?side4 A31.out).mono ?_); (case side1 => repeat (first | exact (Kd.N_reads' HO368.out).2.2 | (with_reducible refine Kd.C_alloc ?_ _) | (with_reducible refine Kd.C_drewN ?_ _) | (with_reducible refine Kd.C_drew ?_))); (case side2 => exact (Kd.N_reads' HO368.out).2.1); (case side3 => repeat (first | exact (Kd.V_reads' HO357.out).2.2 | (with_reducible refine Kd.C_alloc ?_ _) | (with_reducible refine Kd.C_drewN ?_ _) | (with_reducible refine Kd.C_drew ?_))); (case side4 => exact (Kd.V_reads' HO357.out).2.1); rintro e w55 ⟨rfl, hb⟩; have n0_ := Aside0.mk (Kd.N_below (by (with_reducible repeat (first | apply Kd.N_alloc | apply Kd.N_drewN | apply Kd.N_drew)); exact HO_8.out) hb); have n1_ := Aside0.mk (Kd.V_below (by (with_reducible repeat (first | apply Kd.V_alloc | apply Kd.V_drewN | apply Kd.V_drew)); exact HO357.out) hb); have n2_ := Aside0.mk (Kd.N_below (by (with_reducible repeat (first | apply Kd.N_alloc | apply Kd.N_drewN | apply Kd.N_drew)); exact HO363.out) hb); have n3_ := Aside0.mk (Kd.N_below (by (with_reducible repeat (first | apply Kd.N_alloc | apply Kd.N_drewN | apply Kd.N_drew)); exact HO368.out) hb); have n4_ := Aside0.mk (below_step (by repeat (first | (with_reducible first | exact HB.out | apply below_alloc | apply pw_below_drewN | apply below_drew1) | exact HB.out)) hb); clear HO_8; clear HO357; clear HO363; clear HO368; clear HB; have HO_8 := n0_; have HO357 := n1_; have HO363 := n2_; have HO368 := n3_; have HB := n4_; clear n0_ n1_ n2_ n3_ n4_; (try clear hb); (try clear hb2); (try clear hk); (try clear hi)) | (go_at_call 33; (with_reducible refine (laws_marks9.calls kj15 t364 t372 _ A33.out).mono ?_); rintro e w' ⟨rfl, ⟨nd, rfl⟩⟩))
                                go_ret
                                exact ⟨by first | rfl | (simp [errW_none, errW_some] <;> rfl) | (simp [*, errW_none, errW_some] <;> rfl), by repeat (first | (with_reducible first | exact HB.out | apply below_alloc | apply pw_below_drewN | apply below_drew1) | exact HB.out)⟩
                            · replace c32 := Bool.eq_false_iff.mpr c32
                              subst c32
                              have H1 : (some false) = some r := by rw [if_neg (show ¬ (false = true) by decide)] at H; exact H
                              clear H
                              have H := H1
                              clear H1
                              obtain rfl := Option.some.inj H
                              obtain ⟨Ao56, co56, eo56⟩ := Kd.N_slice HO_8.out
                              subst eo56
                              go_wp2_with (first | ((with_reducible refine gate_callee (f := 44) rfl ?_); refine goesL_ (some 61) rfl rfl Tryd.func44 (by kernel_rfl) rfl #[.string t348, .slice Ao56 t349.length co56] rfl (by (try simp only [List.map_toArray, List.map_cons, List.map_nil]); first | done | rfl | (simp only [List.length_drop, List.length_take]; rfl)) ?_; (with_reducible refine (spec_Expanded.calls kj15 t348 (fun k_ => True) _ _ t349 t354 t355 true _ ?side1 A22.out).mono ?_); (case side1 => exact Kd.N_V (HO_8.out)); rintro e w57 ⟨v356, rfl, ho0, hb⟩; refine ⟨_, rfl, ?_⟩; have n0_ := Aside0.mk (Kd.N_below (by (with_reducible repeat (first | apply Kd.N_alloc | apply Kd.N_drewN | apply Kd.N_drew)); exact HO_8.out) hb); have n1_ := Aside0.mk (Kd.V_lower (Kd.V_mono (ok' := fun k_ => True) ho0 (fun k_ hk_ => trivial)) (below_size (by repeat (first | (with_reducible first | exact HB.out | apply below_alloc | apply pw_below_drewN | apply below_drew1) | exact HB.out)))); have n2_ := Aside0.mk (below_step (by repeat (first | (with_reducible first | exact HB.out | apply below_alloc | apply pw_below_drewN | apply below_drew1) | exact HB.out)) hb); clear HO_8; clear HB; have HO_8 := n0_; have HO357 := n1_; have HB := n2_; clear n0_ n1_ n2_; (try clear hb); (try clear hb2); (try clear hk); (try clear hi); (try clear ho0)) | ((with_reducible refine gate_callee (f := 38) rfl ?_); refine goesL_ (some 70) rfl rfl Tryd.func38 (by kernel_rfl) rfl #[.string a1, .slice A2 l2.length c2] rfl (by (try simp only [List.map_toArray, List.map_cons, List.map_nil]); first | done | rfl | (simp only [List.length_drop, List.length_take]; rfl)) ?_; (with_reducible refine (impl_Named.calls a1 _ _ l2 t359 t360 true _ (tab_at HT_.out (by repeat (first | (with_reducible first | exact HB.out | apply below_alloc | apply pw_below_drewN | apply below_drew1) | exact HB.out))) ?side1 ?side2 A24.out).mono ?_); (case side1 => repeat (first | exact (Kd.C_below HR2.out HB.out) | (with_reducible refine Kd.C_alloc ?_ _) | (with_reducible refine Kd.C_drewN ?_ _) | (with_reducible refine Kd.C_drew ?_))); (case side2 => exact HC2.out); rintro e w58 ⟨v362, rfl, ho0, hb⟩; refine ⟨_, rfl, ?_⟩; have n0_ := Aside0.mk (Kd.N_elder' (by (with_reducible repeat (first | apply Kd.N_alloc | apply Kd.N_drewN | apply Kd.N_drew)); exact HO_8.out) (Kd.N_base (Kd.R_N ho0)) hb); have n1_ := Aside0.mk (Kd.V_elder' (by (with_reducible repeat (first | apply Kd.V_alloc | apply Kd.V_drewN | apply Kd.V_drew)); exact HO357.out) (Kd.N_base (Kd.R_N ho0)) hb); have n2_ := Aside0.mk (Kd.N_lower (Kd.N_mono (ok' := fun k_ => some k_ ≠ (.slice Ao56 t349.length co56 : Value).ownBlock) (Kd.R_N (Kd.R_bound ho0)) (fun k_ hk_ => (Kd.fresh' (Kd.N_lt (by (with_reducible repeat (first | apply Kd.N_alloc | apply Kd.N_drewN | apply Kd.N_drew)); exact HO_8.out)) k_ hk_.2.1))) (below_size (by repeat (first | (with_reducible first | exact HB.out | apply below_alloc | apply pw_below_drewN | apply below_drew1) | exact HB.out)))); have n3_ := Aside0.mk (below_step (by repeat (first | (with_reducible first | exact HB.out | apply below_alloc | apply pw_below_drewN | apply below_drew1) | exact HB.out)) hb); clear HO_8; clear HO357; clear HB; have HO_8 := n0_; have HO357 := n1_; have HO363 := n2_; have HB := n3_; clear n0_ n1_ n2_ n3_; (try clear hb); (try clear hb2); (try clear hk); (try clear hi); (try clear ho0); obtain ⟨Ao59, co59, eo59⟩ := Kd.N_slice HO363.out; subst eo59) | ((with_reducible refine gate_callee (f := 45) rfl ?_); refine goesL_ (some 77) rfl rfl Tryd.func45 (by kernel_rfl) rfl #[.string t359, .slice Ao59 t360.length co59] rfl (by (try simp only [List.map_toArray, List.map_cons, List.map_nil]); first | done | rfl | (simp only [List.length_drop, List.length_take]; rfl)) ?_; (with_reducible refine (impl_Expanded.calls t359 _ _ t360 t364 t365 true _ ?side1 ?side2 A25.out).mono ?_); (case side1 => repeat (first | exact (Kd.N_reads' HO363.out).2.2 | (with_reducible refine Kd.C_alloc ?_ _) | (with_reducible refine Kd.C_drewN ?_ _) | (with_reducible refine Kd.C_drew ?_))); (case side2 => exact (Kd.N_reads' HO363.out).2.1); rintro e w60 ⟨v367, rfl, ho0, hb⟩; refine ⟨_, rfl, ?_⟩; have n0_ := Aside0.mk (Kd.N_elder' (by (with_reducible repeat (first | apply Kd.N_alloc | apply Kd.N_drewN | apply Kd.N_drew)); exact HO_8.out) (Kd.N_base (Kd.R_N ho0)) hb); have n1_ := Aside0.mk (Kd.V_elder' (by (with_reducible repeat (first | apply Kd.V_alloc | apply Kd.V_drewN | apply Kd.V_drew)); exact HO357.out) (Kd.N_base (Kd.R_N ho0)) hb); have n2_ := Aside0.mk (Kd.N_elder' (by (with_reducible repeat (first | apply Kd.N_alloc | apply Kd.N_drewN | apply Kd.N_drew)); exact HO363.out) (Kd.N_base (Kd.R_N ho0)) hb); have n3_ := Aside0.mk (Kd.N_lower (Kd.N_mono (ok' := fun k_ => some k_ ≠ (.slice Ao56 t349.length co56 : Value).ownBlock ∧ some k_ ≠ (.slice Ao59 t360.length co59 : Value).ownBlock) (Kd.R_N (Kd.R_bound ho0)) (fun k_ hk_ => ⟨(Kd.fresh' (Kd.N_lt (by (with_reducible repeat (first | apply Kd.N_alloc | apply Kd.N_drewN | apply Kd.N_drew)); exact HO_8.out)) k_ hk_.2.1), (Kd.fresh' (Kd.N_lt (by (with_reducible repeat (first | apply Kd.N_alloc | apply Kd.N_drewN | apply Kd.N_drew)); exact HO363.out)) k_ hk_.2.1)⟩)) (below_size (by repeat (first | (with_reducible first | exact HB.out | apply below_alloc | apply pw_below_drewN | apply below_drew1) | exact HB.out)))); have n4_ := Aside0.mk (below_step (by repeat (first | (with_reducible first | exact HB.out | apply below_alloc | apply pw_below_drewN | apply below_drew1) | exact HB.out)) hb); clear HO_8; clear HO357; clear HO363; clear HB; have HO_8 := n0_; have HO357 := n1_; have HO363 := n2_; have HO368 := n3_; have HB := n4_; clear n0_ n1_ n2_ n3_ n4_; (try clear hb); (try clear hb2); (try clear hk); (try clear hi); (try clear ho0)) | ((with_reducible refine gate_callee (f := 24) rfl ?_); refine goesL_ (some 82) rfl rfl Tryd.func24 (by kernel_rfl) rfl #[.int .u8 a0] rfl (by (try simp only [List.map_toArray, List.map_cons, List.map_nil]); first | done | rfl | (simp only [List.length_drop, List.length_take]; rfl)) ?_; (with_reducible refine (laws_kind9.calls a0 t369 _ A26.out).mono ?_); rintro e w' ⟨rfl, ⟨nd, rfl⟩⟩; refine ⟨_, rfl, ?_⟩) | ((with_reducible refine gate_callee (f := 23) rfl ?_); refine goesL_ (some 84) rfl rfl Tryd.func23 (by kernel_rfl) rfl #[.int .i64 t369, .string t364] rfl (by (try simp only [List.map_toArray, List.map_cons, List.map_nil]); first | done | rfl | (simp only [List.length_drop, List.length_take]; rfl)) ?_; (with_reducible refine (impl_Rebound.calls t369 t364 t370 _ (tab_at HT_.out (by repeat (first | (with_reducible first | exact HB.out | apply below_alloc | apply pw_below_drewN | apply below_drew1) | exact HB.out))) A27.out).mono ?_); rintro e w61 ⟨rfl, hb⟩; refine ⟨_, rfl, ?_⟩; have n0_ := Aside0.mk (Kd.N_below (by (with_reducible repeat (first | apply Kd.N_alloc | apply Kd.N_drewN | apply Kd.N_drew)); exact HO_8.out) hb); have n1_ := Aside0.mk (Kd.V_below (by (with_reducible repeat (first | apply Kd.V_alloc | apply Kd.V_drewN | apply Kd.V_drew)); exact HO357.out) hb); have n2_ := Aside0.mk (Kd.N_below (by (with_reducible repeat (first | apply Kd.N_alloc | apply Kd.N_drewN | apply Kd.N_drew)); exact HO363.out) hb); have n3_ := Aside0.mk (Kd.N_below (by (with_reducible repeat (first | apply Kd.N_alloc | apply Kd.N_drewN | apply Kd.N_drew)); exact HO368.out) hb); have n4_ := Aside0.mk (below_step (by repeat (first | (with_reducible first | exact HB.out | apply below_alloc | apply pw_below_drewN | apply below_drew1) | exact HB.out)) hb); clear HO_8; clear HO357; clear HO363; clear HO368; clear HB; have HO_8 := n0_; have HO357 := n1_; have HO363 := n2_; have HO368 := n3_; have HB := n4_; clear n0_ n1_ n2_ n3_ n4_; (try clear hb); (try clear hb2); (try clear hk); (try clear hi); obtain ⟨Ao62, co62, eo62⟩ := Kd.N_slice HO368.out; subst eo62; obtain ⟨Ao63, co63, eo63⟩ := Kd.V_slice HO357.out; subst eo63) | (go_at_call 37; (with_reducible refine (spec_EqualValues.calls _ _ t365 _ _ t355 false _ ?side1 ?side2 ?side3 ?side4 A31.out).mono ?_); (case side1 => repeat (first | exact (Kd.N_reads' HO368.out).2.2 | (with_reducible refine Kd.C_alloc ?_ _) | (with_reducible refine Kd.C_drewN ?_ _) | (with_reducible refine Kd.C_drew ?_))); (case side2 => exact (Kd.N_reads' HO368.out).2.1); (case side3 => repeat (first | exact (Kd.V_reads' HO357.out).2.2 | (with_reducible refine Kd.C_alloc ?_ _) | (with_reducible refine Kd.C_drewN ?_ _) | (with_reducible refine Kd.C_drew ?_))); (case side4 => exact (Kd.V_reads' HO357.out).2.1); rintro e w64 ⟨rfl, hb⟩; have n0_ := Aside0.mk (Kd.N_below (by (with_reducible repeat (first | apply Kd.N_alloc | apply Kd.N_drewN | apply Kd.N_drew)); exact HO_8.out) hb); have n1_ := Aside0.mk (Kd.V_below (by (with_reducible repeat (first | apply Kd.V_alloc | apply Kd.V_drewN | apply Kd.V_drew)); exact HO357.out) hb); have n2_ := Aside0.mk (Kd.N_below (by (with_reducible repeat (first | apply Kd.N_alloc | apply Kd.N_drewN | apply Kd.N_drew)); exact HO363.out) hb); have n3_ := Aside0.mk (Kd.N_below (by (with_reducible repeat (first | apply Kd.N_alloc | apply Kd.N_drewN | apply Kd.N_drew)); exact HO368.out) hb); have n4_ := Aside0.mk (below_step (by repeat (first | (with_reducible first | exact HB.out | apply below_alloc | apply pw_below_drewN | apply below_drew1) | exact HB.out)) hb); clear HO_8; clear HO357; clear HO363; clear HO368; clear HB; have HO_8 := n0_; have HO357 := n1_; have HO363 := n2_; have HO368 := n3_; have HB := n4_; clear n0_ n1_ n2_ n3_ n4_; (try clear hb); (try clear hb2); (try clear hk); (try clear hi)))
                              go_ret
                              exact ⟨by first | rfl | (simp [errW_none, errW_some] <;> rfl) | (simp [*, errW_none, errW_some] <;> rfl), by repeat (first | (with_reducible first | exact HB.out | apply below_alloc | apply pw_below_drewN | apply below_drew1) | exact HB.out)⟩
                          · rw [if_neg c30] at H
                            have c30b0 : (t364.toList == t354.toList) = false := beq_eq_false_iff_ne.mpr c30
                            have c30b1 : (t364.toList != t354.toList) = true := bne_iff_ne.mpr c30
                            obtain rfl := Option.some.inj H
                            obtain ⟨Ao65, co65, eo65⟩ := Kd.N_slice HO_8.out
                            subst eo65
                            go_wp2_with (first | ((with_reducible refine gate_callee (f := 44) rfl ?_); refine goesL_ (some 61) rfl rfl Tryd.func44 (by kernel_rfl) rfl #[.string t348, .slice Ao65 t349.length co65] rfl (by (try simp only [List.map_toArray, List.map_cons, List.map_nil]); first | done | rfl | (simp only [List.length_drop, List.length_take]; rfl)) ?_; (with_reducible refine (spec_Expanded.calls kj15 t348 (fun k_ => True) _ _ t349 t354 t355 true _ ?side1 A22.out).mono ?_); (case side1 => exact Kd.N_V (HO_8.out)); rintro e w66 ⟨v356, rfl, ho0, hb⟩; refine ⟨_, rfl, ?_⟩; have n0_ := Aside0.mk (Kd.N_below (by (with_reducible repeat (first | apply Kd.N_alloc | apply Kd.N_drewN | apply Kd.N_drew)); exact HO_8.out) hb); have n1_ := Aside0.mk (Kd.V_lower (Kd.V_mono (ok' := fun k_ => True) ho0 (fun k_ hk_ => trivial)) (below_size (by repeat (first | (with_reducible first | exact HB.out | apply below_alloc | apply pw_below_drewN | apply below_drew1) | exact HB.out)))); have n2_ := Aside0.mk (below_step (by repeat (first | (with_reducible first | exact HB.out | apply below_alloc | apply pw_below_drewN | apply below_drew1) | exact HB.out)) hb); clear HO_8; clear HB; have HO_8 := n0_; have HO357 := n1_; have HB := n2_; clear n0_ n1_ n2_; (try clear hb); (try clear hb2); (try clear hk); (try clear hi); (try clear ho0)) | ((with_reducible refine gate_callee (f := 38) rfl ?_); refine goesL_ (some 70) rfl rfl Tryd.func38 (by kernel_rfl) rfl #[.string a1, .slice A2 l2.length c2] rfl (by (try simp only [List.map_toArray, List.map_cons, List.map_nil]); first | done | rfl | (simp only [List.length_drop, List.length_take]; rfl)) ?_; (with_reducible refine (impl_Named.calls a1 _ _ l2 t359 t360 true _ (tab_at HT_.out (by repeat (first | (with_reducible first | exact HB.out | apply below_alloc | apply pw_below_drewN | apply below_drew1) | exact HB.out))) ?side1 ?side2 A24.out).mono ?_); (case side1 => repeat (first | exact (Kd.C_below HR2.out HB.out) | (with_reducible refine Kd.C_alloc ?_ _) | (with_reducible refine Kd.C_drewN ?_ _) | (with_reducible refine Kd.C_drew ?_))); (case side2 => exact HC2.out); rintro e w67 ⟨v362, rfl, ho0, hb⟩; refine ⟨_, rfl, ?_⟩; have n0_ := Aside0.mk (Kd.N_elder' (by (with_reducible repeat (first | apply Kd.N_alloc | apply Kd.N_drewN | apply Kd.N_drew)); exact HO_8.out) (Kd.N_base (Kd.R_N ho0)) hb); have n1_ := Aside0.mk (Kd.V_elder' (by (with_reducible repeat (first | apply Kd.V_alloc | apply Kd.V_drewN | apply Kd.V_drew)); exact HO357.out) (Kd.N_base (Kd.R_N ho0)) hb); have n2_ := Aside0.mk (Kd.N_lower (Kd.N_mono (ok' := fun k_ => some k_ ≠ (.slice Ao65 t349.length co65 : Value).ownBlock) (Kd.R_N (Kd.R_bound ho0)) (fun k_ hk_ => (Kd.fresh' (Kd.N_lt (by (with_reducible repeat (first | apply Kd.N_alloc | apply Kd.N_drewN | apply Kd.N_drew)); exact HO_8.out)) k_ hk_.2.1))) (below_size (by repeat (first | (with_reducible first | exact HB.out | apply below_alloc | apply pw_below_drewN | apply below_drew1) | exact HB.out)))); have n3_ := Aside0.mk (below_step (by repeat (first | (with_reducible first | exact HB.out | apply below_alloc | apply pw_below_drewN | apply below_drew1) | exact HB.out)) hb); clear HO_8; clear HO357; clear HB; have HO_8 := n0_; have HO357 := n1_; have HO363 := n2_; have HB := n3_; clear n0_ n1_ n2_ n3_; (try clear hb); (try clear hb2); (try clear hk); (try clear hi); (try clear ho0); obtain ⟨Ao68, co68, eo68⟩ := Kd.N_slice HO363.out; subst eo68) | ((with_reducible refine gate_callee (f := 45) rfl ?_); refine goesL_ (some 77) rfl rfl Tryd.func45 (by kernel_rfl) rfl #[.string t359, .slice Ao68 t360.length co68] rfl (by (try simp only [List.map_toArray, List.map_cons, List.map_nil]); first | done | rfl | (simp only [List.length_drop, List.length_take]; rfl)) ?_; (with_reducible refine (impl_Expanded.calls t359 _ _ t360 t364 t365 true _ ?side1 ?side2 A25.out).mono ?_); (case side1 => repeat (first | exact (Kd.N_reads' HO363.out).2.2 | (with_reducible refine Kd.C_alloc ?_ _) | (with_reducible refine Kd.C_drewN ?_ _) | (with_reducible refine Kd.C_drew ?_))); (case side2 => exact (Kd.N_reads' HO363.out).2.1); rintro e w69 ⟨v367, rfl, ho0, hb⟩; refine ⟨_, rfl, ?_⟩; have n0_ := Aside0.mk (Kd.N_elder' (by (with_reducible repeat (first | apply Kd.N_alloc | apply Kd.N_drewN | apply Kd.N_drew)); exact HO_8.out) (Kd.N_base (Kd.R_N ho0)) hb); have n1_ := Aside0.mk (Kd.V_elder' (by (with_reducible repeat (first | apply Kd.V_alloc | apply Kd.V_drewN | apply Kd.V_drew)); exact HO357.out) (Kd.N_base (Kd.R_N ho0)) hb); have n2_ := Aside0.mk (Kd.N_elder' (by (with_reducible repeat (first | apply Kd.N_alloc | apply Kd.N_drewN | apply Kd.N_drew)); exact HO363.out) (Kd.N_base (Kd.R_N ho0)) hb); have n3_ := Aside0.mk (Kd.N_lower (Kd.N_mono (ok' := fun k_ => some k_ ≠ (.slice Ao65 t349.length co65 : Value).ownBlock ∧ some k_ ≠ (.slice Ao68 t360.length co68 : Value).ownBlock) (Kd.R_N (Kd.R_bound ho0)) (fun k_ hk_ => ⟨(Kd.fresh' (Kd.N_lt (by (with_reducible repeat (first | apply Kd.N_alloc | apply Kd.N_drewN | apply Kd.N_drew)); exact HO_8.out)) k_ hk_.2.1), (Kd.fresh' (Kd.N_lt (by (with_reducible repeat (first | apply Kd.N_alloc | apply Kd.N_drewN | apply Kd.N_drew)); exact HO363.out)) k_ hk_.2.1)⟩)) (below_size (by repeat (first | (with_reducible first | exact HB.out | apply below_alloc | apply pw_below_drewN | apply below_drew1) | exact HB.out)))); have n4_ := Aside0.mk (below_step (by repeat (first | (with_reducible first | exact HB.out | apply below_alloc | apply pw_below_drewN | apply below_drew1) | exact HB.out)) hb); clear HO_8; clear HO357; clear HO363; clear HB; have HO_8 := n0_; have HO357 := n1_; have HO363 := n2_; have HO368 := n3_; have HB := n4_; clear n0_ n1_ n2_ n3_ n4_; (try clear hb); (try clear hb2); (try clear hk); (try clear hi); (try clear ho0)) | ((with_reducible refine gate_callee (f := 24) rfl ?_); refine goesL_ (some 82) rfl rfl Tryd.func24 (by kernel_rfl) rfl #[.int .u8 a0] rfl (by (try simp only [List.map_toArray, List.map_cons, List.map_nil]); first | done | rfl | (simp only [List.length_drop, List.length_take]; rfl)) ?_; (with_reducible refine (laws_kind9.calls a0 t369 _ A26.out).mono ?_); rintro e w' ⟨rfl, ⟨nd, rfl⟩⟩; refine ⟨_, rfl, ?_⟩) | ((with_reducible refine gate_callee (f := 23) rfl ?_); refine goesL_ (some 84) rfl rfl Tryd.func23 (by kernel_rfl) rfl #[.int .i64 t369, .string t364] rfl (by (try simp only [List.map_toArray, List.map_cons, List.map_nil]); first | done | rfl | (simp only [List.length_drop, List.length_take]; rfl)) ?_; (with_reducible refine (impl_Rebound.calls t369 t364 t370 _ (tab_at HT_.out (by repeat (first | (with_reducible first | exact HB.out | apply below_alloc | apply pw_below_drewN | apply below_drew1) | exact HB.out))) A27.out).mono ?_); rintro e w70 ⟨rfl, hb⟩; refine ⟨_, rfl, ?_⟩; have n0_ := Aside0.mk (Kd.N_below (by (with_reducible repeat (first | apply Kd.N_alloc | apply Kd.N_drewN | apply Kd.N_drew)); exact HO_8.out) hb); have n1_ := Aside0.mk (Kd.V_below (by (with_reducible repeat (first | apply Kd.V_alloc | apply Kd.V_drewN | apply Kd.V_drew)); exact HO357.out) hb); have n2_ := Aside0.mk (Kd.N_below (by (with_reducible repeat (first | apply Kd.N_alloc | apply Kd.N_drewN | apply Kd.N_drew)); exact HO363.out) hb); have n3_ := Aside0.mk (Kd.N_below (by (with_reducible repeat (first | apply Kd.N_alloc | apply Kd.N_drewN | apply Kd.N_drew)); exact HO368.out) hb); have n4_ := Aside0.mk (below_step (by repeat (first | (with_reducible first | exact HB.out | apply below_alloc | apply pw_below_drewN | apply below_drew1) | exact HB.out)) hb); clear HO_8; clear HO357; clear HO363; clear HO368; clear HB; have HO_8 := n0_; have HO357 := n1_; have HO363 := n2_; have HO368 := n3_; have HB := n4_; clear n0_ n1_ n2_ n3_ n4_; (try clear hb); (try clear hb2); (try clear hk); (try clear hi)))
                            go_ret
                            exact ⟨by first | rfl | (simp [errW_none, errW_some] <;> rfl) | (simp [*, errW_none, errW_some] <;> rfl), by repeat (first | (with_reducible first | exact HB.out | apply below_alloc | apply pw_below_drewN | apply below_drew1) | exact HB.out)⟩
                        · replace c29 := Bool.eq_false_iff.mpr c29
                          subst c29
                          have H1 : (some false) = some r := by rw [if_neg (show ¬ (false = true) by decide)] at H; exact H
                          clear H
                          have H := H1
                          clear H1
                          obtain rfl := Option.some.inj H
                          obtain ⟨Ao71, co71, eo71⟩ := Kd.N_slice HO_8.out
                          subst eo71
                          go_wp2_with (first | ((with_reducible refine gate_callee (f := 44) rfl ?_); refine goesL_ (some 61) rfl rfl Tryd.func44 (by kernel_rfl) rfl #[.string t348, .slice Ao71 t349.length co71] rfl (by (try simp only [List.map_toArray, List.map_cons, List.map_nil]); first | done | rfl | (simp only [List.length_drop, List.length_take]; rfl)) ?_; (with_reducible refine (spec_Expanded.calls kj15 t348 (fun k_ => True) _ _ t349 t354 t355 true _ ?side1 A22.out).mono ?_); (case side1 => exact Kd.N_V (HO_8.out)); rintro e w72 ⟨v356, rfl, ho0, hb⟩; refine ⟨_, rfl, ?_⟩; have n0_ := Aside0.mk (Kd.N_below (by (with_reducible repeat (first | apply Kd.N_alloc | apply Kd.N_drewN | apply Kd.N_drew)); exact HO_8.out) hb); have n1_ := Aside0.mk (Kd.V_lower (Kd.V_mono (ok' := fun k_ => True) ho0 (fun k_ hk_ => trivial)) (below_size (by repeat (first | (with_reducible first | exact HB.out | apply below_alloc | apply pw_below_drewN | apply below_drew1) | exact HB.out)))); have n2_ := Aside0.mk (below_step (by repeat (first | (with_reducible first | exact HB.out | apply below_alloc | apply pw_below_drewN | apply below_drew1) | exact HB.out)) hb); clear HO_8; clear HB; have HO_8 := n0_; have HO357 := n1_; have HB := n2_; clear n0_ n1_ n2_; (try clear hb); (try clear hb2); (try clear hk); (try clear hi); (try clear ho0)) | ((with_reducible refine gate_callee (f := 38) rfl ?_); refine goesL_ (some 70) rfl rfl Tryd.func38 (by kernel_rfl) rfl #[.string a1, .slice A2 l2.length c2] rfl (by (try simp only [List.map_toArray, List.map_cons, List.map_nil]); first | done | rfl | (simp only [List.length_drop, List.length_take]; rfl)) ?_; (with_reducible refine (impl_Named.calls a1 _ _ l2 t359 t360 true _ (tab_at HT_.out (by repeat (first | (with_reducible first | exact HB.out | apply below_alloc | apply pw_below_drewN | apply below_drew1) | exact HB.out))) ?side1 ?side2 A24.out).mono ?_); (case side1 => repeat (first | exact (Kd.C_below HR2.out HB.out) | (with_reducible refine Kd.C_alloc ?_ _) | (with_reducible refine Kd.C_drewN ?_ _) | (with_reducible refine Kd.C_drew ?_))); (case side2 => exact HC2.out); rintro e w73 ⟨v362, rfl, ho0, hb⟩; refine ⟨_, rfl, ?_⟩; have n0_ := Aside0.mk (Kd.N_elder' (by (with_reducible repeat (first | apply Kd.N_alloc | apply Kd.N_drewN | apply Kd.N_drew)); exact HO_8.out) (Kd.N_base (Kd.R_N ho0)) hb); have n1_ := Aside0.mk (Kd.V_elder' (by (with_reducible repeat (first | apply Kd.V_alloc | apply Kd.V_drewN | apply Kd.V_drew)); exact HO357.out) (Kd.N_base (Kd.R_N ho0)) hb); have n2_ := Aside0.mk (Kd.N_lower (Kd.N_mono (ok' := fun k_ => some k_ ≠ (.slice Ao71 t349.length co71 : Value).ownBlock) (Kd.R_N (Kd.R_bound ho0)) (fun k_ hk_ => (Kd.fresh' (Kd.N_lt (by (with_reducible repeat (first | apply Kd.N_alloc | apply Kd.N_drewN | apply Kd.N_drew)); exact HO_8.out)) k_ hk_.2.1))) (below_size (by repeat (first | (with_reducible first | exact HB.out | apply below_alloc | apply pw_below_drewN | apply below_drew1) | exact HB.out)))); have n3_ := Aside0.mk (below_step (by repeat (first | (with_reducible first | exact HB.out | apply below_alloc | apply pw_below_drewN | apply below_drew1) | exact HB.out)) hb); clear HO_8; clear HO357; clear HB; have HO_8 := n0_; have HO357 := n1_; have HO363 := n2_; have HB := n3_; clear n0_ n1_ n2_ n3_; (try clear hb); (try clear hb2); (try clear hk); (try clear hi); (try clear ho0); obtain ⟨Ao74, co74, eo74⟩ := Kd.N_slice HO363.out; subst eo74) | ((with_reducible refine gate_callee (f := 45) rfl ?_); refine goesL_ (some 77) rfl rfl Tryd.func45 (by kernel_rfl) rfl #[.string t359, .slice Ao74 t360.length co74] rfl (by (try simp only [List.map_toArray, List.map_cons, List.map_nil]); first | done | rfl | (simp only [List.length_drop, List.length_take]; rfl)) ?_; (with_reducible refine (impl_Expanded.calls t359 _ _ t360 t364 t365 false _ ?side1 ?side2 A25.out).mono ?_); (case side1 => repeat (first | exact (Kd.N_reads' HO363.out).2.2 | (with_reducible refine Kd.C_alloc ?_ _) | (with_reducible refine Kd.C_drewN ?_ _) | (with_reducible refine Kd.C_drew ?_))); (case side2 => exact (Kd.N_reads' HO363.out).2.1); rintro e w75 ⟨v367, rfl, ho0, hb⟩; refine ⟨_, rfl, ?_⟩; have n0_ := Aside0.mk (Kd.N_elder' (by (with_reducible repeat (first | apply Kd.N_alloc | apply Kd.N_drewN | apply Kd.N_drew)); exact HO_8.out) (Kd.N_base (Kd.R_N ho0)) hb); have n1_ := Aside0.mk (Kd.V_elder' (by (with_reducible repeat (first | apply Kd.V_alloc | apply Kd.V_drewN | apply Kd.V_drew)); exact HO357.out) (Kd.N_base (Kd.R_N ho0)) hb); have n2_ := Aside0.mk (Kd.N_elder' (by (with_reducible repeat (first | apply Kd.N_alloc | apply Kd.N_drewN | apply Kd.N_drew)); exact HO363.out) (Kd.N_base (Kd.R_N ho0)) hb); have n3_ := Aside0.mk (Kd.N_lower (Kd.N_mono (ok' := fun k_ => some k_ ≠ (.slice Ao71 t349.length co71 : Value).ownBlock ∧ some k_ ≠ (.slice Ao74 t360.length co74 : Value).ownBlock) (Kd.R_N (Kd.R_bound ho0)) (fun k_ hk_ => ⟨(Kd.fresh' (Kd.N_lt (by (with_reducible repeat (first | apply Kd.N_alloc | apply Kd.N_drewN | apply Kd.N_drew)); exact HO_8.out)) k_ hk_.2.1), (Kd.fresh' (Kd.N_lt (by (with_reducible repeat (first | apply Kd.N_alloc | apply Kd.N_drewN | apply Kd.N_drew)); exact HO363.out)) k_ hk_.2.1)⟩)) (below_size (by repeat (first | (with_reducible first | exact HB.out | apply below_alloc | apply pw_below_drewN | apply below_drew1) | exact HB.out)))); have n4_ := Aside0.mk (below_step (by repeat (first | (with_reducible first | exact HB.out | apply below_alloc | apply pw_below_drewN | apply below_drew1) | exact HB.out)) hb); clear HO_8; clear HO357; clear HO363; clear HB; have HO_8 := n0_; have HO357 := n1_; have HO363 := n2_; have HO368 := n3_; have HB := n4_; clear n0_ n1_ n2_ n3_ n4_; (try clear hb); (try clear hb2); (try clear hk); (try clear hi); (try clear ho0)) | ((with_reducible refine gate_callee (f := 24) rfl ?_); refine goesL_ (some 82) rfl rfl Tryd.func24 (by kernel_rfl) rfl #[.int .u8 a0] rfl (by (try simp only [List.map_toArray, List.map_cons, List.map_nil]); first | done | rfl | (simp only [List.length_drop, List.length_take]; rfl)) ?_; (with_reducible refine (laws_kind9.calls a0 t369 _ A26.out).mono ?_); rintro e w' ⟨rfl, ⟨nd, rfl⟩⟩; refine ⟨_, rfl, ?_⟩) | ((with_reducible refine gate_callee (f := 23) rfl ?_); refine goesL_ (some 84) rfl rfl Tryd.func23 (by kernel_rfl) rfl #[.int .i64 t369, .string t364] rfl (by (try simp only [List.map_toArray, List.map_cons, List.map_nil]); first | done | rfl | (simp only [List.length_drop, List.length_take]; rfl)) ?_; (with_reducible refine (impl_Rebound.calls t369 t364 t370 _ (tab_at HT_.out (by repeat (first | (with_reducible first | exact HB.out | apply below_alloc | apply pw_below_drewN | apply below_drew1) | exact HB.out))) A27.out).mono ?_); rintro e w76 ⟨rfl, hb⟩; refine ⟨_, rfl, ?_⟩; have n0_ := Aside0.mk (Kd.N_below (by (with_reducible repeat (first | apply Kd.N_alloc | apply Kd.N_drewN | apply Kd.N_drew)); exact HO_8.out) hb); have n1_ := Aside0.mk (Kd.V_below (by (with_reducible repeat (first | apply Kd.V_alloc | apply Kd.V_drewN | apply Kd.V_drew)); exact HO357.out) hb); have n2_ := Aside0.mk (Kd.N_below (by (with_reducible repeat (first | apply Kd.N_alloc | apply Kd.N_drewN | apply Kd.N_drew)); exact HO363.out) hb); have n3_ := Aside0.mk (Kd.N_below (by (with_reducible repeat (first | apply Kd.N_alloc | apply Kd.N_drewN | apply Kd.N_drew)); exact HO368.out) hb); have n4_ := Aside0.mk (below_step (by repeat (first | (with_reducible first | exact HB.out | apply below_alloc | apply pw_below_drewN | apply below_drew1) | exact HB.out)) hb); clear HO_8; clear HO357; clear HO363; clear HO368; clear HB; have HO_8 := n0_; have HO357 := n1_; have HO363 := n2_; have HO368 := n3_; have HB := n4_; clear n0_ n1_ n2_ n3_ n4_; (try clear hb); (try clear hb2); (try clear hk); (try clear hi)))
                          go_ret
                          exact ⟨by first | rfl | (simp [errW_none, errW_some] <;> rfl) | (simp [*, errW_none, errW_some] <;> rfl), by repeat (first | (with_reducible first | exact HB.out | apply below_alloc | apply pw_below_drewN | apply below_drew1) | exact HB.out)⟩
                      · replace c28 := Bool.eq_false_iff.mpr c28
                        subst c28
                        have H1 : (some false) = some r := by rw [if_neg (show ¬ (false = true) by decide)] at H; exact H
                        clear H
                        have H := H1
                        clear H1
                        obtain rfl := Option.some.inj H
                        obtain ⟨Ao77, co77, eo77⟩ := Kd.N_slice HO_8.out
                        subst eo77
                        go_wp2_with (first | ((with_reducible refine gate_callee (f := 44) rfl ?_); refine goesL_ (some 61) rfl rfl Tryd.func44 (by kernel_rfl) rfl #[.string t348, .slice Ao77 t349.length co77] rfl (by (try simp only [List.map_toArray, List.map_cons, List.map_nil]); first | done | rfl | (simp only [List.length_drop, List.length_take]; rfl)) ?_; (with_reducible refine (spec_Expanded.calls kj15 t348 (fun k_ => True) _ _ t349 t354 t355 true _ ?side1 A22.out).mono ?_); (case side1 => exact Kd.N_V (HO_8.out)); rintro e w78 ⟨v356, rfl, ho0, hb⟩; refine ⟨_, rfl, ?_⟩; have n0_ := Aside0.mk (Kd.N_below (by (with_reducible repeat (first | apply Kd.N_alloc | apply Kd.N_drewN | apply Kd.N_drew)); exact HO_8.out) hb); have n1_ := Aside0.mk (Kd.V_lower (Kd.V_mono (ok' := fun k_ => True) ho0 (fun k_ hk_ => trivial)) (below_size (by repeat (first | (with_reducible first | exact HB.out | apply below_alloc | apply pw_below_drewN | apply below_drew1) | exact HB.out)))); have n2_ := Aside0.mk (below_step (by repeat (first | (with_reducible first | exact HB.out | apply below_alloc | apply pw_below_drewN | apply below_drew1) | exact HB.out)) hb); clear HO_8; clear HB; have HO_8 := n0_; have HO357 := n1_; have HB := n2_; clear n0_ n1_ n2_; (try clear hb); (try clear hb2); (try clear hk); (try clear hi); (try clear ho0)) | ((with_reducible refine gate_callee (f := 38) rfl ?_); refine goesL_ (some 70) rfl rfl Tryd.func38 (by kernel_rfl) rfl #[.string a1, .slice A2 l2.length c2] rfl (by (try simp only [List.map_toArray, List.map_cons, List.map_nil]); first | done | rfl | (simp only [List.length_drop, List.length_take]; rfl)) ?_; (with_reducible refine (impl_Named.calls a1 _ _ l2 t359 t360 false _ (tab_at HT_.out (by repeat (first | (with_reducible first | exact HB.out | apply below_alloc | apply pw_below_drewN | apply below_drew1) | exact HB.out))) ?side1 ?side2 A24.out).mono ?_); (case side1 => repeat (first | exact (Kd.C_below HR2.out HB.out) | (with_reducible refine Kd.C_alloc ?_ _) | (with_reducible refine Kd.C_drewN ?_ _) | (with_reducible refine Kd.C_drew ?_))); (case side2 => exact HC2.out); rintro e w79 ⟨v362, rfl, ho0, hb⟩; refine ⟨_, rfl, ?_⟩; have n0_ := Aside0.mk (Kd.N_elder' (by (with_reducible repeat (first | apply Kd.N_alloc | apply Kd.N_drewN | apply Kd.N_drew)); exact HO_8.out) (Kd.N_base (Kd.R_N ho0)) hb); have n1_ := Aside0.mk (Kd.V_elder' (by (with_reducible repeat (first | apply Kd.V_alloc | apply Kd.V_drewN | apply Kd.V_drew)); exact HO357.out) (Kd.N_base (Kd.R_N ho0)) hb); have n2_ := Aside0.mk (Kd.N_lower (Kd.N_mono (ok' := fun k_ => some k_ ≠ (.slice Ao77 t349.length co77 : Value).ownBlock) (Kd.R_N (Kd.R_bound ho0)) (fun k_ hk_ => (Kd.fresh' (Kd.N_lt (by (with_reducible repeat (first | apply Kd.N_alloc | apply Kd.N_drewN | apply Kd.N_drew)); exact HO_8.out)) k_ hk_.2.1))) (below_size (by repeat (first | (with_reducible first | exact HB.out | apply below_alloc | apply pw_below_drewN | apply below_drew1) | exact HB.out)))); have n3_ := Aside0.mk (below_step (by repeat (first | (with_reducible first | exact HB.out | apply below_alloc | apply pw_below_drewN | apply below_drew1) | exact HB.out)) hb); clear HO_8; clear HO357; clear HB; have HO_8 := n0_; have HO357 := n1_; have HO363 := n2_; have HB := n3_; clear n0_ n1_ n2_ n3_; (try clear hb); (try clear hb2); (try clear hk); (try clear hi); (try clear ho0); obtain ⟨Ao80, co80, eo80⟩ := Kd.N_slice HO363.out; subst eo80) | ((with_reducible refine gate_callee (f := 45) rfl ?_); refine goesL_ (some 77) rfl rfl Tryd.func45 (by kernel_rfl) rfl #[.string t359, .slice Ao80 t360.length co80] rfl (by (try simp only [List.map_toArray, List.map_cons, List.map_nil]); first | done | rfl | (simp only [List.length_drop, List.length_take]; rfl)) ?_; (with_reducible refine (impl_Expanded.calls t359 _ _ t360 t364 t365 t366 _ ?side1 ?side2 A25.out).mono ?_); (case side1 => repeat (first | exact (Kd.N_reads' HO363.out).2.2 | (with_reducible refine Kd.C_alloc ?_ _) | (with_reducible refine Kd.C_drewN ?_ _) | (with_reducible refine Kd.C_drew ?_))); (case side2 => exact (Kd.N_reads' HO363.out).2.1); rintro e w81 ⟨v367, rfl, ho0, hb⟩; refine ⟨_, rfl, ?_⟩; have n0_ := Aside0.mk (Kd.N_elder' (by (with_reducible repeat (first | apply Kd.N_alloc | apply Kd.N_drewN | apply Kd.N_drew)); exact HO_8.out) (Kd.N_base (Kd.R_N ho0)) hb); have n1_ := Aside0.mk (Kd.V_elder' (by (with_reducible repeat (first | apply Kd.V_alloc | apply Kd.V_drewN | apply Kd.V_drew)); exact HO357.out) (Kd.N_base (Kd.R_N ho0)) hb); have n2_ := Aside0.mk (Kd.N_elder' (by (with_reducible repeat (first | apply Kd.N_alloc | apply Kd.N_drewN | apply Kd.N_drew)); exact HO363.out) (Kd.N_base (Kd.R_N ho0)) hb); have n3_ := Aside0.mk (Kd.N_lower (Kd.N_mono (ok' := fun k_ => some k_ ≠ (.slice Ao77 t349.length co77 : Value).ownBlock ∧ some k_ ≠ (.slice Ao80 t360.length co80 : Value).ownBlock) (Kd.R_N (Kd.R_bound ho0)) (fun k_ hk_ => ⟨(Kd.fresh' (Kd.N_lt (by (with_reducible repeat (first | apply Kd.N_alloc | apply Kd.N_drewN | apply Kd.N_drew)); exact HO_8.out)) k_ hk_.2.1), (Kd.fresh' (Kd.N_lt (by (with_reducible repeat (first | apply Kd.N_alloc | apply Kd.N_drewN | apply Kd.N_drew)); exact HO363.out)) k_ hk_.2.1)⟩)) (below_size (by repeat (first | (with_reducible first | exact HB.out | apply below_alloc | apply pw_below_drewN | apply below_drew1) | exact HB.out)))); have n4_ := Aside0.mk (below_step (by repeat (first | (with_reducible first | exact HB.out | apply below_alloc | apply pw_below_drewN | apply below_drew1) | exact HB.out)) hb); clear HO_8; clear HO357; clear HO363; clear HB; have HO_8 := n0_; have HO357 := n1_; have HO363 := n2_; have HO368 := n3_; have HB := n4_; clear n0_ n1_ n2_ n3_ n4_; (try clear hb); (try clear hb2); (try clear hk); (try clear hi); (try clear ho0)) | ((with_reducible refine gate_callee (f := 24) rfl ?_); refine goesL_ (some 82) rfl rfl Tryd.func24 (by kernel_rfl) rfl #[.int .u8 a0] rfl (by (try simp only [List.map_toArray, List.map_cons, List.map_nil]); first | done | rfl | (simp only [List.length_drop, List.length_take]; rfl)) ?_; (with_reducible refine (laws_kind9.calls a0 t369 _ A26.out).mono ?_); rintro e w' ⟨rfl, ⟨nd, rfl⟩⟩; refine ⟨_, rfl, ?_⟩) | ((with_reducible refine gate_callee (f := 23) rfl ?_); refine goesL_ (some 84) rfl rfl Tryd.func23 (by kernel_rfl) rfl #[.int .i64 t369, .string t364] rfl (by (try simp only [List.map_toArray, List.map_cons, List.map_nil]); first | done | rfl | (simp only [List.length_drop, List.length_take]; rfl)) ?_; (with_reducible refine (impl_Rebound.calls t369 t364 t370 _ (tab_at HT_.out (by repeat (first | (with_reducible first | exact HB.out | apply below_alloc | apply pw_below_drewN | apply below_drew1) | exact HB.out))) A27.out).mono ?_); rintro e w82 ⟨rfl, hb⟩; refine ⟨_, rfl, ?_⟩; have n0_ := Aside0.mk (Kd.N_below (by (with_reducible repeat (first | apply Kd.N_alloc | apply Kd.N_drewN | apply Kd.N_drew)); exact HO_8.out) hb); have n1_ := Aside0.mk (Kd.V_below (by (with_reducible repeat (first | apply Kd.V_alloc | apply Kd.V_drewN | apply Kd.V_drew)); exact HO357.out) hb); have n2_ := Aside0.mk (Kd.N_below (by (with_reducible repeat (first | apply Kd.N_alloc | apply Kd.N_drewN | apply Kd.N_drew)); exact HO363.out) hb); have n3_ := Aside0.mk (Kd.N_below (by (with_reducible repeat (first | apply Kd.N_alloc | apply Kd.N_drewN | apply Kd.N_drew)); exact HO368.out) hb); have n4_ := Aside0.mk (below_step (by repeat (first | (with_reducible first | exact HB.out | apply below_alloc | apply pw_below_drewN | apply below_drew1) | exact HB.out)) hb); clear HO_8; clear HO357; clear HO363; clear HO368; clear HB; have HO_8 := n0_; have HO357 := n1_; have HO363 := n2_; have HO368 := n3_; have HB := n4_; clear n0_ n1_ n2_ n3_ n4_; (try clear hb); (try clear hb2); (try clear hk); (try clear hi)))
                        go_ret
                        exact ⟨by first | rfl | (simp [errW_none, errW_some] <;> rfl) | (simp [*, errW_none, errW_some] <;> rfl), by repeat (first | (with_reducible first | exact HB.out | apply below_alloc | apply pw_below_drewN | apply below_drew1) | exact HB.out)⟩
                    · replace c23 := Bool.eq_false_iff.mpr c23
                      subst c23
                      have H1 : (some true) = some r := by rw [if_neg (show ¬ (false = true) by decide)] at H; exact H
                      clear H
                      have H := H1
                      clear H1
                      obtain rfl := Option.some.inj H
                      obtain ⟨Ao83, co83, eo83⟩ := Kd.N_slice HO_8.out
                      subst eo83
                      go_wp2_with (first | ((with_reducible refine gate_callee (f := 44) rfl ?_); refine goesL_ (some 61) rfl rfl Tryd.func44 (by kernel_rfl) rfl #[.string t348, .slice Ao83 t349.length co83] rfl (by (try simp only [List.map_toArray, List.map_cons, List.map_nil]); first | done | rfl | (simp only [List.length_drop, List.length_take]; rfl)) ?_; (with_reducible refine (spec_Expanded.calls kj15 t348 (fun k_ => True) _ _ t349 t354 t355 false _ ?side1 A22.out).mono ?_); (case side1 => exact Kd.N_V (HO_8.out)); rintro e w84 ⟨v356, rfl, ho0, hb⟩; refine ⟨_, rfl, ?_⟩; have n0_ := Aside0.mk (Kd.N_below (by (with_reducible repeat (first | apply Kd.N_alloc | apply Kd.N_drewN | apply Kd.N_drew)); exact HO_8.out) hb); have n1_ := Aside0.mk (Kd.V_lower (Kd.V_mono (ok' := fun k_ => True) ho0 (fun k_ hk_ => trivial)) (below_size (by repeat (first | (with_reducible first | exact HB.out | apply below_alloc | apply pw_below_drewN | apply below_drew1) | exact HB.out)))); have n2_ := Aside0.mk (below_step (by repeat (first | (with_reducible first | exact HB.out | apply below_alloc | apply pw_below_drewN | apply below_drew1) | exact HB.out)) hb); clear HO_8; clear HB; have HO_8 := n0_; have HO357 := n1_; have HB := n2_; clear n0_ n1_ n2_; (try clear hb); (try clear hb2); (try clear hk); (try clear hi); (try clear ho0)))
                      go_ret
                      exact ⟨by first | rfl | (simp [errW_none, errW_some] <;> rfl) | (simp [*, errW_none, errW_some] <;> rfl), by repeat (first | (with_reducible first | exact HB.out | apply below_alloc | apply pw_below_drewN | apply below_drew1) | exact HB.out)⟩

end Go.Proofs.YtnmhoghmhglimaaDoor.QN
/-
  PROVED: 'laws.FnRoad': a text with names over the lists among its arguments to placeholders of a kind: by steps what it is at once; as many question marks as arguments. No condition.
-/
namespace Go.Proofs.YtnmhoghmhglimaaDoor.Pure
open Go.RowKit Go.Proofs.YtnmhoghmhglimaaDoor.QN Go.Proofs.YtnmhoghmhglimaaDoor.H Go.Proofs.YtnmhoghmhglimaaDoor.SC Go.Proofs.YtnmhoghmhglimaaDoor.SN Go.Proofs.YtnmhoghmhglimaaDoor.SX Go.Proofs.YtnmhoghmhglimaaDoor.SR Go.Proofs.YtnmhoghmhglimaaDoorW.PrintWords Go.Proofs.YtnmhoghmhglimaaDoorW.PrintLast Go.Proofs.YtnmhoghmhglimaaDoorW.PrintMore
set_option linter.unusedVariables false
set_option linter.unusedSimpArgs false

theorem cntQ_no : ∀ l : List UInt8, cntQ l = 0 → ∀ c ∈ l, c ≠ 63
  | [], _ => fun c h => by cases h
  | b :: t, h => fun c hc => by
    rw [cntQ] at h
    by_cases hb : b = 63
    · rw [if_pos hb] at h
      omega
    · rw [if_neg hb, Nat.zero_add] at h
      rcases List.mem_cons.1 hc with rfl | hc
      · exact hb
      · exact cntQ_no t h c hc
theorem cnt_one (b : UInt8) (h : b ≠ 63) : cntQ [b] = 0 := by rw [cntQ, if_neg h]; rfl
theorem run_marks : ∀ (l : List UInt8) (inN : Bool) (nm : List UInt8) (nms : List (List UInt8)) (out : List UInt8) (N : List (List UInt8)) (O : List UInt8), (∀ c ∈ l, c ≠ 63) → runC 1 l inN nm nms out = some (N, O) →
    cntQ O + nms.length = cntQ out + N.length ∧ O.length ≤ out.length + 2 * l.length
  | [], inN, nm, nms, out, N, O, hl, h => by
    have h' : some (nms, out) = some (N, O) := h
    injection h' with h'
    injection h' with h1 h2
    subst h1 h2
    exact ⟨rfl, by omega⟩
  | b :: t, inN, nm, nms, out, N, O, hl, h => by
    have hb : b ≠ 63 := hl b List.mem_cons_self
    have ht : ∀ c ∈ t, c ≠ 63 := fun c hc => hl c (List.mem_cons_of_mem _ hc)
    have cm : ∀ n x, markC 1 n x = [63] := fun n x => by rw [markC, if_neg (by decide), if_neg (by decide), if_neg (by decide)]
    have e63 : cntQ [63] = 1 := rfl
    rw [List.length_cons]
    rw [runC] at h
    split at h
    · split at h
      · split at h
        · obtain ⟨h1, h2⟩ := run_marks t _ _ _ _ N O ht h
          rw [cntQ_app, show cntQ [58] = 0 from rfl] at h1
          rw [List.length_append, List.length_singleton] at h2
          exact ⟨by omega, by omega⟩
        · cases h
      · obtain ⟨h1, h2⟩ := run_marks t _ _ _ _ N O ht h
        exact ⟨h1, by omega⟩
    · split at h
      · split at h
        · obtain ⟨h1, h2⟩ := run_marks t _ _ _ _ N O ht h
          rw [cntQ_app, show cntQ [58, 61] = 0 from rfl] at h1
          rw [List.length_append, show [(58 : UInt8), 61].length = 2 from rfl] at h2
          exact ⟨by omega, by omega⟩
        · split at h
          · obtain ⟨h1, h2⟩ := run_marks t _ _ _ _ N O ht h
            exact ⟨h1, by omega⟩
          · split at h
            · obtain ⟨h1, h2⟩ := run_marks t _ _ _ _ N O ht h
              rw [cm, cntQ_app, e63, List.length_append, List.length_singleton] at h1
              rw [cm, List.length_append, List.length_singleton] at h2
              exact ⟨by omega, by omega⟩
            · obtain ⟨h1, h2⟩ := run_marks t _ _ _ _ N O ht h
              rw [cm, cntQ_app, cntQ_app, e63, cnt_one b hb, List.length_append, List.length_singleton] at h1
              rw [cm, List.length_append, List.length_append, List.length_singleton, List.length_singleton] at h2
              exact ⟨by omega, by omega⟩
      · obtain ⟨h1, h2⟩ := run_marks t _ _ _ _ N O ht h
        rw [cntQ_app, cnt_one b hb] at h1
        rw [List.length_append, List.length_singleton] at h2
        exact ⟨by omega, by omega⟩
/-- What Named makes of a text without marks. -/
theorem map_marks {s : ByteArray} {l : List S54} {r : ByteArray × List S52} (hs : s.size ≤ 1000) (hq : cntQ s.data.toList = 0) (hm : mapF 1 s l = some r) :
    cntQ r.1.data.toList = r.2.length ∧ r.1.size ≤ 4000 ∧ ∀ y ∈ r.2, ∃ x ∈ l, x.f1 = y := by
  unfold mapF at hm
  cases hR : runC 1 s.data.toList false [] [] [] with
  | none =>
    rw [hR] at hm
    cases hm
  | some q =>
    rw [hR] at hm
    obtain ⟨vs, h1, h2⟩ := Option.map_eq_some_iff.1 hm
    subst h2
    obtain ⟨N, O⟩ := q
    obtain ⟨h3, h4⟩ := run_marks _ _ _ _ _ N O (cntQ_no _ hq) hR
    have h5 := valsOf_len _ _ _ h1
    have h6 : (textsL N).length = N.length := by simp [textsL]
    have h7 : s.data.toList.length = s.size := Array.length_toList
    refine ⟨?_, ?_, valsOf_mem _ _ _ h1⟩
    · show cntQ O.toArray.toList = vs.length
      rw [show cntQ ([] : List UInt8) = 0 from rfl, List.length_nil] at h3
      rw [show O.toArray.toList = O by simp, h5, h6]
      omega
    · show O.toArray.size ≤ _
      rw [List.size_toArray]
      rw [List.length_nil] at h4
      omega
theorem FnRoad (a0 : Int) (s : ByteArray) (l : List S54) (h0 : (Lit.int .u8 a0).wf = true) : ∃ k, laws_FnRoad.f k a0 s l = some true := by
  have j0T : Ev (fun k => laws_FnRoad.j0 k a0 s l true) true := Ev.step (f := fun _ => some true) (fun k => by simp only [laws_FnRoad.j0]; rw [if_pos trivial]) (Ev.now _)
  have j1T : Ev (fun k => laws_FnRoad.j1 k a0 s l true) true := Ev.step (f := fun _ => some true) (fun k => by simp only [laws_FnRoad.j1]; rw [if_pos trivial]) (Ev.now _)
  have j2T : ∀ x7 x8, Ev (fun k => laws_FnRoad.j2 k a0 s l x7 x8 true) true := fun x7 x8 => Ev.step (f := fun _ => some true) (fun k => by simp only [laws_FnRoad.j2]; rw [if_pos trivial]) (Ev.now _)
  refine Ev.rounds (g := fun k => laws_FnRoad.f k a0 s l) ?_
  by_cases h1 : (s.size : Int) > 2147483647
  · exact Ev.congr (fun k => by simp only [laws_FnRoad.f]; rw [if_pos h1]) j0T
  by_cases h2 : (l.length : Int) > 2147483647
  · exact Ev.congr (fun k => by simp only [laws_FnRoad.f]; rw [if_neg h1, decide_eq_true h2]) j0T
  refine Ev.congr (f := fun k => laws_FnRoad.j0 k a0 s l false) (fun k => by simp only [laws_FnRoad.f]; rw [if_neg h1, decide_eq_false h2]) ?_
  by_cases h3 : (s.size : Int) > 1000
  · refine Ev.step (fun k => ?_) j1T
    simp only [laws_FnRoad.j0]
    rw [if_neg (by decide), if_pos h3]
  obtain ⟨b, hE, hb⟩ := args_lens l (by omega)
  have hM := marks_is s (by omega)
  refine Ev.step (f := fun k => (spec_ArgsRight.f k l).bind fun t346 => (if t346 = true then ((laws_marks9.f k s).bind fun t347 => (laws_FnRoad.j1 k a0 s l (decide (t347 > 0)))) else (laws_FnRoad.j1 k a0 s l true))) (fun k => ?_) (Ev.bind hE ?_)
  · simp only [laws_FnRoad.j0]
    rw [if_neg (by decide), if_neg h3]
  cases b with
  | false => exact Ev.congr (fun k => by rw [if_neg (by decide)]) j1T
  | true =>
    obtain ⟨⟨hl, _⟩, hlen⟩ := hb rfl
    refine Ev.congr (f := fun k => (laws_marks9.f k s).bind fun t347 => (laws_FnRoad.j1 k a0 s l (decide (t347 > 0)))) (fun k => by rw [if_pos rfl]) (Ev.bind hM ?_)
    by_cases hq : (cntQ s.data.toList : Int) > 0
    · rw [decide_eq_true hq]
      exact j1T
    rw [decide_eq_false hq]
    have hs : s.size ≤ 1048576 := by omega
    obtain ⟨kd, hk, k0, k4⟩ := kind_is a0 h0
    refine Ev.step (f := fun k => (spec_NamedOf.f k 1 s l).bind fun bt348 => (if bt348.2.2.2 = true then (if bt348.2.2.1 = true then (laws_FnRoad.j2 k a0 s l bt348.1 bt348.2.1 (decide ((bt348.2.1.length : Int) > 50))) else (laws_FnRoad.j2 k a0 s l bt348.1 bt348.2.1 true)) else (laws_FnRoad.j2 k a0 s l bt348.1 bt348.2.1 true))) (fun k => ?_) (Ev.bind (namedOf_is 1 s hs l (by omega)) ?_)
    · simp only [laws_FnRoad.j1]
      rw [if_neg (by decide)]
    by_cases hsure : (bitsOf s).2.2 = true
    · cases hm : mapF 1 s l with
      | none =>
        have e : namOf 1 s l = (⟨#[]⟩, [], false, true) := by rw [namOf, if_pos hsure, hm]
        rw [e]
        exact Ev.congr (fun k => by rw [if_pos rfl, if_neg (by decide)]) (j2T _ _)
      | some r =>
        have e : namOf 1 s l = (r.1, r.2, true, true) := by rw [namOf, if_pos hsure, hm]
        have hN : impl_Named.f s l = some (r.1, r.2, true) := by
          have : impl_NamedOf.f 1 s l = some (r.1, r.2, true) := by rw [impl_NamedOf.f, if_pos ⟨hs, by decide, by decide, (argsB_iff l).2 hl⟩, hm]
          rw [impl_Named.f, this]
          rfl
        obtain ⟨g1, g2, g3⟩ := map_marks (by omega) (by omega) hm
        have hr : ∀ x ∈ r.2, rightR x ∧ x.f3.length ≤ 20 := fun y hy => by
          obtain ⟨x, hx, rfl⟩ := g3 y hy
          exact ⟨(hl.2.1 x hx).1, hlen x hx⟩
        have hr' : ∀ x ∈ r.2, rightR x ∧ x.f3.length ≤ 1024 := fun x hx => ⟨(hr x hx).1, by have := (hr x hx).2; omega⟩
        rw [e]
        refine Ev.congr (f := fun k => laws_FnRoad.j2 k a0 s l r.1 r.2 (decide ((r.2.length : Int) > 50))) (fun k => by rw [if_pos rfl, if_pos rfl]) ?_
        by_cases h50 : (r.2.length : Int) > 50
        · rw [decide_eq_true h50]
          exact j2T _ _
        rw [decide_eq_false h50]
        have hsp := expanded_is r.1 (by omega) r.2 (by omega) (fun x hx => (hr' x hx).2)
        have him := impl_is r.1 (by omega) r.2 (by omega) hr'
        refine Ev.step (f := fun k => (spec_Expanded.f k r.1 r.2).bind fun bt354 => (if bt354.2.2 = true then ((impl_Expanded.f r.1 r.2).bind fun bt364 => ((laws_kind9.f a0).bind fun t369 => ((impl_Rebound.f t369 bt364.1).bind fun t370 => (if bt364.2.2 = true then (if bt364.1.toList = bt354.1.toList then ((spec_EqualValues.f bt364.2.1 bt354.2.1).bind fun t371 => (if t371 = true then ((laws_marks9.f k bt364.1).bind fun t372 => (if t372 = (bt364.2.1.length : Int) then ((laws_kind9.f a0).bind fun t373 => ((spec_Rebound.f k t373 bt354.1).bind fun t374 => (some (t370.toList == t374.toList)))) else (some false))) else (some false))) else (some false)) else (some false))))) else (some true))) (fun k => ?_) (Ev.bind hsp ?_)
        · simp only [laws_FnRoad.j2]
          rw [if_neg (by decide), hN]
          simp only [Option.bind_some, ↓reduceIte]
        · cases hF : inF r.1 r.2 with
          | none => exact Ev.congr (f := fun _ => some true) (fun k => rfl) (Ev.now _)
          | some q =>
            rw [hF] at him
            have hd : ∀ x ∈ q.2, deep 2 x := fun x hx => right_deep ((inF_good hr' (by omega) hF).2 x hx).1
            have hq4 : cntQ q.1.data.toList = q.2.length ∧ q.1.size ≤ 40000 := by
              cases hL : hasL r.2 with
              | false =>
                rw [inF_flat hL] at hF
                injection hF with hF
                subst hF
                exact ⟨g1, by show r.1.size ≤ _; omega⟩
              | true =>
                have hEf : hasE r.2 = false := by
                  cases hh : hasE r.2 with
                  | false => rfl
                  | true =>
                    rw [inF, if_pos hh] at hF
                    cases hF
                obtain ⟨r2, e1, e2, e3, e4, e5, e6⟩ := inF_marks g2 (by omega) hr g1 hEf hL
                rw [e1] at hF
                injection hF with hF
                subst hF
                exact ⟨e2, by omega⟩
            have hRI : impl_Rebound.f kd q.1 = some (if kd = 1 ∨ kd = 0 then q.1 else ⟨(rebL kd 0 q.1.data.toList).toArray⟩) := by
              simp only [impl_Rebound.f, sqlx_Rebind.f]
              rw [if_pos (by omega)]
              rfl
            have hRS := rebound_is kd ⟨k0, k4⟩ q.1 (by omega)
            have hMq := marks_is q.1 (by omega)
            have hqq : (cntQ q.1.data.toList : Int) = (q.2.length : Int) := by omega
            refine Ev.congr (f := fun k => (laws_marks9.f k q.1).bind fun t372 => (if t372 = (q.2.length : Int) then ((spec_Rebound.f k kd q.1).bind fun t374 => (some ((if kd = 1 ∨ kd = 0 then q.1 else ⟨(rebL kd 0 q.1.data.toList).toArray⟩).toList == t374.toList))) else (some false))) (fun k => ?_) (Ev.bind hMq (Ev.congr (fun k => by rw [if_pos hqq]) (Ev.bind hRS (Ev.congr (fun k => by rw [beq_self_eq_true]) (Ev.now true)))))
            rw [him, hk]
            show (if (true : Bool) = true then ((impl_Rebound.f kd q.1).bind fun t370 => (if (true : Bool) = true then (if q.1.toList = q.1.toList then ((spec_EqualValues.f q.2 q.2).bind fun t371 => (if t371 = true then ((laws_marks9.f k q.1).bind fun t372 => (if t372 = (q.2.length : Int) then ((spec_Rebound.f k kd q.1).bind fun t374 => (some (t370.toList == t374.toList))) else (some false))) else (some false))) else (some false)) else (some false))) else (some true)) = _
            rw [if_pos rfl, hRI, Option.bind_some, if_pos rfl, if_pos rfl, equal_self q.2 hd, Option.bind_some, if_pos rfl]
    · have e := named_unsure 1 s l hsure
      rw [e]
      exact Ev.congr (fun k => by rw [if_neg (by decide)]) (j2T _ _)
end Go.Proofs.YtnmhoghmhglimaaDoor.Pure
-- WRITTEN BY A PROGRAM OF THIS SESSION (wip/rowtexts.py). Not trusted: Lean checks it.
namespace Go.Proofs.YtnmhoghmhglimaaDoor.fnRoad
open Go.ChangeShapes Go.WideShapes Go.ChangeAt Go.RowKit
open Go.ChangeMaps (open_string shut_string)
open Go.Proofs.YtnmhoghmhglimaaDoorW.PrintWords
set_option linter.unusedVariables false
/-- A list of texts, as an argument's cells hold it. -/
theorem texts_C {W : World} {a : Addr} {len c : Nat} {ss : List ByteArray} (hl : len ≤ c) (hm : c ≤ maxLen) (hz : ss.length = c) (hc : ∀ i, i < ss.length → W.cell? (a.add i) = some (.string (ss.getD i ByteArray.empty))) : Kd.C Kd.string W (some a) len (ss.take len) := by
  refine ⟨by rw [List.length_take]; omega, by simp only [maxLen] at hm; omega, fun _ => ⟨a, rfl, fun j p hj => ⟨[.string p], rfl, rfl, fun i u hu => ?_⟩⟩⟩
  obtain ⟨hj2, hj3⟩ := List.getElem?_eq_some_iff.1 hj
  have hj4 : j < ss.length := by rw [List.length_take] at hj2; omega
  have hp : ss.getD j ByteArray.empty = p := by
    rw [← hj3, List.getElem_take]
    simp [List.getD, hj4]
  cases i with
  | zero =>
    simp at hu
    subst hu
    rw [← hp]
    show W.cell? (a.add (j * 1 + 0)) = _
    rw [Nat.mul_one, Nat.add_zero]
    exact hc j hj4
  | succ i => simp at hu
theorem laidOut : laidOutB Tryd.prog = true := by kernel_rfl
theorem door_met (os : Os) (args : Array Value) : laidMetH Tryd.prog Rows.fnRoadRow.laid ((World.doorLaid Tryd.prog 43 os).forCall (fun _ _ => 0) ⟨#[], args, []⟩).memory :=
  laidMetH_of_parts3 (fuel := 8) (laidMet_of_run' 8 (by kernel_rfl) (by kernel_rfl)) (by kernel_rfl) (by kernel_rfl)
theorem gTab : Tryd.prog.globalNamed "internal/strconv.uint64pow10" = some 2 := by kernel_rfl
theorem tab_of_laid {W : World} (h : laidMetH Tryd.prog Rows.fnRoadRow.laid W) : H.Tab W := by
  have h2 := h.filter (fun x => x.1 == "internal/strconv.uint64pow10")
  have e : (Rows.fnRoadRow.laid.filter fun x => x.1 == "internal/strconv.uint64pow10") = [("internal/strconv.uint64pow10", Lib.tabData .u64 Lib.pow10Tab)] := by kernel_rfl
  rw [e] at h2
  have h3 : laidMet Tryd.prog [("internal/strconv.uint64pow10", Lib.tabData .u64 Lib.pow10Tab)] W := h2
  exact Lib.tabIs_of_head (rest := []) gTab (t := 148) (e := 131) (n := 20) (by kernel_rfl) (by kernel_rfl) (by kernel_rfl) (by kernel_rfl) (by kernel_rfl) h3
theorem own : ownKnob Tryd.prog.godebug = none := by kernel_rfl
set_option maxRecDepth 100000 in
theorem lifted (os : Os) (started : os.Started) (H : Type) (enc : TypeId × Value → H) :
    ReturnsInHanded {} Tryd.checked os 17 .any (fun w args => (Rows.fnRoadSpec.pre enc Tryd.prog Tryd.f17 [] false w args ∧ laidMetH Tryd.prog Rows.fnRoadRow.laid w) ∧ sizedMet enc Tryd.prog Tryd.f17 (OpenSpec.ofChange Rows.fnRoadSpec) false w args) (Rows.fnRoadSpec.post enc Tryd.prog Tryd.f17 false true false false) := by
  refine returnsInHanded_of_change_and (C := Tryd.checked) (X := fun w _ => laidMetH Tryd.prog Rows.fnRoadRow.laid w) (fun _ _ _ hh h => h.of_heap hh) own started (by kernel_rfl) Tryd.func17
    (ChangeSpec.witness_shaped (enc := enc) (C := Tryd.checked) (os := os) (X := fun w _ => laidMetH Tryd.prog Rows.fnRoadRow.laid w) false (World.doorLaid Tryd.prog 43 os) #[.int .u8 0, .string ByteArray.empty, .slice none 0 0] 8 rfl (World.shaped_of_RefB (by kernel_rfl) (by kernel_rfl)) (by kernel_rfl) (by kernel_rfl) (by kernel_rfl) (door_met os _)) ?_
  intro W base args ds gs before hval0 hW hcnd hsz0 hL _
  have hsz : (DataW.weightsEach Tryd.prog (Tryd.f17.params.toList ++ Rows.fnRoadSpec.plain.varTypes Tryd.prog) (ds ++ gs)).all (· ≤ reachBytes) = true := hsz0
  have hval : ∀ (j : Nat) t v, Tryd.f17.params[j]? = some t → args[j]? = some v → Value.okWide Tryd.prog W .any base t v := hval0
  have hW' := hW
  obtain ⟨p, q, hA0, hV, rfl, hfz, hnd⟩ := hW
  have hA : DataW.TrodAll enc Tryd.prog W 0 (fun _ => true) true Tryd.f17.params.toList args.toList ds p := hA0
  rw [Tryd.params17] at hA hval hsz
  obtain ⟨v0, vs0, d0, ds0, p0, q0, hargs, rfl, rfl, h0, r0⟩ := trodAll_cons hA
  obtain ⟨v1, vs1, d1, ds1, p1, q1, rfl, rfl, rfl, h1, r1⟩ := trodAll_cons r0
  obtain ⟨v2, vs2, d2, ds2, p2, q2, rfl, rfl, rfl, h2, r2⟩ := trodAll_cons r1
  obtain ⟨rfl, rfl, rfl⟩ := trodAll_nil r2
  obtain rfl : args = #[v0, v1, v2] := by cases args; simp_all
  obtain ⟨rfl, rfl⟩ := trodVars_none hV
  obtain ⟨a0, rfl, rfl, rfl, w0⟩ := open_int Tryd.underlying5 (hval 0 5 v0 rfl rfl) h0
  obtain ⟨a1, rfl, rfl, rfl, y1⟩ := open_string Tryd.underlying9 (hval 1 9 v1 rfl rfl) h1
  obtain ⟨A2, n2, c2, rfl⟩ := okWide_slice Tryd.underlying40 (hval 2 40 v2 rfl rfl)
  have k2 := h2
  have lt2 : ∀ x ∈ p2, x.block < W.heap.size := by obtain ⟨m, hm⟩ := k2; exact DataW.trod_lt m _ _ _ hm
  obtain ⟨l2, e2, w2, u2⟩ : ∃ l : List (QN.S54), n2 = l.length ∧ Kd.C QN.k54 W A2 l.length l ∧ l.length ≤ c2 := by
    obtain ⟨fuel, hf⟩ := h2
    obtain ⟨l, A, c, hcs, hl, hC⟩ := Go.Proofs.YtnmhoghmhglimaaDoor.H.opens_args hf
    simp [Value.cells] at hcs
    obtain ⟨rfl, rfl, rfl⟩ := hcs
    exact ⟨l, rfl, hC, hl⟩
  subst e2
  clear hA0 hval0 hsz0 hsz
  obtain ⟨k, hk⟩ := Pure.FnRoad a0 a1 l2 w0
  refine (QN.laws_FnRoad.calls k a0 a1 A2 c2 l2 true W (tab_of_laid hL) w2 u2 hk).mono fun e W' ⟨he, bel⟩ => ?_
  subst he
  exact ⟨_, rfl, _, _, _, [], _, [], hW', trodAll_mk1 (shut_bool Tryd.underlying4 _), (trodAll_cons_mk (shut_int Tryd.underlying5 w0) (trodAll_cons_mk (shut_string Tryd.underlying9 y1) (trodAll_cons_mk (Below.trod laidOut (by kernel_rfl) (of_decide_eq_true (by kernel_rfl)) k2 bel lt2) trodAll_mk0))), rfl, bel.frame _, fun h => by cases h⟩
theorem lf : (Rows.fnRoadRow.lifted == Tryd.pinned.checked.prog.liftsFinal) = true := beq_iff_eq.mpr Facts.liftsFinal.symm
theorem mk : (Tryd.pinned.checked.prog.make == some Rows.fnRoadRow.make) = true := beq_iff_eq.mpr Facts.make
theorem joined : joinedFacts Tryd.pinned.checked.prog 17 Tryd.f17 Rows.fnRoadSpec Rows.fnRoadRow = true := by
  unfold joinedFacts
  rw [Facts.mayEnter, lf, mk]
  kernel_rfl
theorem over : Rows.fnRoadRow.holds Tryd.pinned (OpenSpec.ofChange Rows.fnRoadSpec) :=
  OpenClaim.holds_of_wide 17 Tryd.f17 rfl rfl rfl rfl rfl rfl rfl ⟨rfl, rfl, rfl, rfl, rfl⟩ rfl rfl rfl rfl rfl (by kernel_rfl) Tryd.func17 joined
    (of_decide_eq_true (by kernel_rfl)) (by unfold Func.isWrapper; first | (rw [if_pos (by decide +kernel)]; kernel_rfl) | (rw [if_neg (by decide +kernel)]; exact ⟨rfl, rfl⟩))
    (fun os started H enc _ => lifted os started H enc)
theorem proved : Rows.FnRoadSaid := over
theorem plain (f : FuncId) (fn : Func) (hf : Tryd.pinned.checked.prog.funcNamed "given.example/pub-conveyance/laws.FnRoad" = some f) (hfn : Tryd.pinned.checked.prog.funcs[f]? = some fn) :
    true = Tryd.pinned.checked.prog.looks [] ∧ ∀ (j : Nat) t, fn.params[j]? = some t → Tryd.pinned.checked.prog.wantsStandIn t = false := by
  obtain rfl : f = 17 := Option.some.inj ((show Tryd.prog.funcNamed "given.example/pub-conveyance/laws.FnRoad" = some 17 by kernel_rfl).symm.trans hf) |>.symm
  obtain rfl : fn = Tryd.f17 := (Option.some.inj (Tryd.func17.symm.trans hfn)).symm
  refine ⟨by kernel_rfl, fun j t ht => ?_⟩
  rw [Tryd.params17] at ht
  have hm : t ∈ [5, 9, 40] := by simpa using Array.mem_of_getElem? ht
  have hall : ([5, 9, 40].all fun u => !Tryd.prog.wantsStandIn u) = true := by kernel_rfl
  exact (show Tryd.prog.wantsStandIn t = false by simpa using List.all_eq_true.1 hall t hm)
theorem card : Rows.FnRoadCardSaid :=
  Claim7.holds_tied_plain_at .later [] _ _ _ _ proved (fun _ h => by cases h) (by kernel_rfl) (fun _ h => by cases h) fnRoad_row_tie rfl ⟨rfl, rfl⟩ Facts.mainIs rfl plain (by kernel_rfl)
#print axioms card
end Go.Proofs.YtnmhoghmhglimaaDoor.fnRoad
namespace Go.Proofs.YtnmhoghmhglimaaDoor
/-- The row, under a short name, for the claim. -/
theorem fnRoad_holds : Rows.FnRoadCardSaid := fnRoad.card
end Go.Proofs.YtnmhoghmhglimaaDoor
