/-
  MERGED BY A PROGRAM OF THIS SESSION (wip/pack.py): QN17, PureFnNamedRows, LawFnNamedRows.
-/
import Derived.Test.YtnmhoghmhglimaaDoorZB
import Derived.Test.YtnmhoghmhglimaaDoorZD
import Derived.Test.YtnmhoghmhglimaaDoorZE
import Derived.Test.YtnmhoghmhglimaaDoorZF
import Derived.Test.YtnmhoghmhglimaaDoorZI
import Derived.Test.YtnmhoghmhglimaaDoorZH
import Derived.Test.YtnmhoghmhglimaaDoorCards
import Derived.Test.YtnmhoghmhglimaaDoorTie
import Derived.LaidMore
import Derived.Lib.LaidTab
import Derived.LaidSub
import Derived.Stop.Joined
import Derived.SevenTiedAt
import Derived.Test.YtnmhoghmhglimaaDoorFactsA
import Derived.Test.YtnmhoghmhglimaaDoorFactsB
import Derived.Test.YtnmhoghmhglimaaDoorFactsC
import Derived.Test.YtnmhoghmhglimaaDoorFactsD
import Derived.Test.YtnmhoghmhglimaaDoorZG
import Derived.Test.YtnmhoghmhglimaaDoorZK
import Derived.WalkKit
import Derived.ProofKit
import Derived.OpenShut
import Derived.ShutString
import Derived.ChangeOld
import Derived.Below
import Derived.SizedLaws
import Derived.SliceStrings
-- WRITTEN BY A PROGRAM OF THIS SESSION (wip/print2.py): the print, with contracts of this session's own let in. Not trusted: Lean checks it.
namespace Go.Proofs.YtnmhoghmhglimaaDoor.QN
open Go.RowKit Go.Proofs.YtnmhoghmhglimaaDoorW.PrintWords Go.Proofs.YtnmhoghmhglimaaDoorW.PrintLast Go.Proofs.YtnmhoghmhglimaaDoorW.PrintMore
attribute [local go_sem] max2_int min2_int max_two min_two max_three min_three max_four min_four   -- for this text's walks alone
set_option linter.unusedVariables false
set_option linter.unusedSimpArgs false

open Go.Proofs.YtnmhoghmhglimaaDoor.H
/-! ### laws_FnNamedRows: function 16 -/
mutual
def laws_FnNamedRows.j0 : Nat → ByteArray → List (List (S54)) → Bool → Option (Bool)
  | 0, _, _, _ => none
  | k + 1, x0, x1, x30 => if x30 = true then (some true) else (if (x0.size : Int) > 1000 then (laws_FnNamedRows.j1 k x0 x1 true) else ((laws_rows9.f k x1).bind fun t299 => (if t299 = true then (laws_FnNamedRows.j1 k x0 x1 ((x1.length : Int) == 0)) else (laws_FnNamedRows.j1 k x0 x1 true))))
def laws_FnNamedRows.j1 : Nat → ByteArray → List (List (S54)) → Bool → Option (Bool)
  | 0, _, _, _ => none
  | k + 1, x0, x1, x43 => if x43 = true then (some true) else ((spec_Compiled.f k 1 x0).bind fun bt300 => (if bt300.2.2.2 = true then ((impl_NamedMany.f x0 x1).bind fun bt306 => (laws_FnNamedRows.l0 k x0 x1 bt306.1 bt306.2.1 bt306.2.2 ([] : List (S52)) true (⟨#[]⟩ : ByteArray) 0)) else (some true)))
def laws_FnNamedRows.l0 : Nat → ByteArray → List (List (S54)) → ByteArray → List (S52) → Bool → List (S52) → Bool → ByteArray → Int → Option (Bool)
  | 0, _, _, _, _, _, _, _, _, _ => none
  | k + 1, x0, x1, x9, x10, x11, x12, x13, x14, x15 => if x15 < (x1.length : Int) then (if 0 ≤ x15 then ((impl_Named.f x0 (rd_L7 x1 x15)).bind fun bt312 => (if x13 = true then (if x12.length + bt312.2.1.length < 2513169434916 then (laws_FnNamedRows.l0 k x0 x1 x9 x10 x11 (x12 ++ bt312.2.1) bt312.2.2 bt312.1 (wrap64 (x15 + 1))) else (none)) else (if x12.length + bt312.2.1.length < 2513169434916 then (laws_FnNamedRows.l0 k x0 x1 x9 x10 x11 (x12 ++ bt312.2.1) false bt312.1 (wrap64 (x15 + 1))) else (none)))) else (none)) else ((spec_NamedMany.f k x0 x1).bind fun bt323 => (if (x13 != bt323.2.2.1) = true then (some false) else (if (x11 != bt323.2.2.1) = true then (some false) else (if x11 = true then ((spec_EqualValues.f x10 x12).bind fun t329 => (if t329 = true then (if (x1.length : Int) > 1 then (some true) else (some (x9.toList == x14.toList))) else (some false))) else (some true)))))
end
def laws_FnNamedRows.f (k : Nat) (a0 : ByteArray) (l1 : List (List (S54))) : Option (Bool) := if (a0.size : Int) > 2147483647 then (laws_FnNamedRows.j0 k a0 l1 true) else (laws_FnNamedRows.j0 k a0 l1 (decide ((l1.length : Int) > 2147483647)))
theorem laws_FnNamedRows.mono_l : ∀ k, (∀ y0 y1 y2, LeO (laws_FnNamedRows.j0 k y0 y1 y2) (laws_FnNamedRows.j0 (k + 1) y0 y1 y2)) ∧ (∀ y0 y1 y2, LeO (laws_FnNamedRows.j1 k y0 y1 y2) (laws_FnNamedRows.j1 (k + 1) y0 y1 y2)) ∧ (∀ y0 y1 y2 y3 y4 y5 y6 y7 y8, LeO (laws_FnNamedRows.l0 k y0 y1 y2 y3 y4 y5 y6 y7 y8) (laws_FnNamedRows.l0 (k + 1) y0 y1 y2 y3 y4 y5 y6 y7 y8))
  | 0 => ⟨fun _ _ _ r h => by simp [laws_FnNamedRows.j0] at h, fun _ _ _ r h => by simp [laws_FnNamedRows.j1] at h, fun _ _ _ _ _ _ _ _ _ r h => by simp [laws_FnNamedRows.l0] at h⟩
  | k + 1 => by
    obtain ⟨ih0, ih1, ih2⟩ := laws_FnNamedRows.mono_l k
    refine ⟨?_, ?_, ?_⟩
    · intro y0 y1 y2
      unfold laws_FnNamedRows.j0
      repeat' first
      | (with_reducible exact ih0 _ _ _)
      | (with_reducible exact ih1 _ _ _)
      | (with_reducible exact ih2 _ _ _ _ _ _ _ _ _)
      | (with_reducible exact laws_rows9.mono _ _)
      | (with_reducible exact spec_Compiled.mono _ _ _)
      | (with_reducible exact spec_NamedMany.mono _ _ _)
      | (with_reducible exact LeO.refl _)
      | (with_reducible exact LeO.none _)
      | (with_reducible refine LeO.ite ?_ ?_)
      | (with_reducible refine LeO.bind ?_ (fun _ => ?_))
      | exact ih0 _ _ _
      | exact ih1 _ _ _
      | exact ih2 _ _ _ _ _ _ _ _ _
      | exact laws_rows9.mono _ _
      | exact spec_Compiled.mono _ _ _
      | exact spec_NamedMany.mono _ _ _
      | exact LeO.none _
      | refine LeO.ite ?_ ?_
      | refine LeO.bind ?_ (fun _ => ?_)
    · intro y0 y1 y2
      unfold laws_FnNamedRows.j1
      repeat' first
      | (with_reducible exact ih0 _ _ _)
      | (with_reducible exact ih1 _ _ _)
      | (with_reducible exact ih2 _ _ _ _ _ _ _ _ _)
      | (with_reducible exact laws_rows9.mono _ _)
      | (with_reducible exact spec_Compiled.mono _ _ _)
      | (with_reducible exact spec_NamedMany.mono _ _ _)
      | (with_reducible exact LeO.refl _)
      | (with_reducible exact LeO.none _)
      | (with_reducible refine LeO.ite ?_ ?_)
      | (with_reducible refine LeO.bind ?_ (fun _ => ?_))
      | exact ih0 _ _ _
      | exact ih1 _ _ _
      | exact ih2 _ _ _ _ _ _ _ _ _
      | exact laws_rows9.mono _ _
      | exact spec_Compiled.mono _ _ _
      | exact spec_NamedMany.mono _ _ _
      | exact LeO.none _
      | refine LeO.ite ?_ ?_
      | refine LeO.bind ?_ (fun _ => ?_)
    · intro y0 y1 y2 y3 y4 y5 y6 y7 y8
      unfold laws_FnNamedRows.l0
      repeat' first
      | (with_reducible exact ih0 _ _ _)
      | (with_reducible exact ih1 _ _ _)
      | (with_reducible exact ih2 _ _ _ _ _ _ _ _ _)
      | (with_reducible exact laws_rows9.mono _ _)
      | (with_reducible exact spec_Compiled.mono _ _ _)
      | (with_reducible exact spec_NamedMany.mono _ _ _)
      | (with_reducible exact LeO.refl _)
      | (with_reducible exact LeO.none _)
      | (with_reducible refine LeO.ite ?_ ?_)
      | (with_reducible refine LeO.bind ?_ (fun _ => ?_))
      | exact ih0 _ _ _
      | exact ih1 _ _ _
      | exact ih2 _ _ _ _ _ _ _ _ _
      | exact laws_rows9.mono _ _
      | exact spec_Compiled.mono _ _ _
      | exact spec_NamedMany.mono _ _ _
      | exact LeO.none _
      | refine LeO.ite ?_ ?_
      | refine LeO.bind ?_ (fun _ => ?_)
theorem laws_FnNamedRows.mono : ∀ a0 a1 k, LeO (laws_FnNamedRows.f k a0 a1) (laws_FnNamedRows.f (k + 1) a0 a1) := by
  intro a0 a1 k
  obtain ⟨ih0, ih1, ih2⟩ := laws_FnNamedRows.mono_l k
  unfold laws_FnNamedRows.f
  repeat' first
      | (with_reducible exact ih0 _ _ _)
      | (with_reducible exact ih1 _ _ _)
      | (with_reducible exact ih2 _ _ _ _ _ _ _ _ _)
      | (with_reducible exact laws_rows9.mono _ _)
      | (with_reducible exact spec_Compiled.mono _ _ _)
      | (with_reducible exact spec_NamedMany.mono _ _ _)
      | (with_reducible exact LeO.refl _)
      | (with_reducible exact LeO.none _)
      | (with_reducible refine LeO.ite ?_ ?_)
      | (with_reducible refine LeO.bind ?_ (fun _ => ?_))
      | exact ih0 _ _ _
      | exact ih1 _ _ _
      | exact ih2 _ _ _ _ _ _ _ _ _
      | exact laws_rows9.mono _ _
      | exact spec_Compiled.mono _ _ _
      | exact spec_NamedMany.mono _ _ _
      | exact LeO.none _
      | refine LeO.ite ?_ ?_
      | refine LeO.bind ?_ (fun _ => ?_)
set_option maxHeartbeats 8000000 in
set_option maxRecDepth 100000 in
theorem laws_FnNamedRows.calls (k : Nat) (a0 : ByteArray) (A1 : Option Addr) (c1 : Nat) (l1 : List (List (S54))) (r : Bool) (w : World) (ht_ : Tab w) (hr1 : Kd.C (Kd.slice 54 k54) w A1 l1.length l1) (hc1 : l1.length ≤ c1) (h : laws_FnNamedRows.f k a0 l1 = some r) :
    Calls Tryd.prog 16 #[.string a0, .slice A1 l1.length c1] w fun e w' => e = .returned (.bool r) ∧ Below w.heap.size w w' := by
  have HR1 := Aside0.mk hr1
  have HC1 := Aside0.mk hc1
  clear hr1 hc1
  have HB := Aside0.mk (Below.refl w.heap.size w)
  have HT_ := Aside0.mk (tab_below ht_)
  clear ht_
  have H : (if (a0.size : Int) > 2147483647 then (laws_FnNamedRows.j0 k a0 l1 true) else (laws_FnNamedRows.j0 k a0 l1 (decide ((l1.length : Int) > 2147483647)))) = some r := h
  clear h
  have HC3 := Aside0.mk H
  clear H
  go_enter Tryd.func16, Tryd.ntmps16
  go_upto_region 1 with (fail)
  go_cut [30] (fun v30 wc => ∃ (kq : Nat) (x30_2 : Bool), v30 = .bool x30_2 ∧ Aside0 (laws_FnNamedRows.j0 kq a0 l1 x30_2 = some r) ∧ Aside0 (kq ≤ k) ∧ Aside0 (Below w.heap.size w wc))
  case first =>
    have H := HC3.out
    clear HC3
    by_cases c4 : (a0.size : Int) > 2147483647
    · rw [if_pos c4] at H
      have c4b0 : decide (2147483647 < (a0.size : Int)) = true := decide_eq_true c4
      have c4b1 : decide (2147483647 < a0.size) = true := decide_eq_true (by omega)
      clear c4
      (first | rw [c4b0] | (simp only [i64_w, i32_w]; rw [c4b0]) | skip)
      have H' := Aside0.mk H
      clear H
      go_wp2
      go_meet
      case rel => exact ⟨_, (true), (by first | rfl | (simp; done) | (simp [*]; done)), H', ⟨by first | omega | exact Nat.le_refl _⟩, ⟨by repeat (first | (with_reducible first | exact HB.out | apply below_alloc | apply pw_below_drewN | apply below_drew1) | exact HB.out)⟩⟩
    · rw [if_neg c4] at H
      have c4b0 : decide (2147483647 < (a0.size : Int)) = false := decide_eq_false c4
      have c4b1 : decide (2147483647 < a0.size) = false := decide_eq_false (by omega)
      clear c4
      (first | rw [c4b0] | (simp only [i64_w, i32_w]; rw [c4b0]) | skip)
      have H' := Aside0.mk H
      clear H
      go_wp2
      go_meet
      case rel => exact ⟨_, (decide ((l1.length : Int) > 2147483647)), (by first | rfl | (simp; done) | (simp [*]; done)), H', ⟨by first | omega | exact Nat.le_refl _⟩, ⟨by repeat (first | (with_reducible first | exact HB.out | apply below_alloc | apply pw_below_drewN | apply below_drew1) | exact HB.out)⟩⟩
  case rest =>
    clear HC3
    try clear c1
    try clear p2
    try clear c4
    try clear c4b0
    try clear c4b1
    obtain ⟨kq, x30_2, rfl, HA, HJ2, HB⟩ := hcut
    cases kq with
    | zero => exact absurd HA.out (by simp [laws_FnNamedRows.j0])
    | succ kj2 =>
      have H := HA.out
      clear HA
      simp only [laws_FnNamedRows.j0] at H
      by_cases c5 : x30_2 = true
      · subst c5
        have H1 : (some true) = some r := by rw [if_pos rfl] at H; exact H
        clear H
        have H := H1
        clear H1
        obtain rfl := Option.some.inj H
        go_wp2
        go_ret
        exact ⟨by first | rfl | (simp [errW_none, errW_some] <;> rfl) | (simp [*, errW_none, errW_some] <;> rfl), by repeat (first | (with_reducible first | exact HB.out | apply below_alloc | apply pw_below_drewN | apply below_drew1) | exact HB.out)⟩
      · replace c5 := Bool.eq_false_iff.mpr c5
        subst c5
        have H1 : (if (a0.size : Int) > 1000 then (laws_FnNamedRows.j1 kj2 a0 l1 true) else ((laws_rows9.f kj2 l1).bind fun t299 => (if t299 = true then (laws_FnNamedRows.j1 kj2 a0 l1 ((l1.length : Int) == 0)) else (laws_FnNamedRows.j1 kj2 a0 l1 true)))) = some r := by rw [if_neg (show ¬ (false = true) by decide)] at H; exact H
        clear H
        have H := H1
        clear H1
        have HC6 := Aside0.mk H
        clear H
        go_upto_region 3 with (fail)
        go_cut [43] (fun v43 wc => ∃ (kq : Nat) (x43_5 : Bool), v43 = .bool x43_5 ∧ Aside0 (laws_FnNamedRows.j1 kq a0 l1 x43_5 = some r) ∧ Aside0 (kq ≤ kj2) ∧ Aside0 (Below w.heap.size w wc))
        case first =>
          have H := HC6.out
          clear HC6
          by_cases c7 : (a0.size : Int) > 1000
          · rw [if_pos c7] at H
            have c7b0 : decide (1000 < (a0.size : Int)) = true := decide_eq_true c7
            have c7b1 : decide (1000 < a0.size) = true := decide_eq_true (by omega)
            clear c7
            (first | rw [c7b0] | (simp only [i64_w, i32_w]; rw [c7b0]) | skip)
            have H' := Aside0.mk H
            clear H
            go_wp2
            go_meet
            case rel => exact ⟨_, (true), (by first | rfl | (simp; done) | (simp [*]; done)), H', ⟨by have := HJ2.out; first | omega | exact Nat.le_refl _⟩, ⟨by repeat (first | (with_reducible first | exact HB.out | apply below_alloc | apply pw_below_drewN | apply below_drew1) | exact HB.out)⟩⟩
          · rw [if_neg c7] at H
            have c7b0 : decide (1000 < (a0.size : Int)) = false := decide_eq_false c7
            have c7b1 : decide (1000 < a0.size) = false := decide_eq_false (by omega)
            clear c7
            (first | rw [c7b0] | (simp only [i64_w, i32_w]; rw [c7b0]) | skip)
            replace H := Option.bind_eq_some_iff.mp H
            obtain ⟨t299, A80, H⟩ := H
            replace H : (if t299 = true then (laws_FnNamedRows.j1 kj2 a0 l1 ((l1.length : Int) == 0)) else (laws_FnNamedRows.j1 kj2 a0 l1 true)) = some r := H
            have A8 := Aside0.mk A80
            clear A80
            by_cases c9 : t299 = true
            · subst c9
              have H1 : (laws_FnNamedRows.j1 kj2 a0 l1 ((l1.length : Int) == 0)) = some r := by rw [if_pos rfl] at H; exact H
              clear H
              have H := H1
              clear H1
              have H' := Aside0.mk H
              clear H
              go_wp2_with (first | (go_at_call 40; (with_reducible refine (laws_rows9.calls kj2 _ _ l1 true _ ?side1 ?side2 A8.out).mono ?_); (case side1 => repeat (first | exact (Kd.C_below HR1.out HB.out) | (with_reducible refine Kd.C_alloc ?_ _) | (with_reducible refine Kd.C_drewN ?_ _) | (with_reducible refine Kd.C_drew ?_))); (case side2 => exact HC1.out); rintro e w10 ⟨rfl, hb⟩; have n0_ := Aside0.mk (below_step (by repeat (first | (with_reducible first | exact HB.out | apply below_alloc | apply pw_below_drewN | apply below_drew1) | exact HB.out)) hb); clear HB; have HB := n0_; clear n0_; (try clear hb); (try clear hb2); (try clear hk); (try clear hi)))
              go_meet
              case rel => exact ⟨_, (((l1.length : Int) == 0)), (by first | rfl | (simp; done) | (simp [*]; done)), H', ⟨by have := HJ2.out; first | omega | exact Nat.le_refl _⟩, ⟨by repeat (first | (with_reducible first | exact HB.out | apply below_alloc | apply pw_below_drewN | apply below_drew1) | exact HB.out)⟩⟩
            · replace c9 := Bool.eq_false_iff.mpr c9
              subst c9
              have H1 : (laws_FnNamedRows.j1 kj2 a0 l1 true) = some r := by rw [if_neg (show ¬ (false = true) by decide)] at H; exact H
              clear H
              have H := H1
              clear H1
              have H' := Aside0.mk H
              clear H
              go_wp2_with (first | (go_at_call 40; (with_reducible refine (laws_rows9.calls kj2 _ _ l1 false _ ?side1 ?side2 A8.out).mono ?_); (case side1 => repeat (first | exact (Kd.C_below HR1.out HB.out) | (with_reducible refine Kd.C_alloc ?_ _) | (with_reducible refine Kd.C_drewN ?_ _) | (with_reducible refine Kd.C_drew ?_))); (case side2 => exact HC1.out); rintro e w11 ⟨rfl, hb⟩; have n0_ := Aside0.mk (below_step (by repeat (first | (with_reducible first | exact HB.out | apply below_alloc | apply pw_below_drewN | apply below_drew1) | exact HB.out)) hb); clear HB; have HB := n0_; clear n0_; (try clear hb); (try clear hb2); (try clear hk); (try clear hi)))
              go_meet
              case rel => exact ⟨_, (true), (by first | rfl | (simp; done) | (simp [*]; done)), H', ⟨by have := HJ2.out; first | omega | exact Nat.le_refl _⟩, ⟨by repeat (first | (with_reducible first | exact HB.out | apply below_alloc | apply pw_below_drewN | apply below_drew1) | exact HB.out)⟩⟩
        case rest =>
          clear HC6
          try clear c1
          try clear p2
          try clear c4
          try clear c4b0
          try clear c4b1
          try clear c5
          try clear c7
          try clear c7b0
          try clear c7b1
          try clear c9
          try clear p2
          obtain ⟨kq, x43_5, rfl, HA, HJ5, HB⟩ := hcut
          cases kq with
          | zero => exact absurd HA.out (by simp [laws_FnNamedRows.j1])
          | succ kj5 =>
            have H := HA.out
            clear HA
            simp only [laws_FnNamedRows.j1] at H
            by_cases c12 : x43_5 = true
            · subst c12
              have H1 : (some true) = some r := by rw [if_pos rfl] at H; exact H
              clear H
              have H := H1
              clear H1
              obtain rfl := Option.some.inj H
              go_wp2
              go_ret
              exact ⟨by first | rfl | (simp [errW_none, errW_some] <;> rfl) | (simp [*, errW_none, errW_some] <;> rfl), by repeat (first | (with_reducible first | exact HB.out | apply below_alloc | apply pw_below_drewN | apply below_drew1) | exact HB.out)⟩
            · replace c12 := Bool.eq_false_iff.mpr c12
              subst c12
              have H1 : ((spec_Compiled.f kj5 1 a0).bind fun bt300 => (if bt300.2.2.2 = true then ((impl_NamedMany.f a0 l1).bind fun bt306 => (laws_FnNamedRows.l0 kj5 a0 l1 bt306.1 bt306.2.1 bt306.2.2 ([] : List (S52)) true (⟨#[]⟩ : ByteArray) 0)) else (some true))) = some r := by rw [if_neg (show ¬ (false = true) by decide)] at H; exact H
              clear H
              have H := H1
              clear H1
              replace H := Option.bind_eq_some_iff.mp H
              obtain ⟨⟨t300, t301, t302, t303⟩, A130, H⟩ := H
              replace H : (if t303 = true then ((impl_NamedMany.f a0 l1).bind fun bt306 => (laws_FnNamedRows.l0 kj5 a0 l1 bt306.1 bt306.2.1 bt306.2.2 ([] : List (S52)) true (⟨#[]⟩ : ByteArray) 0)) else (some true)) = some r := H
              have A13 := Aside0.mk A130
              clear A130
              by_cases c14 : t303 = true
              · subst c14
                have H1 : ((impl_NamedMany.f a0 l1).bind fun bt306 => (laws_FnNamedRows.l0 kj5 a0 l1 bt306.1 bt306.2.1 bt306.2.2 ([] : List (S52)) true (⟨#[]⟩ : ByteArray) 0)) = some r := by rw [if_pos rfl] at H; exact H
                clear H
                have H := H1
                clear H1
                replace H := Option.bind_eq_some_iff.mp H
                obtain ⟨⟨t306, t307, t308⟩, A150, H⟩ := H
                replace H : (laws_FnNamedRows.l0 kj5 a0 l1 t306 t307 t308 ([] : List (S52)) true (⟨#[]⟩ : ByteArray) 0) = some r := H
                have A15 := Aside0.mk A150
                clear A150
                have H' := Aside0.mk H
                clear H
                go_wp2_with (first | ((with_reducible refine gate_callee (f := 26) rfl ?_); refine goesL_ (some 46) rfl rfl Tryd.func26 (by kernel_rfl) rfl #[.int .i64 1, .string a0] rfl (by (try simp only [List.map_toArray, List.map_cons, List.map_nil]); first | done | rfl | (simp only [List.length_drop, List.length_take]; rfl)) ?_; (with_reducible refine (spec_Compiled.calls kj5 1 a0 t300 t301 t302 true _ A13.out).mono ?_); rintro e w16 ⟨v304, rfl, ho0, hb⟩; refine ⟨_, rfl, ?_⟩; have n0_ := Aside0.mk (Kd.R_lower ho0 (below_size (by repeat (first | (with_reducible first | exact HB.out | apply below_alloc | apply pw_below_drewN | apply below_drew1) | exact HB.out)))); have n1_ := Aside0.mk (below_step (by repeat (first | (with_reducible first | exact HB.out | apply below_alloc | apply pw_below_drewN | apply below_drew1) | exact HB.out)) hb); clear HB; have HO305 := n0_; have HB := n1_; clear n0_ n1_; (try clear hb); (try clear hb2); (try clear hk); (try clear hi); (try clear ho0)) | ((with_reducible refine gate_callee (f := 43) rfl ?_); refine goesL_ (some 56) rfl rfl Tryd.func43 (by kernel_rfl) rfl #[.string a0, .slice A1 l1.length c1] rfl (by (try simp only [List.map_toArray, List.map_cons, List.map_nil]); first | done | rfl | (simp only [List.length_drop, List.length_take]; rfl)) ?_; (with_reducible refine (impl_NamedMany.calls a0 _ _ l1 t306 t307 t308 _ (tab_at HT_.out (by repeat (first | (with_reducible first | exact HB.out | apply below_alloc | apply pw_below_drewN | apply below_drew1) | exact HB.out))) ?side1 ?side2 A15.out).mono ?_); (case side1 => repeat (first | exact (Kd.C_below HR1.out HB.out) | (with_reducible refine Kd.C_alloc ?_ _) | (with_reducible refine Kd.C_drewN ?_ _) | (with_reducible refine Kd.C_drew ?_))); (case side2 => exact HC1.out); rintro e w17 ⟨v309, rfl, ho0, hb⟩; refine ⟨_, rfl, ?_⟩; have n0_ := Aside0.mk (Kd.R_below (by (with_reducible repeat (first | apply Kd.R_alloc | apply Kd.R_drewN | apply Kd.R_drew)); exact HO305.out) hb); have n1_ := Aside0.mk (Kd.N_lower (Kd.N_mono (ok' := fun k_ => some k_ ≠ (v304 : Value).ownBlock) (Kd.R_N (Kd.R_bound ho0)) (fun k_ hk_ => (Kd.fresh' (Kd.R_lt (by (with_reducible repeat (first | apply Kd.R_alloc | apply Kd.R_drewN | apply Kd.R_drew)); exact HO305.out)) k_ hk_.2.1))) (below_size (by repeat (first | (with_reducible first | exact HB.out | apply below_alloc | apply pw_below_drewN | apply below_drew1) | exact HB.out)))); have n2_ := Aside0.mk (below_step (by repeat (first | (with_reducible first | exact HB.out | apply below_alloc | apply pw_below_drewN | apply below_drew1) | exact HB.out)) hb); clear HO305; clear HB; have HO305 := n0_; have HO310 := n1_; have HB := n2_; clear n0_ n1_ n2_; (try clear hb); (try clear hb2); (try clear hk); (try clear hi); (try clear ho0)))
                go_loopg [12, 13, 14, 15] kj5 (fun kq v12 v13 v14 v15 w' => ∃ (x12_3 : List (S52)) (x13_3 : Bool) (x14_3 : ByteArray) (x15_3 : Int), v13 = .bool x13_3 ∧ v14 = .string x14_3 ∧ v15 = .int .i64 x15_3 ∧ Aside0 (laws_FnNamedRows.l0 kq a0 l1 t306 t307 t308 x12_3 x13_3 x14_3 x15_3 = some r) ∧ Aside0 (kq ≤ kj5) ∧ Aside0 (Kd.N k52 52 w' w.heap.size (fun k_ => some k_ ≠ (v12 : Value).ownBlock) v309 t307) ∧ Aside0 (Kd.N k52 52 w' w.heap.size (fun k_ => some k_ ≠ (v309 : Value).ownBlock) v12 x12_3) ∧ Aside0 (Below w.heap.size w w'))
                case atStart => exact ⟨(([] : List (S52))), (true), ((⟨#[]⟩ : ByteArray)), (0), (by first | rfl | (simp; done) | (simp [*]; done)), (by first | rfl | (simp; done) | (simp [*]; done)), (by first | rfl | (simp; done) | (simp [*]; done)), H', ⟨Nat.le_refl _⟩, ⟨by (with_reducible repeat (first | apply Kd.N_alloc | apply Kd.N_drewN | apply Kd.N_drew)); exact Kd.N_mono HO310.out (fun _ hk => (by simp [Value.ownBlock]))⟩, ⟨by first | exact Kd.R_nil _ _ _ _ _ | exact Kd.N_nil _ _ _ _ _ | exact Kd.V_nil _ _ _ _ _ | exact Kd.Q_nil _ _ _ _ _ | exact Kd.S_nil _ _ _ _ _⟩, ⟨by repeat (first | (with_reducible first | exact HB.out | apply below_alloc | apply pw_below_drewN | apply below_drew1) | exact HB.out)⟩⟩
                case round =>
                  clear H'
                  try clear c1
                  try clear c2
                  try clear p2
                  try clear c4
                  try clear c4b0
                  try clear c4b1
                  try clear c5
                  try clear c7
                  try clear c7b0
                  try clear c7b1
                  try clear c9
                  try clear c12
                  try clear c14
                  try clear c16
                  try clear p2
                  obtain ⟨x12_3, x13_3, x14_3, x15_3, rfl, rfl, rfl, HA, HK3, HO_10, HO_12, HB⟩ := hrel
                  cases gk with
                  | zero => exact absurd HA.out (by simp [laws_FnNamedRows.l0])
                  | succ k3 =>
                    have H := HA.out
                    clear HA
                    simp only [laws_FnNamedRows.l0] at H
                    by_cases c18 : x15_3 < (l1.length : Int)
                    · rw [if_pos c18] at H
                      have c18b0 : decide (x15_3 < (l1.length : Int)) = true := decide_eq_true c18
                      clear c18
                      by_cases c19 : 0 ≤ x15_3
                      · rw [if_pos c19] at H
                        have c19b0 : decide (0 ≤ x15_3) = true := decide_eq_true c19
                        clear c19
                        replace H := Option.bind_eq_some_iff.mp H
                        obtain ⟨⟨t312, t313, t314⟩, A200, H⟩ := H
                        replace H : (if x13_3 = true then (if x12_3.length + t313.length < 2513169434916 then (laws_FnNamedRows.l0 k3 a0 l1 t306 t307 t308 (x12_3 ++ t313) t314 t312 (wrap64 (x15_3 + 1))) else (none)) else (if x12_3.length + t313.length < 2513169434916 then (laws_FnNamedRows.l0 k3 a0 l1 t306 t307 t308 (x12_3 ++ t313) false t312 (wrap64 (x15_3 + 1))) else (none))) = some r := H
                        have A20 := Aside0.mk A200
                        clear A200
                        by_cases c21 : x13_3 = true
                        · subst c21
                          have H1 : (if x12_3.length + t313.length < 2513169434916 then (laws_FnNamedRows.l0 k3 a0 l1 t306 t307 t308 (x12_3 ++ t313) t314 t312 (wrap64 (x15_3 + 1))) else (none)) = some r := by rw [if_pos rfl] at H; exact H
                          clear H
                          have H := H1
                          clear H1
                          by_cases c22 : x12_3.length + t313.length < 2513169434916
                          · rw [if_pos c22] at H
                            have LMc22 := Aside0.mk c22
                            clear c22
                            obtain ⟨y317, hy317⟩ : ∃ y_ : List (S52), y_ = (x12_3 ++ t313) := ⟨_, rfl⟩
                            replace H : (laws_FnNamedRows.l0 k3 a0 l1 t306 t307 t308 y317 t314 t312 (wrap64 (x15_3 + 1))) = some r := by first | (rw [hy317]; with_reducible exact H) | (have H2_ := (Option.bind_some _ _).symm.trans H; rw [hy317]; with_reducible exact H2_) | (have H2_ := (Option.bind_some _ _).symm.trans H; with_reducible exact H2_) | with_reducible exact H | (rw [hy317]; exact H) | exact H
                            have Ny317 := Aside0.mk hy317
                            clear hy317
                            have H' := Aside0.mk H
                            clear H
                            have p311 : 0 ≤ (x15_3 : Int) := of_decide_eq_true (by first | (with_reducible assumption) | assumption)
                            have q311 : x15_3 < (l1.length : Int) := of_decide_eq_true (by first | (with_reducible assumption) | assumption)
                            obtain ⟨ad311, A311_0, c311_0, e311, hx311_0, hl311_0, hi311_0⟩ := at_L7 HR1.out x15_3 p311 q311
                            cases e311
                            replace hx311_0 := (HB.out.cell (World.block_lt_of_cell? w _ hx311_0)).trans hx311_0
                            have HR311_0 := Aside0.mk hi311_0
                            have HC311_0 := Aside0.mk hl311_0
                            clear hi311_0 hl311_0
                            replace p311 := eq_true p311
                            replace q311 := eq_true q311
                            go_wp2_with (first | ((with_reducible refine gate_callee (f := 38) rfl ?_); refine goesL_ (some 72) rfl rfl Tryd.func38 (by kernel_rfl) rfl #[.string a0, .slice A311_0 (rd_L7 l1 x15_3).length c311_0] rfl (by (try simp only [List.map_toArray, List.map_cons, List.map_nil]); first | done | rfl | (simp only [List.length_drop, List.length_take]; rfl)) ?_; (with_reducible refine (impl_Named.calls a0 _ _ (rd_L7 l1 x15_3) t312 t313 t314 _ (tab_at HT_.out (by repeat (first | (with_reducible first | exact HB.out | apply below_alloc | apply pw_below_drewN | apply below_drew1) | exact HB.out))) ?side1 ?side2 A20.out).mono ?_); (case side1 => repeat (first | exact (Kd.C_below HR311_0.out HB.out) | (with_reducible refine Kd.C_alloc ?_ _) | (with_reducible refine Kd.C_drewN ?_ _) | (with_reducible refine Kd.C_drew ?_))); (case side2 => exact HC311_0.out); rintro e w23 ⟨v315, rfl, ho0, hb⟩; refine ⟨_, rfl, ?_⟩; have n0_ := Aside0.mk (Kd.N_elder' (by (with_reducible repeat (first | apply Kd.N_alloc | apply Kd.N_drewN | apply Kd.N_drew)); exact HO_10.out) (Kd.N_base (Kd.R_N ho0)) hb); have n1_ := Aside0.mk (Kd.N_elder' (by (with_reducible repeat (first | apply Kd.N_alloc | apply Kd.N_drewN | apply Kd.N_drew)); exact HO_12.out) (Kd.N_base (Kd.R_N ho0)) hb); have n2_ := Aside0.mk (Kd.N_lower (Kd.N_mono (ok' := fun k_ => some k_ ≠ (v309 : Value).ownBlock ∧ some k_ ≠ (u12 : Value).ownBlock) (Kd.R_N (Kd.R_bound ho0)) (fun k_ hk_ => ⟨(Kd.fresh' (Kd.N_lt (by (with_reducible repeat (first | apply Kd.N_alloc | apply Kd.N_drewN | apply Kd.N_drew)); exact HO_10.out)) k_ hk_.2.1), (Kd.fresh' (Kd.N_lt (by (with_reducible repeat (first | apply Kd.N_alloc | apply Kd.N_drewN | apply Kd.N_drew)); exact HO_12.out)) k_ hk_.2.1)⟩)) (below_size (by repeat (first | (with_reducible first | exact HB.out | apply below_alloc | apply pw_below_drewN | apply below_drew1) | exact HB.out)))); have n3_ := Aside0.mk (below_step (by repeat (first | (with_reducible first | exact HB.out | apply below_alloc | apply pw_below_drewN | apply below_drew1) | exact HB.out)) hb); clear HO_10; clear HO_12; clear HB; have HO_10 := n0_; have HO_12 := n1_; have HO316 := n2_; have HB := n3_; clear n0_ n1_ n2_ n3_; (try clear hb); (try clear hb2); (try clear hk); (try clear hi); (try clear ho0); obtain ⟨Ao25, co25, eo25⟩ := Kd.N_slice HO316.out; subst eo25) | ((with_reducible refine gate_builtin (b := .append) (xs := #[.tmp 80, .tmp 81]) rfl ?_); (try (refine gate_guard (by rfl) ?_; dsimp only)); at_builtin; refine Kd.N_append_rows k52 (w0 := w) w.heap.size rfl (.tmp 80) (.tmp 81) 42 52 (.agg #[(.int .i64 0), (.int .i64 0), (.string ⟨#[]⟩), (.slice none 0 0)]) 56 rfl Tryd.underlying42 info52 rfl (by decide) (by omega) u12 x12_3 t313 _ _ _ (fun k_ => some k_ ≠ (v309 : Value).ownBlock) (fun k_ => ((fun k_ => some k_ ≠ (v309 : Value).ownBlock)) k_ ∧ some k_ ≠ (u12 : Value).ownBlock) rfl rfl ?aO ?aR (fun _ hk => hk) ?aF ?aB ?aS ?aL ?_; (case aR => exact (by skip; exact Kd.N_F (Kd.N_mono (ok' := (fun k_ => ((fun k_ => some k_ ≠ (v309 : Value).ownBlock)) k_ ∧ some k_ ≠ (u12 : Value).ownBlock)) (HO316.out) (fun k_ hk => ⟨hk.1, hk.2⟩)))); (case aB => exact (by repeat (first | (with_reducible first | exact HB.out | apply below_alloc | apply pw_below_drewN | apply below_drew1) | exact HB.out))); (case aF => exact (fun k_ hk => Kd.fresh' (Kd.N_lt (by (with_reducible repeat (first | apply Kd.N_alloc | apply Kd.N_drewN | apply Kd.N_drew)); exact HO_10.out)) k_ hk)); (case aO => exact (by (with_reducible repeat (first | apply Kd.N_alloc | apply Kd.N_drewN | apply Kd.N_drew)); exact Kd.N_mono HO_12.out (fun _ hk => hk.1))); (case aS => exact (below_size (by repeat (first | (with_reducible first | exact HB.out | apply below_alloc | apply pw_below_drewN | apply below_drew1) | exact HB.out)))); (case aL => have := LMc22.out; omega); intro v318 w24 ho hb hg hat; rw [← Ny317.out] at ho; have n0_ := Aside0.mk (Kd.N_afterv (ok := (fun k_ => some k_ ≠ (.slice Ao25 t313.length co25 : Value).ownBlock)) (by (with_reducible repeat (first | apply Kd.N_alloc | apply Kd.N_drewN | apply Kd.N_drew)); exact Kd.N_mono HO_10.out (fun _ hk => ⟨hk.2, hk.1⟩)) hg hat); have n1_ := Aside0.mk (Kd.N_afterv (ok := (fun k_ => some k_ ≠ (v309 : Value).ownBlock)) (by (with_reducible repeat (first | apply Kd.N_alloc | apply Kd.N_drewN | apply Kd.N_drew)); exact HO316.out) hg hat); have n2_ := Aside0.mk (hb); have n3_ := Aside0.mk (ho); clear HO_10; clear HO316; clear HB; clear HO_12; have HO_10 := n0_; have HO316 := n1_; have HB := n2_; have HO319 := n3_; clear n0_ n1_ n2_ n3_; clear ho hb hg hat))
                            go_roundg k3
                            case measure => have := HJ2.out; have := HJ5.out; have := HK3.out; omega
                            case rel => exact ⟨(y317), (t314), (t312), (wrap64 (x15_3 + 1)), (by first | rfl | (simp; done) | (simp [*]; done)), (by first | rfl | (simp; done) | (simp [*]; done)), (by first | rfl | (simp; done) | (simp [*]; done)), H', ⟨by have := HJ2.out; have := HJ5.out; have := HK3.out; omega⟩, ⟨by (with_reducible repeat (first | apply Kd.N_alloc | apply Kd.N_drewN | apply Kd.N_drew)); exact Kd.N_mono HO_10.out (fun _ hk => hk.2)⟩, ⟨by (with_reducible repeat (first | apply Kd.N_alloc | apply Kd.N_drewN | apply Kd.N_drew)); exact HO319.out⟩, ⟨by repeat (first | (with_reducible first | exact HB.out | apply below_alloc | apply pw_below_drewN | apply below_drew1) | exact HB.out)⟩⟩
                          · rw [if_neg c22] at H
                            exact absurd H (by simp)
                        · replace c21 := Bool.eq_false_iff.mpr c21
                          subst c21
                          have H1 : (if x12_3.length + t313.length < 2513169434916 then (laws_FnNamedRows.l0 k3 a0 l1 t306 t307 t308 (x12_3 ++ t313) false t312 (wrap64 (x15_3 + 1))) else (none)) = some r := by rw [if_neg (show ¬ (false = true) by decide)] at H; exact H
                          clear H
                          have H := H1
                          clear H1
                          by_cases c26 : x12_3.length + t313.length < 2513169434916
                          · rw [if_pos c26] at H
                            have LMc26 := Aside0.mk c26
                            clear c26
                            obtain ⟨y320, hy320⟩ : ∃ y_ : List (S52), y_ = (x12_3 ++ t313) := ⟨_, rfl⟩
                            replace H : (laws_FnNamedRows.l0 k3 a0 l1 t306 t307 t308 y320 false t312 (wrap64 (x15_3 + 1))) = some r := by first | (rw [hy320]; with_reducible exact H) | (have H2_ := (Option.bind_some _ _).symm.trans H; rw [hy320]; with_reducible exact H2_) | (have H2_ := (Option.bind_some _ _).symm.trans H; with_reducible exact H2_) | with_reducible exact H | (rw [hy320]; exact H) | exact H
                            have Ny320 := Aside0.mk hy320
                            clear hy320
                            have H' := Aside0.mk H
                            clear H
                            have p311 : 0 ≤ (x15_3 : Int) := of_decide_eq_true (by first | (with_reducible assumption) | assumption)
                            have q311 : x15_3 < (l1.length : Int) := of_decide_eq_true (by first | (with_reducible assumption) | assumption)
                            obtain ⟨ad311, A311_0, c311_0, e311, hx311_0, hl311_0, hi311_0⟩ := at_L7 HR1.out x15_3 p311 q311
                            cases e311
                            replace hx311_0 := (HB.out.cell (World.block_lt_of_cell? w _ hx311_0)).trans hx311_0
                            have HR311_0 := Aside0.mk hi311_0
                            have HC311_0 := Aside0.mk hl311_0
                            clear hi311_0 hl311_0
                            replace p311 := eq_true p311
                            replace q311 := eq_true q311
                            go_wp2_with (first | ((with_reducible refine gate_callee (f := 38) rfl ?_); refine goesL_ (some 72) rfl rfl Tryd.func38 (by kernel_rfl) rfl #[.string a0, .slice A311_0 (rd_L7 l1 x15_3).length c311_0] rfl (by (try simp only [List.map_toArray, List.map_cons, List.map_nil]); first | done | rfl | (simp only [List.length_drop, List.length_take]; rfl)) ?_; (with_reducible refine (impl_Named.calls a0 _ _ (rd_L7 l1 x15_3) t312 t313 t314 _ (tab_at HT_.out (by repeat (first | (with_reducible first | exact HB.out | apply below_alloc | apply pw_below_drewN | apply below_drew1) | exact HB.out))) ?side1 ?side2 A20.out).mono ?_); (case side1 => repeat (first | exact (Kd.C_below HR311_0.out HB.out) | (with_reducible refine Kd.C_alloc ?_ _) | (with_reducible refine Kd.C_drewN ?_ _) | (with_reducible refine Kd.C_drew ?_))); (case side2 => exact HC311_0.out); rintro e w27 ⟨v315, rfl, ho0, hb⟩; refine ⟨_, rfl, ?_⟩; have n0_ := Aside0.mk (Kd.N_elder' (by (with_reducible repeat (first | apply Kd.N_alloc | apply Kd.N_drewN | apply Kd.N_drew)); exact HO_10.out) (Kd.N_base (Kd.R_N ho0)) hb); have n1_ := Aside0.mk (Kd.N_elder' (by (with_reducible repeat (first | apply Kd.N_alloc | apply Kd.N_drewN | apply Kd.N_drew)); exact HO_12.out) (Kd.N_base (Kd.R_N ho0)) hb); have n2_ := Aside0.mk (Kd.N_lower (Kd.N_mono (ok' := fun k_ => some k_ ≠ (v309 : Value).ownBlock ∧ some k_ ≠ (u12 : Value).ownBlock) (Kd.R_N (Kd.R_bound ho0)) (fun k_ hk_ => ⟨(Kd.fresh' (Kd.N_lt (by (with_reducible repeat (first | apply Kd.N_alloc | apply Kd.N_drewN | apply Kd.N_drew)); exact HO_10.out)) k_ hk_.2.1), (Kd.fresh' (Kd.N_lt (by (with_reducible repeat (first | apply Kd.N_alloc | apply Kd.N_drewN | apply Kd.N_drew)); exact HO_12.out)) k_ hk_.2.1)⟩)) (below_size (by repeat (first | (with_reducible first | exact HB.out | apply below_alloc | apply pw_below_drewN | apply below_drew1) | exact HB.out)))); have n3_ := Aside0.mk (below_step (by repeat (first | (with_reducible first | exact HB.out | apply below_alloc | apply pw_below_drewN | apply below_drew1) | exact HB.out)) hb); clear HO_10; clear HO_12; clear HB; have HO_10 := n0_; have HO_12 := n1_; have HO316 := n2_; have HB := n3_; clear n0_ n1_ n2_ n3_; (try clear hb); (try clear hb2); (try clear hk); (try clear hi); (try clear ho0); obtain ⟨Ao29, co29, eo29⟩ := Kd.N_slice HO316.out; subst eo29) | ((with_reducible refine gate_builtin (b := .append) (xs := #[.tmp 80, .tmp 81]) rfl ?_); (try (refine gate_guard (by rfl) ?_; dsimp only)); at_builtin; refine Kd.N_append_rows k52 (w0 := w) w.heap.size rfl (.tmp 80) (.tmp 81) 42 52 (.agg #[(.int .i64 0), (.int .i64 0), (.string ⟨#[]⟩), (.slice none 0 0)]) 56 rfl Tryd.underlying42 info52 rfl (by decide) (by omega) u12 x12_3 t313 _ _ _ (fun k_ => some k_ ≠ (v309 : Value).ownBlock) (fun k_ => ((fun k_ => some k_ ≠ (v309 : Value).ownBlock)) k_ ∧ some k_ ≠ (u12 : Value).ownBlock) rfl rfl ?aO ?aR (fun _ hk => hk) ?aF ?aB ?aS ?aL ?_; (case aR => exact (by skip; exact Kd.N_F (Kd.N_mono (ok' := (fun k_ => ((fun k_ => some k_ ≠ (v309 : Value).ownBlock)) k_ ∧ some k_ ≠ (u12 : Value).ownBlock)) (HO316.out) (fun k_ hk => ⟨hk.1, hk.2⟩)))); (case aB => exact (by repeat (first | (with_reducible first | exact HB.out | apply below_alloc | apply pw_below_drewN | apply below_drew1) | exact HB.out))); (case aF => exact (fun k_ hk => Kd.fresh' (Kd.N_lt (by (with_reducible repeat (first | apply Kd.N_alloc | apply Kd.N_drewN | apply Kd.N_drew)); exact HO_10.out)) k_ hk)); (case aO => exact (by (with_reducible repeat (first | apply Kd.N_alloc | apply Kd.N_drewN | apply Kd.N_drew)); exact Kd.N_mono HO_12.out (fun _ hk => hk.1))); (case aS => exact (below_size (by repeat (first | (with_reducible first | exact HB.out | apply below_alloc | apply pw_below_drewN | apply below_drew1) | exact HB.out)))); (case aL => have := LMc26.out; omega); intro v321 w28 ho hb hg hat; rw [← Ny320.out] at ho; have n0_ := Aside0.mk (Kd.N_afterv (ok := (fun k_ => some k_ ≠ (.slice Ao29 t313.length co29 : Value).ownBlock)) (by (with_reducible repeat (first | apply Kd.N_alloc | apply Kd.N_drewN | apply Kd.N_drew)); exact Kd.N_mono HO_10.out (fun _ hk => ⟨hk.2, hk.1⟩)) hg hat); have n1_ := Aside0.mk (Kd.N_afterv (ok := (fun k_ => some k_ ≠ (v309 : Value).ownBlock)) (by (with_reducible repeat (first | apply Kd.N_alloc | apply Kd.N_drewN | apply Kd.N_drew)); exact HO316.out) hg hat); have n2_ := Aside0.mk (hb); have n3_ := Aside0.mk (ho); clear HO_10; clear HO316; clear HB; clear HO_12; have HO_10 := n0_; have HO316 := n1_; have HB := n2_; have HO322 := n3_; clear n0_ n1_ n2_ n3_; clear ho hb hg hat))
                            go_roundg k3
                            case measure => have := HJ2.out; have := HJ5.out; have := HK3.out; omega
                            case rel => exact ⟨(y320), (false), (t312), (wrap64 (x15_3 + 1)), (by first | rfl | (simp; done) | (simp [*]; done)), (by first | rfl | (simp; done) | (simp [*]; done)), (by first | rfl | (simp; done) | (simp [*]; done)), H', ⟨by have := HJ2.out; have := HJ5.out; have := HK3.out; omega⟩, ⟨by (with_reducible repeat (first | apply Kd.N_alloc | apply Kd.N_drewN | apply Kd.N_drew)); exact Kd.N_mono HO_10.out (fun _ hk => hk.2)⟩, ⟨by (with_reducible repeat (first | apply Kd.N_alloc | apply Kd.N_drewN | apply Kd.N_drew)); exact HO322.out⟩, ⟨by repeat (first | (with_reducible first | exact HB.out | apply below_alloc | apply pw_below_drewN | apply below_drew1) | exact HB.out)⟩⟩
                          · rw [if_neg c26] at H
                            exact absurd H (by simp)
                      · rw [if_neg c19] at H
                        exact absurd H (by simp)
                    · rw [if_neg c18] at H
                      have c18b0 : decide (x15_3 < (l1.length : Int)) = false := decide_eq_false c18
                      clear c18
                      replace H := Option.bind_eq_some_iff.mp H
                      obtain ⟨⟨t323, t324, t327, t328⟩, A300, H⟩ := H
                      replace H : (if (x13_3 != t327) = true then (some false) else (if (t308 != t327) = true then (some false) else (if t308 = true then ((spec_EqualValues.f t307 x12_3).bind fun t329 => (if t329 = true then (if (l1.length : Int) > 1 then (some true) else (some (t306.toList == x14_3.toList))) else (some false))) else (some true)))) = some r := H
                      have A30 := Aside0.mk A300
                      clear A300
                      by_cases c31 : (x13_3 != t327) = true
                      · rw [if_pos c31] at H
                        have c31b0 : (x13_3 != t327) = true := c31
                        (try (have c31b1 : decide (x13_3 = t327) = false := by simpa using c31))
                        (try (have c31b2 : (x13_3 == t327) = false := by simpa using c31))
                        (try (have c31b3 : ¬ (x13_3 = t327) := by simpa using c31))
                        clear c31
                        obtain rfl := Option.some.inj H
                        go_wp2_with (first | ((with_reducible refine gate_callee (f := 41) rfl ?_); refine goesL_ (some 87) rfl rfl Tryd.func41 (by kernel_rfl) rfl #[.string a0, .slice A1 l1.length c1] rfl (by (try simp only [List.map_toArray, List.map_cons, List.map_nil]); first | done | rfl | (simp only [List.length_drop, List.length_take]; rfl)) ?_; (with_reducible refine (spec_NamedMany.calls k3 a0 (fun k_ => k_ < w.heap.size) _ _ l1 t323 t324 t327 t328 _ ?side1 A30.out).mono ?_); (case side1 => exact Kd.V_mk HC1.out (Kd.F_below (Kd.C_F (Kd.heap_slice 54 k54_heap) HR1.out) (by repeat (first | (with_reducible first | exact HB.out | apply below_alloc | apply pw_below_drewN | apply below_drew1) | exact HB.out)))); rintro e w32 ⟨v325, rfl, ho0, hb⟩; refine ⟨_, rfl, ?_⟩; have n0_ := Aside0.mk (Kd.N_elder' (by (with_reducible repeat (first | apply Kd.N_alloc | apply Kd.N_drewN | apply Kd.N_drew)); exact HO_10.out) (Kd.N_base ho0) hb); have n1_ := Aside0.mk (Kd.N_elder' (by (with_reducible repeat (first | apply Kd.N_alloc | apply Kd.N_drewN | apply Kd.N_drew)); exact HO_12.out) (Kd.N_base ho0) hb); have n2_ := Aside0.mk (Kd.N_lower (Kd.N_mono (ok' := fun k_ => some k_ ≠ (v309 : Value).ownBlock ∧ some k_ ≠ (u12 : Value).ownBlock) ho0 (fun k_ hk_ => ⟨Or.elim hk_ (fun hs_ => fun e_ => Nat.not_le.2 hs_ (Kd.N_base HO_10.out k_ e_.symm)) (fun hn_ => (Kd.fresh' (Kd.N_lt (by (with_reducible repeat (first | apply Kd.N_alloc | apply Kd.N_drewN | apply Kd.N_drew)); exact HO_10.out)) k_ hn_)), Or.elim hk_ (fun hs_ => fun e_ => Nat.not_le.2 hs_ (Kd.N_base HO_12.out k_ e_.symm)) (fun hn_ => (Kd.fresh' (Kd.N_lt (by (with_reducible repeat (first | apply Kd.N_alloc | apply Kd.N_drewN | apply Kd.N_drew)); exact HO_12.out)) k_ hn_))⟩)) (below_size (by repeat (first | (with_reducible first | exact HB.out | apply below_alloc | apply pw_below_drewN | apply below_drew1) | exact HB.out)))); have n3_ := Aside0.mk (below_step (by repeat (first | (with_reducible first | exact HB.out | apply below_alloc | apply pw_below_drewN | apply below_drew1) | exact HB.out)) hb); clear HO_10; clear HO_12; clear HB; have HO_10 := n0_; have HO_12 := n1_; have HO326 := n2_; have HB := n3_; clear n0_ n1_ n2_ n3_; (try clear hb); (try clear hb2); (try clear hk); (try clear hi); (try clear ho0)))
                        go_ret
                        exact ⟨by first | rfl | (simp [errW_none, errW_some] <;> rfl) | (simp [*, errW_none, errW_some] <;> rfl), by repeat (first | (with_reducible first | exact HB.out | apply below_alloc | apply pw_below_drewN | apply below_drew1) | exact HB.out)⟩
                      · rw [if_neg c31] at H
                        have c31b0 : (x13_3 != t327) = false := by simpa using c31
                        (try (have c31b1 : decide (x13_3 = t327) = true := by simpa using c31))
                        (try (have c31b2 : (x13_3 == t327) = true := by simpa using c31))
                        clear c31
                        by_cases c33 : (t308 != t327) = true
                        · rw [if_pos c33] at H
                          have c33b0 : (t308 != t327) = true := c33
                          (try (have c33b1 : decide (t308 = t327) = false := by simpa using c33))
                          (try (have c33b2 : (t308 == t327) = false := by simpa using c33))
                          (try (have c33b3 : ¬ (t308 = t327) := by simpa using c33))
                          clear c33
                          obtain rfl := Option.some.inj H
                          go_wp2_with (first | ((with_reducible refine gate_callee (f := 41) rfl ?_); refine goesL_ (some 87) rfl rfl Tryd.func41 (by kernel_rfl) rfl #[.string a0, .slice A1 l1.length c1] rfl (by (try simp only [List.map_toArray, List.map_cons, List.map_nil]); first | done | rfl | (simp only [List.length_drop, List.length_take]; rfl)) ?_; (with_reducible refine (spec_NamedMany.calls k3 a0 (fun k_ => k_ < w.heap.size) _ _ l1 t323 t324 t327 t328 _ ?side1 A30.out).mono ?_); (case side1 => exact Kd.V_mk HC1.out (Kd.F_below (Kd.C_F (Kd.heap_slice 54 k54_heap) HR1.out) (by repeat (first | (with_reducible first | exact HB.out | apply below_alloc | apply pw_below_drewN | apply below_drew1) | exact HB.out)))); rintro e w34 ⟨v325, rfl, ho0, hb⟩; refine ⟨_, rfl, ?_⟩; have n0_ := Aside0.mk (Kd.N_elder' (by (with_reducible repeat (first | apply Kd.N_alloc | apply Kd.N_drewN | apply Kd.N_drew)); exact HO_10.out) (Kd.N_base ho0) hb); have n1_ := Aside0.mk (Kd.N_elder' (by (with_reducible repeat (first | apply Kd.N_alloc | apply Kd.N_drewN | apply Kd.N_drew)); exact HO_12.out) (Kd.N_base ho0) hb); have n2_ := Aside0.mk (Kd.N_lower (Kd.N_mono (ok' := fun k_ => some k_ ≠ (v309 : Value).ownBlock ∧ some k_ ≠ (u12 : Value).ownBlock) ho0 (fun k_ hk_ => ⟨Or.elim hk_ (fun hs_ => fun e_ => Nat.not_le.2 hs_ (Kd.N_base HO_10.out k_ e_.symm)) (fun hn_ => (Kd.fresh' (Kd.N_lt (by (with_reducible repeat (first | apply Kd.N_alloc | apply Kd.N_drewN | apply Kd.N_drew)); exact HO_10.out)) k_ hn_)), Or.elim hk_ (fun hs_ => fun e_ => Nat.not_le.2 hs_ (Kd.N_base HO_12.out k_ e_.symm)) (fun hn_ => (Kd.fresh' (Kd.N_lt (by (with_reducible repeat (first | apply Kd.N_alloc | apply Kd.N_drewN | apply Kd.N_drew)); exact HO_12.out)) k_ hn_))⟩)) (below_size (by repeat (first | (with_reducible first | exact HB.out | apply below_alloc | apply pw_below_drewN | apply below_drew1) | exact HB.out)))); have n3_ := Aside0.mk (below_step (by repeat (first | (with_reducible first | exact HB.out | apply below_alloc | apply pw_below_drewN | apply below_drew1) | exact HB.out)) hb); clear HO_10; clear HO_12; clear HB; have HO_10 := n0_; have HO_12 := n1_; have HO326 := n2_; have HB := n3_; clear n0_ n1_ n2_ n3_; (try clear hb); (try clear hb2); (try clear hk); (try clear hi); (try clear ho0)))
                          go_ret
                          exact ⟨by first | rfl | (simp [errW_none, errW_some] <;> rfl) | (simp [*, errW_none, errW_some] <;> rfl), by repeat (first | (with_reducible first | exact HB.out | apply below_alloc | apply pw_below_drewN | apply below_drew1) | exact HB.out)⟩
                        · rw [if_neg c33] at H
                          have c33b0 : (t308 != t327) = false := by simpa using c33
                          (try (have c33b1 : decide (t308 = t327) = true := by simpa using c33))
                          (try (have c33b2 : (t308 == t327) = true := by simpa using c33))
                          clear c33
                          by_cases c35 : t308 = true
                          · subst c35
                            have H1 : ((spec_EqualValues.f t307 x12_3).bind fun t329 => (if t329 = true then (if (l1.length : Int) > 1 then (some true) else (some (t306.toList == x14_3.toList))) else (some false))) = some r := by rw [if_pos rfl] at H; exact H
                            clear H
                            have H := H1
                            clear H1
                            replace H := Option.bind_eq_some_iff.mp H
                            obtain ⟨t329, A360, H⟩ := H
                            replace H : (if t329 = true then (if (l1.length : Int) > 1 then (some true) else (some (t306.toList == x14_3.toList))) else (some false)) = some r := H
                            have A36 := Aside0.mk A360
                            clear A360
                            by_cases c37 : t329 = true
                            · subst c37
                              have H1 : (if (l1.length : Int) > 1 then (some true) else (some (t306.toList == x14_3.toList))) = some r := by rw [if_pos rfl] at H; exact H
                              clear H
                              have H := H1
                              clear H1
                              by_cases c38 : (l1.length : Int) > 1
                              · rw [if_pos c38] at H
                                have c38b0 : decide (1 < (l1.length : Int)) = true := decide_eq_true c38
                                have c38b1 : decide (1 < l1.length) = true := decide_eq_true (by omega)
                                clear c38
                                obtain rfl := Option.some.inj H
                                go_wp2_with (first | ((with_reducible refine gate_callee (f := 41) rfl ?_); refine goesL_ (some 87) rfl rfl Tryd.func41 (by kernel_rfl) rfl #[.string a0, .slice A1 l1.length c1] rfl (by (try simp only [List.map_toArray, List.map_cons, List.map_nil]); first | done | rfl | (simp only [List.length_drop, List.length_take]; rfl)) ?_; (with_reducible refine (spec_NamedMany.calls k3 a0 (fun k_ => k_ < w.heap.size) _ _ l1 t323 t324 t327 t328 _ ?side1 A30.out).mono ?_); (case side1 => exact Kd.V_mk HC1.out (Kd.F_below (Kd.C_F (Kd.heap_slice 54 k54_heap) HR1.out) (by repeat (first | (with_reducible first | exact HB.out | apply below_alloc | apply pw_below_drewN | apply below_drew1) | exact HB.out)))); rintro e w39 ⟨v325, rfl, ho0, hb⟩; refine ⟨_, rfl, ?_⟩; have n0_ := Aside0.mk (Kd.N_elder' (by (with_reducible repeat (first | apply Kd.N_alloc | apply Kd.N_drewN | apply Kd.N_drew)); exact HO_10.out) (Kd.N_base ho0) hb); have n1_ := Aside0.mk (Kd.N_elder' (by (with_reducible repeat (first | apply Kd.N_alloc | apply Kd.N_drewN | apply Kd.N_drew)); exact HO_12.out) (Kd.N_base ho0) hb); have n2_ := Aside0.mk (Kd.N_lower (Kd.N_mono (ok' := fun k_ => some k_ ≠ (v309 : Value).ownBlock ∧ some k_ ≠ (u12 : Value).ownBlock) ho0 (fun k_ hk_ => ⟨Or.elim hk_ (fun hs_ => fun e_ => Nat.not_le.2 hs_ (Kd.N_base HO_10.out k_ e_.symm)) (fun hn_ => (Kd.fresh' (Kd.N_lt (by (with_reducible repeat (first | apply Kd.N_alloc | apply Kd.N_drewN | apply Kd.N_drew)); exact HO_10.out)) k_ hn_)), Or.elim hk_ (fun hs_ => fun e_ => Nat.not_le.2 hs_ (Kd.N_base HO_12.out k_ e_.symm)) (fun hn_ => (Kd.fresh' (Kd.N_lt (by (with_reducible repeat (first | apply Kd.N_alloc | apply Kd.N_drewN | apply Kd.N_drew)); exact HO_12.out)) k_ hn_))⟩)) (below_size (by repeat (first | (with_reducible first | exact HB.out | apply below_alloc | apply pw_below_drewN | apply below_drew1) | exact HB.out)))); have n3_ := Aside0.mk (below_step (by repeat (first | (with_reducible first | exact HB.out | apply below_alloc | apply pw_below_drewN | apply below_drew1) | exact HB.out)) hb); clear HO_10; clear HO_12; clear HB; have HO_10 := n0_; have HO_12 := n1_; have HO326 := n2_; have HB := n3_; clear n0_ n1_ n2_ n3_; (try clear hb); (try clear hb2); (try clear hk); (try clear hi); (try clear ho0); obtain ⟨Ao40, co40, eo40⟩ := Kd.N_slice HO_10.out; subst eo40; obtain ⟨Ao41, co41, eo41⟩ := Kd.N_slice HO_12.out; subst eo41) | (go_at_call 37; (with_reducible refine (spec_EqualValues.calls _ _ t307 _ _ x12_3 true _ ?side1 ?side2 ?side3 ?side4 A36.out).mono ?_); (case side1 => repeat (first | exact (Kd.N_reads' HO_10.out).2.2 | (with_reducible refine Kd.C_alloc ?_ _) | (with_reducible refine Kd.C_drewN ?_ _) | (with_reducible refine Kd.C_drew ?_))); (case side2 => exact (Kd.N_reads' HO_10.out).2.1); (case side3 => repeat (first | exact (Kd.N_reads' HO_12.out).2.2 | (with_reducible refine Kd.C_alloc ?_ _) | (with_reducible refine Kd.C_drewN ?_ _) | (with_reducible refine Kd.C_drew ?_))); (case side4 => exact (Kd.N_reads' HO_12.out).2.1); rintro e w42 ⟨rfl, hb⟩; have n0_ := Aside0.mk (Kd.N_below (by (with_reducible repeat (first | apply Kd.N_alloc | apply Kd.N_drewN | apply Kd.N_drew)); exact HO_10.out) hb); have n1_ := Aside0.mk (Kd.N_below (by (with_reducible repeat (first | apply Kd.N_alloc | apply Kd.N_drewN | apply Kd.N_drew)); exact HO_12.out) hb); have n2_ := Aside0.mk (Kd.N_below (by (with_reducible repeat (first | apply Kd.N_alloc | apply Kd.N_drewN | apply Kd.N_drew)); exact HO326.out) hb); have n3_ := Aside0.mk (below_step (by repeat (first | (with_reducible first | exact HB.out | apply below_alloc | apply pw_below_drewN | apply below_drew1) | exact HB.out)) hb); clear HO_10; clear HO_12; clear HO326; clear HB; have HO_10 := n0_; have HO_12 := n1_; have HO326 := n2_; have HB := n3_; clear n0_ n1_ n2_ n3_; (try clear hb); (try clear hb2); (try clear hk); (try clear hi)))
                                go_ret
                                exact ⟨by first | rfl | (simp [errW_none, errW_some] <;> rfl) | (simp [*, errW_none, errW_some] <;> rfl), by repeat (first | (with_reducible first | exact HB.out | apply below_alloc | apply pw_below_drewN | apply below_drew1) | exact HB.out)⟩
                              · rw [if_neg c38] at H
                                have c38b0 : decide (1 < (l1.length : Int)) = false := decide_eq_false c38
                                have c38b1 : decide (1 < l1.length) = false := decide_eq_false (by omega)
                                clear c38
                                obtain rfl := Option.some.inj H
                                go_wp2_with (first | ((with_reducible refine gate_callee (f := 41) rfl ?_); refine goesL_ (some 87) rfl rfl Tryd.func41 (by kernel_rfl) rfl #[.string a0, .slice A1 l1.length c1] rfl (by (try simp only [List.map_toArray, List.map_cons, List.map_nil]); first | done | rfl | (simp only [List.length_drop, List.length_take]; rfl)) ?_; (with_reducible refine (spec_NamedMany.calls k3 a0 (fun k_ => k_ < w.heap.size) _ _ l1 t323 t324 t327 t328 _ ?side1 A30.out).mono ?_); (case side1 => exact Kd.V_mk HC1.out (Kd.F_below (Kd.C_F (Kd.heap_slice 54 k54_heap) HR1.out) (by repeat (first | (with_reducible first | exact HB.out | apply below_alloc | apply pw_below_drewN | apply below_drew1) | exact HB.out)))); rintro e w43 ⟨v325, rfl, ho0, hb⟩; refine ⟨_, rfl, ?_⟩; have n0_ := Aside0.mk (Kd.N_elder' (by (with_reducible repeat (first | apply Kd.N_alloc | apply Kd.N_drewN | apply Kd.N_drew)); exact HO_10.out) (Kd.N_base ho0) hb); have n1_ := Aside0.mk (Kd.N_elder' (by (with_reducible repeat (first | apply Kd.N_alloc | apply Kd.N_drewN | apply Kd.N_drew)); exact HO_12.out) (Kd.N_base ho0) hb); have n2_ := Aside0.mk (Kd.N_lower (Kd.N_mono (ok' := fun k_ => some k_ ≠ (v309 : Value).ownBlock ∧ some k_ ≠ (u12 : Value).ownBlock) ho0 (fun k_ hk_ => ⟨Or.elim hk_ (fun hs_ => fun e_ => Nat.not_le.2 hs_ (Kd.N_base HO_10.out k_ e_.symm)) (fun hn_ => (Kd.fresh' (Kd.N_lt (by (with_reducible repeat (first | apply Kd.N_alloc | apply Kd.N_drewN | apply Kd.N_drew)); exact HO_10.out)) k_ hn_)), Or.elim hk_ (fun hs_ => fun e_ => Nat.not_le.2 hs_ (Kd.N_base HO_12.out k_ e_.symm)) (fun hn_ => (Kd.fresh' (Kd.N_lt (by (with_reducible repeat (first | apply Kd.N_alloc | apply Kd.N_drewN | apply Kd.N_drew)); exact HO_12.out)) k_ hn_))⟩)) (below_size (by repeat (first | (with_reducible first | exact HB.out | apply below_alloc | apply pw_below_drewN | apply below_drew1) | exact HB.out)))); have n3_ := Aside0.mk (below_step (by repeat (first | (with_reducible first | exact HB.out | apply below_alloc | apply pw_below_drewN | apply below_drew1) | exact HB.out)) hb); clear HO_10; clear HO_12; clear HB; have HO_10 := n0_; have HO_12 := n1_; have HO326 := n2_; have HB := n3_; clear n0_ n1_ n2_ n3_; (try clear hb); (try clear hb2); (try clear hk); (try clear hi); (try clear ho0); obtain ⟨Ao44, co44, eo44⟩ := Kd.N_slice HO_10.out; subst eo44; obtain ⟨Ao45, co45, eo45⟩ := Kd.N_slice HO_12.out; subst eo45) | (go_at_call 37; (with_reducible refine (spec_EqualValues.calls _ _ t307 _ _ x12_3 true _ ?side1 ?side2 ?side3 ?side4 A36.out).mono ?_); (case side1 => repeat (first | exact (Kd.N_reads' HO_10.out).2.2 | (with_reducible refine Kd.C_alloc ?_ _) | (with_reducible refine Kd.C_drewN ?_ _) | (with_reducible refine Kd.C_drew ?_))); (case side2 => exact (Kd.N_reads' HO_10.out).2.1); (case side3 => repeat (first | exact (Kd.N_reads' HO_12.out).2.2 | (with_reducible refine Kd.C_alloc ?_ _) | (with_reducible refine Kd.C_drewN ?_ _) | (with_reducible refine Kd.C_drew ?_))); (case side4 => exact (Kd.N_reads' HO_12.out).2.1); rintro e w46 ⟨rfl, hb⟩; have n0_ := Aside0.mk (Kd.N_below (by (with_reducible repeat (first | apply Kd.N_alloc | apply Kd.N_drewN | apply Kd.N_drew)); exact HO_10.out) hb); have n1_ := Aside0.mk (Kd.N_below (by (with_reducible repeat (first | apply Kd.N_alloc | apply Kd.N_drewN | apply Kd.N_drew)); exact HO_12.out) hb); have n2_ := Aside0.mk (Kd.N_below (by (with_reducible repeat (first | apply Kd.N_alloc | apply Kd.N_drewN | apply Kd.N_drew)); exact HO326.out) hb); have n3_ := Aside0.mk (below_step (by repeat (first | (with_reducible first | exact HB.out | apply below_alloc | apply pw_below_drewN | apply below_drew1) | exact HB.out)) hb); clear HO_10; clear HO_12; clear HO326; clear HB; have HO_10 := n0_; have HO_12 := n1_; have HO326 := n2_; have HB := n3_; clear n0_ n1_ n2_ n3_; (try clear hb); (try clear hb2); (try clear hk); (try clear hi)))
                                go_ret
                                exact ⟨by first | rfl | (simp [errW_none, errW_some] <;> rfl) | (simp [*, errW_none, errW_some] <;> rfl), by repeat (first | (with_reducible first | exact HB.out | apply below_alloc | apply pw_below_drewN | apply below_drew1) | exact HB.out)⟩
                            · replace c37 := Bool.eq_false_iff.mpr c37
                              subst c37
                              have H1 : (some false) = some r := by rw [if_neg (show ¬ (false = true) by decide)] at H; exact H
                              clear H
                              have H := H1
                              clear H1
                              obtain rfl := Option.some.inj H
                              go_wp2_with (first | ((with_reducible refine gate_callee (f := 41) rfl ?_); refine goesL_ (some 87) rfl rfl Tryd.func41 (by kernel_rfl) rfl #[.string a0, .slice A1 l1.length c1] rfl (by (try simp only [List.map_toArray, List.map_cons, List.map_nil]); first | done | rfl | (simp only [List.length_drop, List.length_take]; rfl)) ?_; (with_reducible refine (spec_NamedMany.calls k3 a0 (fun k_ => k_ < w.heap.size) _ _ l1 t323 t324 t327 t328 _ ?side1 A30.out).mono ?_); (case side1 => exact Kd.V_mk HC1.out (Kd.F_below (Kd.C_F (Kd.heap_slice 54 k54_heap) HR1.out) (by repeat (first | (with_reducible first | exact HB.out | apply below_alloc | apply pw_below_drewN | apply below_drew1) | exact HB.out)))); rintro e w47 ⟨v325, rfl, ho0, hb⟩; refine ⟨_, rfl, ?_⟩; have n0_ := Aside0.mk (Kd.N_elder' (by (with_reducible repeat (first | apply Kd.N_alloc | apply Kd.N_drewN | apply Kd.N_drew)); exact HO_10.out) (Kd.N_base ho0) hb); have n1_ := Aside0.mk (Kd.N_elder' (by (with_reducible repeat (first | apply Kd.N_alloc | apply Kd.N_drewN | apply Kd.N_drew)); exact HO_12.out) (Kd.N_base ho0) hb); have n2_ := Aside0.mk (Kd.N_lower (Kd.N_mono (ok' := fun k_ => some k_ ≠ (v309 : Value).ownBlock ∧ some k_ ≠ (u12 : Value).ownBlock) ho0 (fun k_ hk_ => ⟨Or.elim hk_ (fun hs_ => fun e_ => Nat.not_le.2 hs_ (Kd.N_base HO_10.out k_ e_.symm)) (fun hn_ => (Kd.fresh' (Kd.N_lt (by (with_reducible repeat (first | apply Kd.N_alloc | apply Kd.N_drewN | apply Kd.N_drew)); exact HO_10.out)) k_ hn_)), Or.elim hk_ (fun hs_ => fun e_ => Nat.not_le.2 hs_ (Kd.N_base HO_12.out k_ e_.symm)) (fun hn_ => (Kd.fresh' (Kd.N_lt (by (with_reducible repeat (first | apply Kd.N_alloc | apply Kd.N_drewN | apply Kd.N_drew)); exact HO_12.out)) k_ hn_))⟩)) (below_size (by repeat (first | (with_reducible first | exact HB.out | apply below_alloc | apply pw_below_drewN | apply below_drew1) | exact HB.out)))); have n3_ := Aside0.mk (below_step (by repeat (first | (with_reducible first | exact HB.out | apply below_alloc | apply pw_below_drewN | apply below_drew1) | exact HB.out)) hb); clear HO_10; clear HO_12; clear HB; have HO_10 := n0_; have HO_12 := n1_; have HO326 := n2_; have HB := n3_; clear n0_ n1_ n2_ n3_; (try clear hb); (try clear hb2); (try clear hk); (try clear hi); (try clear ho0); obtain ⟨Ao48, co48, eo48⟩ := Kd.N_slice HO_10.out; subst eo48; obtain ⟨Ao49, co49, eo49⟩ := Kd.N_slice HO_12.out; subst eo49) | (go_at_call 37; (with_reducible refine (spec_EqualValues.calls _ _ t307 _ _ x12_3 false _ ?side1 ?side2 ?side3 ?side4 A36.out).mono ?_); (case side1 => repeat (first | exact (Kd.N_reads' HO_10.out).2.2 | (with_reducible refine Kd.C_alloc ?_ _) | (with_reducible refine Kd.C_drewN ?_ _) | (with_reducible refine Kd.C_drew ?_))); (case side2 => exact (Kd.N_reads' HO_10.out).2.1); (case side3 => repeat (first | exact (Kd.N_reads' HO_12.out).2.2 | (with_reducible refine Kd.C_alloc ?_ _) | (with_reducible refine Kd.C_drewN ?_ _) | (with_reducible refine Kd.C_drew ?_))); (case side4 => exact (Kd.N_reads' HO_12.out).2.1); rintro e w50 ⟨rfl, hb⟩; have n0_ := Aside0.mk (Kd.N_below (by (with_reducible repeat (first | apply Kd.N_alloc | apply Kd.N_drewN | apply Kd.N_drew)); exact HO_10.out) hb); have n1_ := Aside0.mk (Kd.N_below (by (with_reducible repeat (first | apply Kd.N_alloc | apply Kd.N_drewN | apply Kd.N_drew)); exact HO_12.out) hb); have n2_ := Aside0.mk (Kd.N_below (by (with_reducible repeat (first | apply Kd.N_alloc | apply Kd.N_drewN | apply Kd.N_drew)); exact HO326.out) hb); have n3_ := Aside0.mk (below_step (by repeat (first | (with_reducible first | exact HB.out | apply below_alloc | apply pw_below_drewN | apply below_drew1) | exact HB.out)) hb); clear HO_10; clear HO_12; clear HO326; clear HB; have HO_10 := n0_; have HO_12 := n1_; have HO326 := n2_; have HB := n3_; clear n0_ n1_ n2_ n3_; (try clear hb); (try clear hb2); (try clear hk); (try clear hi)))
                              go_ret
                              exact ⟨by first | rfl | (simp [errW_none, errW_some] <;> rfl) | (simp [*, errW_none, errW_some] <;> rfl), by repeat (first | (with_reducible first | exact HB.out | apply below_alloc | apply pw_below_drewN | apply below_drew1) | exact HB.out)⟩
                          · replace c35 := Bool.eq_false_iff.mpr c35
                            subst c35
                            have H1 : (some true) = some r := by rw [if_neg (show ¬ (false = true) by decide)] at H; exact H
                            clear H
                            have H := H1
                            clear H1
                            obtain rfl := Option.some.inj H
                            go_wp2_with (first | ((with_reducible refine gate_callee (f := 41) rfl ?_); refine goesL_ (some 87) rfl rfl Tryd.func41 (by kernel_rfl) rfl #[.string a0, .slice A1 l1.length c1] rfl (by (try simp only [List.map_toArray, List.map_cons, List.map_nil]); first | done | rfl | (simp only [List.length_drop, List.length_take]; rfl)) ?_; (with_reducible refine (spec_NamedMany.calls k3 a0 (fun k_ => k_ < w.heap.size) _ _ l1 t323 t324 t327 t328 _ ?side1 A30.out).mono ?_); (case side1 => exact Kd.V_mk HC1.out (Kd.F_below (Kd.C_F (Kd.heap_slice 54 k54_heap) HR1.out) (by repeat (first | (with_reducible first | exact HB.out | apply below_alloc | apply pw_below_drewN | apply below_drew1) | exact HB.out)))); rintro e w51 ⟨v325, rfl, ho0, hb⟩; refine ⟨_, rfl, ?_⟩; have n0_ := Aside0.mk (Kd.N_elder' (by (with_reducible repeat (first | apply Kd.N_alloc | apply Kd.N_drewN | apply Kd.N_drew)); exact HO_10.out) (Kd.N_base ho0) hb); have n1_ := Aside0.mk (Kd.N_elder' (by (with_reducible repeat (first | apply Kd.N_alloc | apply Kd.N_drewN | apply Kd.N_drew)); exact HO_12.out) (Kd.N_base ho0) hb); have n2_ := Aside0.mk (Kd.N_lower (Kd.N_mono (ok' := fun k_ => some k_ ≠ (v309 : Value).ownBlock ∧ some k_ ≠ (u12 : Value).ownBlock) ho0 (fun k_ hk_ => ⟨Or.elim hk_ (fun hs_ => fun e_ => Nat.not_le.2 hs_ (Kd.N_base HO_10.out k_ e_.symm)) (fun hn_ => (Kd.fresh' (Kd.N_lt (by (with_reducible repeat (first | apply Kd.N_alloc | apply Kd.N_drewN | apply Kd.N_drew)); exact HO_10.out)) k_ hn_)), Or.elim hk_ (fun hs_ => fun e_ => Nat.not_le.2 hs_ (Kd.N_base HO_12.out k_ e_.symm)) (fun hn_ => (Kd.fresh' (Kd.N_lt (by (with_reducible repeat (first | apply Kd.N_alloc | apply Kd.N_drewN | apply Kd.N_drew)); exact HO_12.out)) k_ hn_))⟩)) (below_size (by repeat (first | (with_reducible first | exact HB.out | apply below_alloc | apply pw_below_drewN | apply below_drew1) | exact HB.out)))); have n3_ := Aside0.mk (below_step (by repeat (first | (with_reducible first | exact HB.out | apply below_alloc | apply pw_below_drewN | apply below_drew1) | exact HB.out)) hb); clear HO_10; clear HO_12; clear HB; have HO_10 := n0_; have HO_12 := n1_; have HO326 := n2_; have HB := n3_; clear n0_ n1_ n2_ n3_; (try clear hb); (try clear hb2); (try clear hk); (try clear hi); (try clear ho0)))
                            go_ret
                            exact ⟨by first | rfl | (simp [errW_none, errW_some] <;> rfl) | (simp [*, errW_none, errW_some] <;> rfl), by repeat (first | (with_reducible first | exact HB.out | apply below_alloc | apply pw_below_drewN | apply below_drew1) | exact HB.out)⟩
              · replace c14 := Bool.eq_false_iff.mpr c14
                subst c14
                have H1 : (some true) = some r := by rw [if_neg (show ¬ (false = true) by decide)] at H; exact H
                clear H
                have H := H1
                clear H1
                obtain rfl := Option.some.inj H
                go_wp2_with (first | ((with_reducible refine gate_callee (f := 26) rfl ?_); refine goesL_ (some 46) rfl rfl Tryd.func26 (by kernel_rfl) rfl #[.int .i64 1, .string a0] rfl (by (try simp only [List.map_toArray, List.map_cons, List.map_nil]); first | done | rfl | (simp only [List.length_drop, List.length_take]; rfl)) ?_; (with_reducible refine (spec_Compiled.calls kj5 1 a0 t300 t301 t302 false _ A13.out).mono ?_); rintro e w52 ⟨v304, rfl, ho0, hb⟩; refine ⟨_, rfl, ?_⟩; have n0_ := Aside0.mk (Kd.R_lower ho0 (below_size (by repeat (first | (with_reducible first | exact HB.out | apply below_alloc | apply pw_below_drewN | apply below_drew1) | exact HB.out)))); have n1_ := Aside0.mk (below_step (by repeat (first | (with_reducible first | exact HB.out | apply below_alloc | apply pw_below_drewN | apply below_drew1) | exact HB.out)) hb); clear HB; have HO305 := n0_; have HB := n1_; clear n0_ n1_; (try clear hb); (try clear hb2); (try clear hk); (try clear hi); (try clear ho0)))
                go_ret
                exact ⟨by first | rfl | (simp [errW_none, errW_some] <;> rfl) | (simp [*, errW_none, errW_some] <;> rfl), by repeat (first | (with_reducible first | exact HB.out | apply below_alloc | apply pw_below_drewN | apply below_drew1) | exact HB.out)⟩

end Go.Proofs.YtnmhoghmhglimaaDoor.QN
/-
  PROVED: 'laws.FnNamedRows': the values of several lists of arguments are those of each by itself, one behind the other; of one list alone the text is its own. No condition.
-/
namespace Go.Proofs.YtnmhoghmhglimaaDoor.Pure
open Go.RowKit Go.Proofs.YtnmhoghmhglimaaDoor.QN Go.Proofs.YtnmhoghmhglimaaDoor.H Go.Proofs.YtnmhoghmhglimaaDoor.SC Go.Proofs.YtnmhoghmhglimaaDoor.SN Go.Proofs.YtnmhoghmhglimaaDoorW.PrintWords Go.Proofs.YtnmhoghmhglimaaDoorW.PrintLast Go.Proofs.YtnmhoghmhglimaaDoorW.PrintMore
set_option linter.unusedVariables false

/-- What Named answers of one list. -/
def nmR (s : ByteArray) (r : List S54) : ByteArray × List S52 × Bool := match mapF 1 s r with
  | some q => (q.1, q.2, true)
  | none => (⟨#[]⟩, [], false)
theorem nmR_is (s : ByteArray) (hs : s.size ≤ 1048576) (r : List S54) (hr : ArgsOk r) : impl_Named.f s r = some (nmR s r) := by
  rw [impl_Named.f, impl_NamedOf.f, if_pos ⟨hs, by decide, by decide, (argsB_iff r).2 hr⟩]
  unfold nmR
  cases mapF 1 s r <;> rfl
theorem nmR_len (s : ByteArray) (hs : s.size ≤ 1048576) (r : List S54) (hr : ArgsOk r) : (nmR s r).2.1.length ≤ 1048576 := by
  unfold nmR
  cases hm : mapF 1 s r with
  | none => simp
  | some q => exact (mapF_good hm hs hr).1
def rowsF (s : ByteArray) : List (List S54) → List S52 → Bool → ByteArray → List S52 × Bool × ByteArray
  | [], acc, each, first => (acc, each, first)
  | r :: rs, acc, each, first => rowsF s rs (acc ++ (nmR s r).2.1) (each && (nmR s r).2.2) (nmR s r).1
theorem rowsF_false (s : ByteArray) : ∀ (rows : List (List S54)) (acc : List S52) (first : ByteArray), (rowsF s rows acc false first).2.1 = false
  | [], acc, first => rfl
  | r :: rs, acc, first => rowsF_false s rs _ _
theorem rowsF_none (s : ByteArray) (h : ∀ r, mapF 1 s r = none) : ∀ (rows : List (List S54)) (acc : List S52) (each : Bool) (first : ByteArray), rows ≠ [] → (rowsF s rows acc each first).2.1 = false := by
  intro rows acc each first hz
  cases rows with
  | nil => exact absurd rfl hz
  | cons r rs =>
    have e : nmR s r = (⟨#[]⟩, [], false) := by
      unfold nmR
      rw [h r]
    rw [rowsF, e, Bool.and_false]
    exact rowsF_false s rs _ _
theorem rowsF_some (s : ByteArray) (names : List ByteArray) (out : ByteArray) (h : ∀ r, mapF 1 s r = (valsOf names r).map fun vs => (out, vs)) : ∀ (rows : List (List S54)) (acc : List S52) (first : ByteArray),
    (∀ vs, allOf names rows = some vs → rowsF s rows acc true first = (acc ++ vs, true, if rows = [] then first else out)) ∧ (allOf names rows = none → (rowsF s rows acc true first).2.1 = false)
  | [], acc, first => by
    refine ⟨fun vs hv => ?_, fun hv => by cases hv⟩
    injection hv with hv
    rw [← hv, List.append_nil]
    rfl
  | r :: rs, acc, first => by
    rw [allOf, rowsF]
    cases hf : valsOf names r with
    | none =>
      have e : nmR s r = (⟨#[]⟩, [], false) := by
        unfold nmR
        rw [h r, hf]
        rfl
      refine ⟨fun vs hv => (by cases hv), fun _ => ?_⟩
      rw [e, Bool.and_false]
      exact rowsF_false s rs _ _
    | some us =>
      have e : nmR s r = (out, us, true) := by
        unfold nmR
        rw [h r, hf]
        rfl
      obtain ⟨h1, h2⟩ := rowsF_some s names out h rs (acc ++ us) out
      rw [e, Bool.and_true]
      refine ⟨fun vs hv => ?_, fun hv => ?_⟩
      · obtain ⟨ts, h3, h4⟩ := Option.map_eq_some_iff.1 hv
        rw [← h4, h1 ts h3, List.append_assoc, if_neg (show ¬ (r :: rs = []) by simp)]
        split <;> rfl
      · exact h2 (Option.map_eq_none_iff.1 hv)
/-- What the loop comes to. -/
def finR (k : Nat) (s : ByteArray) (rows : List (List S54)) (x9 : ByteArray) (x10 : List S52) (x11 : Bool) (q : List S52 × Bool × ByteArray) : Option Bool :=
  (spec_NamedMany.f k s rows).bind fun bt323 => (if (q.2.1 != bt323.2.2.1) = true then (some false) else (if (x11 != bt323.2.2.1) = true then (some false) else (if x11 = true then ((spec_EqualValues.f x10 q.1).bind fun t329 => (if t329 = true then (if (rows.length : Int) > 1 then (some true) else (some (x9.toList == q.2.2.toList))) else (some false))) else (some true))))
theorem rows_loop (s : ByteArray) (hs : s.size ≤ 1048576) (rows : List (List S54)) (hrl : rows.length ≤ 64) (hok : ∀ r ∈ rows, ArgsOk r) (x9 : ByteArray) (x10 : List S52) (x11 : Bool) (R : Bool) :
    ∀ (d i : Nat) (acc : List S52) (each : Bool) (first : ByteArray), rows.length - i = d → i ≤ rows.length → acc.length ≤ i * 1048576 → Ev (fun k => finR k s rows x9 x10 x11 (rowsF s (rows.drop i) acc each first)) R →
      Ev (fun k => laws_FnNamedRows.l0 k s rows x9 x10 x11 acc each first i) R := by
  intro d
  induction d with
  | zero =>
    intro i acc each first hd hi ha hE
    have c1 : ¬ (i : Int) < (rows.length : Int) := by omega
    rw [List.drop_eq_nil_of_le (by omega), rowsF] at hE
    refine Ev.step (fun k => ?_) hE
    simp only [laws_FnNamedRows.l0]
    rw [if_neg c1]
    rfl
  | succ d ih =>
    intro i acc each first hd hi ha hE
    have hlt : i < rows.length := by omega
    have c1 : (i : Int) < (rows.length : Int) := by omega
    have c0 : (0 : Int) ≤ (i : Int) := by omega
    have e1 := w64s i (by omega)
    have hrd := rdL rows i hlt
    have hrow := hok _ (List.getElem_mem hlt)
    have hn := nmR_is s hs rows[i] hrow
    have hln := nmR_len s hs rows[i] hrow
    have hm : i * 1048576 ≤ 64 * 1048576 := Nat.mul_le_mul (by omega) (Nat.le_refl _)
    have c2 : acc.length + (nmR s rows[i]).2.1.length < 2513169434916 := by omega
    rw [List.drop_eq_getElem_cons hlt, rowsF] at hE
    have h2 := ih (i + 1) _ _ _ (by omega) (by omega) (by rw [List.length_append, Nat.succ_mul]; omega) hE
    refine Ev.step (fun k => ?_) h2
    simp only [laws_FnNamedRows.l0]
    rw [if_pos c1, if_pos c0, hrd, hn, Option.bind_some, e1]
    cases each with
    | true => rw [if_pos rfl, if_pos c2, Bool.true_and]
    | false => rw [if_neg (by simp), if_pos c2, Bool.false_and]
theorem FnNamedRows (s : ByteArray) (rows : List (List S54)) (hr : ∀ r ∈ rows, r.length ≤ 9223372036854775807) : ∃ k, laws_FnNamedRows.f k s rows = some true := by
  have j0T : Ev (fun k => laws_FnNamedRows.j0 k s rows true) true := Ev.step (f := fun _ => some true) (fun k => by simp only [laws_FnNamedRows.j0]; rw [if_pos trivial]) (Ev.now _)
  have j1T : Ev (fun k => laws_FnNamedRows.j1 k s rows true) true := Ev.step (f := fun _ => some true) (fun k => by simp only [laws_FnNamedRows.j1]; rw [if_pos trivial]) (Ev.now _)
  refine Ev.rounds (g := fun k => laws_FnNamedRows.f k s rows) ?_
  by_cases h1 : (s.size : Int) > 2147483647
  · exact Ev.congr (fun k => by simp only [laws_FnNamedRows.f]; rw [if_pos h1]) j0T
  by_cases h2 : (rows.length : Int) > 2147483647
  · exact Ev.congr (fun k => by simp only [laws_FnNamedRows.f]; rw [if_neg h1, decide_eq_true h2]) j0T
  refine Ev.congr (f := fun k => laws_FnNamedRows.j0 k s rows false) (fun k => by simp only [laws_FnNamedRows.f]; rw [if_neg h1, decide_eq_false h2]) ?_
  by_cases h3 : (s.size : Int) > 1000
  · refine Ev.step (fun k => ?_) j1T
    simp only [laws_FnNamedRows.j0]
    rw [if_neg (by decide), if_pos h3]
  obtain ⟨b, hE, hb⟩ := rows9_is rows (by omega) hr
  refine Ev.step (f := fun k => (laws_rows9.f k rows).bind fun t => if t = true then laws_FnNamedRows.j1 k s rows ((rows.length : Int) == 0) else laws_FnNamedRows.j1 k s rows true) (fun k => ?_) (Ev.bind hE ?_)
  · simp only [laws_FnNamedRows.j0]
    rw [if_neg (by decide), if_neg h3]
  cases b with
  | false => exact Ev.congr (fun k => by rw [if_neg (by decide)]) j1T
  | true =>
    have hs : s.size ≤ 4096 := by omega
    obtain ⟨hrl, hok⟩ := hb rfl
    have hargs : ∀ r ∈ rows, ArgsOk r := fun r hr => (hok r hr).1
    by_cases hz : rows = []
    · refine Ev.congr (fun k => ?_) j1T
      rw [if_pos rfl, hz]
      rfl
    have hz0 : ((rows.length : Int) == 0) = false := by
      have := List.length_pos_iff.2 hz
      rw [beq_eq_false_iff_ne]
      omega
    refine Ev.congr (f := fun k => laws_FnNamedRows.j1 k s rows false) (fun k => by rw [if_pos rfl, hz0]) ?_
    have hc := compiled_is 1 s (show s.size ≤ 1048576 by omega)
    by_cases hsu : (bitsOf s).2.2 = true
    · obtain ⟨res, hres, hsure, _⟩ := namedMany_is s hs rows (by omega) (fun r hr => by have := (hok r hr).2; omega)
      have hi := many_law 1 (by decide) (by decide) s hs rows (by omega) hargs
      -- the program's answer of all
      obtain ⟨P, hi, hP1, hP2⟩ : ∃ P : ByteArray × List S52 × Bool, impl_NamedManyOf.f 1 s rows = some P ∧ (∀ r, manyF 1 s rows = some r → P = (reText 1 r.1, r.2, true)) ∧ (manyF 1 s rows = none → P = (⟨#[]⟩, [], false)) := by
        cases hm : manyF 1 s rows with
        | none =>
          rw [hm] at hi
          exact ⟨_, hi, fun r h => (by cases h), fun _ => rfl⟩
        | some r =>
          rw [hm] at hi
          exact ⟨_, hi, fun q h => (by injection h with h; rw [h]), fun h => (by cases h)⟩
      have hc4 : (compOf 1 s).2.2.2 = true := by
        rcases law_sure s (by omega) hsu with ⟨more, _, _, _, _, _, h⟩ | h
        · rw [(h 1 (by decide) (by decide)).1]
        · rw [(h 1 (by decide) (by decide)).1]
      refine Ev.step (f := fun k => (spec_Compiled.f k 1 s).bind fun bt300 => (if bt300.2.2.2 = true then ((impl_NamedMany.f s rows).bind fun bt306 => (laws_FnNamedRows.l0 k s rows bt306.1 bt306.2.1 bt306.2.2 ([] : List S52) true (⟨#[]⟩ : ByteArray) ((0 : Nat) : Int))) else (some true))) (fun k => ?_) (Ev.bind hc ?_)
      · simp only [laws_FnNamedRows.j1]
        rw [if_neg (by decide)]
        rfl
      refine Ev.congr (f := fun k => laws_FnNamedRows.l0 k s rows P.1 P.2.1 P.2.2 ([] : List S52) true (⟨#[]⟩ : ByteArray) ((0 : Nat) : Int)) (fun k => ?_) ?_
      · rw [if_pos hc4, impl_NamedMany.f, hi, Option.bind_some, Option.bind_some]
      refine rows_loop s (by omega) rows (by omega) hargs P.1 P.2.1 P.2.2 true rows.length 0 [] true ⟨#[]⟩ (by omega) (by omega) (by simp) ?_
      rw [List.drop_zero]
      refine Ev.congr (fun k => rfl) (Ev.bind hres (Ev.congr (f := fun _ => some true) (fun k => ?_) (Ev.now _)))
      rcases comp_sure 1 s hsu with ⟨more, _, _, hrun⟩ | ⟨_, hrun⟩
      · have hmap : ∀ r, mapF 1 s r = (valsOf (textsL (foldB 1 more [] []).1) r).map fun vs => (⟨(foldB 1 more [] []).2.toArray⟩, vs) := by
          intro r
          unfold mapF
          rw [hrun]
        have hF : manyF 1 s rows = (allOf (textsL (foldB 1 more [] []).1) rows).map fun vs => (reText 1 (if 1 < rows.length then fixF ⟨(foldB 1 more [] []).2.toArray⟩ rows.length else ⟨(foldB 1 more [] []).2.toArray⟩), vs) := by
          unfold manyF
          rw [hrun]
          exact if_neg hz
        generalize (⟨(foldB 1 more [] []).2.toArray⟩ : ByteArray) = out at hmap hF
        generalize textsL (foldB 1 more [] []).1 = names at hmap hF
        obtain ⟨g1, g2⟩ := rowsF_some s names out hmap rows [] ⟨#[]⟩
        cases ha : allOf names rows with
        | none =>
          rw [ha] at hF
          have hF' : manyF 1 s rows = none := hF
          have hP := hP2 hF'
          rcases hsure hsu with ⟨_, hr1⟩ | ⟨r, hm, _⟩
          · rw [hr1, g2 ha, hP]
            rfl
          · rw [hF'] at hm
            cases hm
        | some vs =>
          rw [ha] at hF
          have hd := many_deep hs (by omega) hargs hF
          have hP := hP1 _ hF
          rcases hsure hsu with ⟨hm, _⟩ | ⟨r, hm, e1, e2, _⟩
          · rw [hF] at hm
            cases hm
          · have hd' : ∀ x ∈ vs, deep 2 x := hd
            have e4 : ∀ t, reText 1 t = t := fun t => if_pos (.inl rfl)
            have hP3 : P = (reText 1 (reText 1 (if 1 < rows.length then fixF out rows.length else out)), vs, true) := hP
            rw [g1 vs ha, hP3, e2, List.nil_append]
            rw [if_neg (by simp), if_neg (by simp), if_pos rfl, equal_self vs hd', Option.bind_some, if_pos rfl]
            by_cases h5 : (rows.length : Int) > 1
            · rw [if_pos h5]
            · rw [if_neg h5, if_neg hz, e4, e4, if_neg (by omega)]
              simp
      · have hF : manyF 1 s rows = none := by
          unfold manyF
          rw [hrun]
        have g := rowsF_none s (fun r => by unfold mapF; rw [hrun]) rows [] true ⟨#[]⟩ hz
        have hP := hP2 hF
        rcases hsure hsu with ⟨_, hr1⟩ | ⟨r, hm, _⟩
        · rw [hr1, g, hP]
          rfl
        · rw [hF] at hm
          cases hm
    · have hu := comp_unsure 1 s hsu
      refine Ev.step (f := fun k => (spec_Compiled.f k 1 s).bind fun bt300 => (if bt300.2.2.2 = true then ((impl_NamedMany.f s rows).bind fun bt306 => (laws_FnNamedRows.l0 k s rows bt306.1 bt306.2.1 bt306.2.2 ([] : List S52) true (⟨#[]⟩ : ByteArray) ((0 : Nat) : Int))) else (some true))) (fun k => ?_) (Ev.bind hc (Ev.congr (f := fun _ => some true) (fun k => ?_) (Ev.now _)))
      · simp only [laws_FnNamedRows.j1]
        rw [if_neg (by decide)]
        rfl
      · rw [hu, if_neg (by decide)]
end Go.Proofs.YtnmhoghmhglimaaDoor.Pure
-- WRITTEN BY A PROGRAM OF THIS SESSION (wip/rowtexts.py). Not trusted: Lean checks it.
namespace Go.Proofs.YtnmhoghmhglimaaDoor.fnNamedRows
open Go.ChangeShapes Go.WideShapes Go.ChangeAt Go.RowKit
open Go.ChangeMaps (open_string shut_string)
open Go.Proofs.YtnmhoghmhglimaaDoorW.PrintWords
set_option linter.unusedVariables false
/-- A list of texts, as an argument's cells hold it. -/
theorem texts_C {W : World} {a : Addr} {len c : Nat} {ss : List ByteArray} (hl : len ≤ c) (hm : c ≤ maxLen) (hz : ss.length = c) (hc : ∀ i, i < ss.length → W.cell? (a.add i) = some (.string (ss.getD i ByteArray.empty))) : Kd.C Kd.string W (some a) len (ss.take len) := by
  refine ⟨by rw [List.length_take]; omega, by simp only [maxLen] at hm; omega, fun _ => ⟨a, rfl, fun j p hj => ⟨[.string p], rfl, rfl, fun i u hu => ?_⟩⟩⟩
  obtain ⟨hj2, hj3⟩ := List.getElem?_eq_some_iff.1 hj
  have hj4 : j < ss.length := by rw [List.length_take] at hj2; omega
  have hp : ss.getD j ByteArray.empty = p := by
    rw [← hj3, List.getElem_take]
    simp [List.getD, hj4]
  cases i with
  | zero =>
    simp at hu
    subst hu
    rw [← hp]
    show W.cell? (a.add (j * 1 + 0)) = _
    rw [Nat.mul_one, Nat.add_zero]
    exact hc j hj4
  | succ i => simp at hu
theorem laidOut : laidOutB Tryd.prog = true := by kernel_rfl
theorem door_met (os : Os) (args : Array Value) : laidMetH Tryd.prog Rows.fnNamedRowsRow.laid ((World.doorLaid Tryd.prog 43 os).forCall (fun _ _ => 0) ⟨#[], args, []⟩).memory :=
  laidMetH_of_parts3 (fuel := 8) (laidMet_of_run' 8 (by kernel_rfl) (by kernel_rfl)) (by kernel_rfl) (by kernel_rfl)
theorem gTab : Tryd.prog.globalNamed "internal/strconv.uint64pow10" = some 2 := by kernel_rfl
theorem tab_of_laid {W : World} (h : laidMetH Tryd.prog Rows.fnNamedRowsRow.laid W) : H.Tab W := by
  have h2 := h.filter (fun x => x.1 == "internal/strconv.uint64pow10")
  have e : (Rows.fnNamedRowsRow.laid.filter fun x => x.1 == "internal/strconv.uint64pow10") = [("internal/strconv.uint64pow10", Lib.tabData .u64 Lib.pow10Tab)] := by kernel_rfl
  rw [e] at h2
  have h3 : laidMet Tryd.prog [("internal/strconv.uint64pow10", Lib.tabData .u64 Lib.pow10Tab)] W := h2
  exact Lib.tabIs_of_head (rest := []) gTab (t := 148) (e := 131) (n := 20) (by kernel_rfl) (by kernel_rfl) (by kernel_rfl) (by kernel_rfl) (by kernel_rfl) h3
theorem own : ownKnob Tryd.prog.godebug = none := by kernel_rfl
set_option maxRecDepth 100000 in
theorem lifted (os : Os) (started : os.Started) (H : Type) (enc : TypeId × Value → H) :
    ReturnsInHanded {} Tryd.checked os 16 .any (fun w args => (Rows.fnNamedRowsSpec.pre enc Tryd.prog Tryd.f16 [] false w args ∧ laidMetH Tryd.prog Rows.fnNamedRowsRow.laid w) ∧ sizedMet enc Tryd.prog Tryd.f16 (OpenSpec.ofChange Rows.fnNamedRowsSpec) false w args) (Rows.fnNamedRowsSpec.post enc Tryd.prog Tryd.f16 false true false false) := by
  refine returnsInHanded_of_change_and (C := Tryd.checked) (X := fun w _ => laidMetH Tryd.prog Rows.fnNamedRowsRow.laid w) (fun _ _ _ hh h => h.of_heap hh) own started (by kernel_rfl) Tryd.func16
    (ChangeSpec.witness_shaped (enc := enc) (C := Tryd.checked) (os := os) (X := fun w _ => laidMetH Tryd.prog Rows.fnNamedRowsRow.laid w) false (World.doorLaid Tryd.prog 43 os) #[.string ByteArray.empty, .slice none 0 0] 8 rfl (World.shaped_of_RefB (by kernel_rfl) (by kernel_rfl)) (by kernel_rfl) (by kernel_rfl) (by kernel_rfl) (door_met os _)) ?_
  intro W base args ds gs before hval0 hW hcnd hsz0 hL _
  have hsz : (DataW.weightsEach Tryd.prog (Tryd.f16.params.toList ++ Rows.fnNamedRowsSpec.plain.varTypes Tryd.prog) (ds ++ gs)).all (· ≤ reachBytes) = true := hsz0
  have hval : ∀ (j : Nat) t v, Tryd.f16.params[j]? = some t → args[j]? = some v → Value.okWide Tryd.prog W .any base t v := hval0
  have hW' := hW
  obtain ⟨p, q, hA0, hV, rfl, hfz, hnd⟩ := hW
  have hA : DataW.TrodAll enc Tryd.prog W 0 (fun _ => true) true Tryd.f16.params.toList args.toList ds p := hA0
  rw [Tryd.params16] at hA hval hsz
  obtain ⟨v0, vs0, d0, ds0, p0, q0, hargs, rfl, rfl, h0, r0⟩ := trodAll_cons hA
  obtain ⟨v1, vs1, d1, ds1, p1, q1, rfl, rfl, rfl, h1, r1⟩ := trodAll_cons r0
  obtain ⟨rfl, rfl, rfl⟩ := trodAll_nil r1
  obtain rfl : args = #[v0, v1] := by cases args; simp_all
  obtain ⟨rfl, rfl⟩ := trodVars_none hV
  obtain ⟨a0, rfl, rfl, rfl, y0⟩ := open_string Tryd.underlying9 (hval 0 9 v0 rfl rfl) h0
  obtain ⟨A1, n1, c1, rfl⟩ := okWide_slice Tryd.underlying58 (hval 1 58 v1 rfl rfl)
  have k1 := h1
  have lt1 : ∀ x ∈ p1, x.block < W.heap.size := by obtain ⟨m, hm⟩ := k1; exact DataW.trod_lt m _ _ _ hm
  obtain ⟨l1, e1, w1, u1⟩ : ∃ l : List (List QN.S54), n1 = l.length ∧ Kd.C (Kd.slice 54 QN.k54) W A1 l.length l ∧ l.length ≤ c1 := by
    obtain ⟨fuel, hf⟩ := h1
    obtain ⟨l, A, c, hcs, hl, hC⟩ := Go.Proofs.YtnmhoghmhglimaaDoor.H.opens_rows hf
    simp [Value.cells] at hcs
    obtain ⟨rfl, rfl, rfl⟩ := hcs
    exact ⟨l, rfl, hC, hl⟩
  subst e1
  clear hA0 hval0 hsz0 hsz
  obtain ⟨k, hk⟩ := Pure.FnNamedRows a0 l1 (Go.Proofs.YtnmhoghmhglimaaDoor.H.rows_len w1)
  refine (QN.laws_FnNamedRows.calls k a0 A1 c1 l1 true W (tab_of_laid hL) w1 u1 hk).mono fun e W' ⟨he, bel⟩ => ?_
  subst he
  exact ⟨_, rfl, _, _, _, [], _, [], hW', trodAll_mk1 (shut_bool Tryd.underlying4 _), (trodAll_cons_mk (shut_string Tryd.underlying9 y0) (trodAll_cons_mk (Below.trod laidOut (by kernel_rfl) (of_decide_eq_true (by kernel_rfl)) k1 bel lt1) trodAll_mk0)), rfl, bel.frame _, fun h => by cases h⟩
theorem lf : (Rows.fnNamedRowsRow.lifted == Tryd.pinned.checked.prog.liftsFinal) = true := beq_iff_eq.mpr Facts.liftsFinal.symm
theorem mk : (Tryd.pinned.checked.prog.make == some Rows.fnNamedRowsRow.make) = true := beq_iff_eq.mpr Facts.make
theorem joined : joinedFacts Tryd.pinned.checked.prog 16 Tryd.f16 Rows.fnNamedRowsSpec Rows.fnNamedRowsRow = true := by
  unfold joinedFacts
  rw [Facts.mayEnter, lf, mk]
  kernel_rfl
theorem over : Rows.fnNamedRowsRow.holds Tryd.pinned (OpenSpec.ofChange Rows.fnNamedRowsSpec) :=
  OpenClaim.holds_of_wide 16 Tryd.f16 rfl rfl rfl rfl rfl rfl rfl ⟨rfl, rfl, rfl, rfl, rfl⟩ rfl rfl rfl rfl rfl (by kernel_rfl) Tryd.func16 joined
    (of_decide_eq_true (by kernel_rfl)) (by unfold Func.isWrapper; first | (rw [if_pos (by decide +kernel)]; kernel_rfl) | (rw [if_neg (by decide +kernel)]; exact ⟨rfl, rfl⟩))
    (fun os started H enc _ => lifted os started H enc)
theorem proved : Rows.FnNamedRowsSaid := over
theorem plain (f : FuncId) (fn : Func) (hf : Tryd.pinned.checked.prog.funcNamed "given.example/pub-conveyance/laws.FnNamedRows" = some f) (hfn : Tryd.pinned.checked.prog.funcs[f]? = some fn) :
    true = Tryd.pinned.checked.prog.looks [] ∧ ∀ (j : Nat) t, fn.params[j]? = some t → Tryd.pinned.checked.prog.wantsStandIn t = false := by
  obtain rfl : f = 16 := Option.some.inj ((show Tryd.prog.funcNamed "given.example/pub-conveyance/laws.FnNamedRows" = some 16 by kernel_rfl).symm.trans hf) |>.symm
  obtain rfl : fn = Tryd.f16 := (Option.some.inj (Tryd.func16.symm.trans hfn)).symm
  refine ⟨by kernel_rfl, fun j t ht => ?_⟩
  rw [Tryd.params16] at ht
  have hm : t ∈ [9, 58] := by simpa using Array.mem_of_getElem? ht
  have hall : ([9, 58].all fun u => !Tryd.prog.wantsStandIn u) = true := by kernel_rfl
  exact (show Tryd.prog.wantsStandIn t = false by simpa using List.all_eq_true.1 hall t hm)
theorem card : Rows.FnNamedRowsCardSaid :=
  Claim7.holds_tied_plain_at .later [] _ _ _ _ proved (fun _ h => by cases h) (by kernel_rfl) (fun _ h => by cases h) fnNamedRows_row_tie rfl ⟨rfl, rfl⟩ Facts.mainIs rfl plain (by kernel_rfl)
#print axioms card
end Go.Proofs.YtnmhoghmhglimaaDoor.fnNamedRows
namespace Go.Proofs.YtnmhoghmhglimaaDoor
/-- The row, under a short name, for the claim. -/
theorem fnNamedRows_holds : Rows.FnNamedRowsCardSaid := fnNamedRows.card
end Go.Proofs.YtnmhoghmhglimaaDoor
