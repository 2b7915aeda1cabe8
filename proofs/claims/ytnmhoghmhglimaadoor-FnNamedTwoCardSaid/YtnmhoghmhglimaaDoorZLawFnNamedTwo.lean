/-
  MERGED BY A PROGRAM OF THIS SESSION (wip/pack.py): QN12, PureFnNamedTwo, LawFnNamedTwo.
-/
import Derived.Test.YtnmhoghmhglimaaDoorZB
import Derived.Test.YtnmhoghmhglimaaDoorZD
import Derived.Test.YtnmhoghmhglimaaDoorZE
import Derived.Test.YtnmhoghmhglimaaDoorZF
import Derived.Test.YtnmhoghmhglimaaDoorZG
import Derived.Test.YtnmhoghmhglimaaDoorCards
import Derived.Test.YtnmhoghmhglimaaDoorTie
import Derived.LaidMore
import Derived.Lib.LaidTab
import Derived.LaidSub
import Derived.Stop.Joined
import Derived.SevenTiedAt
import Derived.Test.YtnmhoghmhglimaaDoorFactsA
import Derived.Test.YtnmhoghmhglimaaDoorFactsB
import Derived.Test.YtnmhoghmhglimaaDoorFactsC
import Derived.Test.YtnmhoghmhglimaaDoorFactsD
import Derived.WalkKit
import Derived.ProofKit
import Derived.OpenShut
import Derived.ShutString
import Derived.ChangeOld
import Derived.Below
import Derived.SizedLaws
import Derived.SliceStrings
-- WRITTEN BY A PROGRAM OF THIS SESSION (wip/print2.py): the print, with contracts of this session's own let in. Not trusted: Lean checks it.
namespace Go.Proofs.YtnmhoghmhglimaaDoor.QN
open Go.RowKit Go.Proofs.YtnmhoghmhglimaaDoorW.PrintWords Go.Proofs.YtnmhoghmhglimaaDoorW.PrintLast Go.Proofs.YtnmhoghmhglimaaDoorW.PrintMore
attribute [local go_sem] max2_int min2_int max_two min_two max_three min_three max_four min_four   -- for this text's walks alone
set_option linter.unusedVariables false
set_option linter.unusedSimpArgs false

open Go.Proofs.YtnmhoghmhglimaaDoor.H
/-! ### laws_FnNamedTwo: function 13 -/
mutual
def laws_FnNamedTwo.j0 : Nat → ByteArray → ByteArray → List (S54) → Bool → Option (Bool)
  | 0, _, _, _, _ => none
  | k + 1, x0, x1, x2, x36 => if x36 = true then (some true) else (if (x0.size : Int) > 1000 then (laws_FnNamedTwo.j1 k x0 x1 x2 true) else (if (x1.size : Int) > 1000 then (laws_FnNamedTwo.j1 k x0 x1 x2 true) else ((spec_ArgsRight.f k x2).bind fun t206 => (laws_FnNamedTwo.j1 k x0 x1 x2 (!t206)))))
def laws_FnNamedTwo.j1 : Nat → ByteArray → ByteArray → List (S54) → Bool → Option (Bool)
  | 0, _, _, _, _ => none
  | k + 1, x0, x1, x2, x49 => if x49 = true then (some true) else ((spec_NamedOf.f k 1 x0 x2).bind fun bt207 => ((spec_NamedOf.f k 1 x1 x2).bind fun bt213 => (if bt207.2.2.2 = true then (if bt213.2.2.2 = true then (if bt207.2.2.1 = true then (laws_FnNamedTwo.j2 k x0 x1 x2 (!bt213.2.2.1)) else (laws_FnNamedTwo.j2 k x0 x1 x2 true)) else (laws_FnNamedTwo.j2 k x0 x1 x2 true)) else (laws_FnNamedTwo.j2 k x0 x1 x2 true))))
def laws_FnNamedTwo.j2 : Nat → ByteArray → ByteArray → List (S54) → Bool → Option (Bool)
  | 0, _, _, _, _ => none
  | k + 1, x0, x1, x2, x79 => if x79 = true then (some true) else ((impl_Named.f x0 x2).bind fun bt219 => ((impl_Named.f x1 x2).bind fun bt224 => (if x0.size + 1 ≤ 9223372036854775807 then (if (x0 ++ (⟨#[32]⟩ : ByteArray)).size + x1.size ≤ 9223372036854775807 then ((impl_Named.f ((x0 ++ (⟨#[32]⟩ : ByteArray)) ++ x1) x2).bind fun bt229 => (if bt219.2.2 = true then (if bt224.2.2 = true then (if bt229.2.2 = true then (if bt219.1.size + 1 ≤ 9223372036854775807 then (if (bt219.1 ++ (⟨#[32]⟩ : ByteArray)).size + bt224.1.size ≤ 9223372036854775807 then (if bt229.1.toList = ((bt219.1 ++ (⟨#[32]⟩ : ByteArray)) ++ bt224.1).toList then ((some (([] : List (S52)) : List (S52))).bind fun y234 => (if y234.length + bt219.2.1.length < 2513169434916 then ((some (y234 ++ bt219.2.1 : List (S52))).bind fun y237 => (if y237.length + bt224.2.1.length < 2513169434916 then ((spec_EqualValues.f bt229.2.1 (y237 ++ bt224.2.1)).bind fun t243 => (some t243)) else (none))) else (none))) else (some false)) else (none)) else (none)) else (some false)) else (some false)) else (some false))) else (none)) else (none))))
end
def laws_FnNamedTwo.f (k : Nat) (a0 : ByteArray) (a1 : ByteArray) (l2 : List (S54)) : Option (Bool) := if (a0.size : Int) > 2147483647 then (laws_FnNamedTwo.j0 k a0 a1 l2 true) else (if (a1.size : Int) > 2147483647 then (laws_FnNamedTwo.j0 k a0 a1 l2 true) else (laws_FnNamedTwo.j0 k a0 a1 l2 (decide ((l2.length : Int) > 2147483647))))
set_option maxHeartbeats 8000000 in
set_option maxRecDepth 100000 in
theorem laws_FnNamedTwo.calls (k : Nat) (a0 : ByteArray) (a1 : ByteArray) (A2 : Option Addr) (c2 : Nat) (l2 : List (S54)) (r : Bool) (w : World) (ht_ : Tab w) (hr2 : Kd.C k54 w A2 l2.length l2) (hc2 : l2.length ≤ c2) (h : laws_FnNamedTwo.f k a0 a1 l2 = some r) :
    Calls Tryd.prog 13 #[.string a0, .string a1, .slice A2 l2.length c2] w fun e w' => e = .returned (.bool r) ∧ Below w.heap.size w w' := by
  have HR2 := Aside0.mk hr2
  have HC2 := Aside0.mk hc2
  clear hr2 hc2
  have HB := Aside0.mk (Below.refl w.heap.size w)
  have HT_ := Aside0.mk (tab_below ht_)
  clear ht_
  have H : (if (a0.size : Int) > 2147483647 then (laws_FnNamedTwo.j0 k a0 a1 l2 true) else (if (a1.size : Int) > 2147483647 then (laws_FnNamedTwo.j0 k a0 a1 l2 true) else (laws_FnNamedTwo.j0 k a0 a1 l2 (decide ((l2.length : Int) > 2147483647))))) = some r := h
  clear h
  have HC4 := Aside0.mk H
  clear H
  go_enter Tryd.func13, Tryd.ntmps13
  go_upto_region 1 with (fail)
  go_cut [36] (fun v36 wc => ∃ (kq : Nat) (x36_3 : Bool), v36 = .bool x36_3 ∧ Aside0 (laws_FnNamedTwo.j0 kq a0 a1 l2 x36_3 = some r) ∧ Aside0 (kq ≤ k) ∧ Aside0 (Below w.heap.size w wc))
  case first =>
    have H := HC4.out
    clear HC4
    by_cases c5 : (a0.size : Int) > 2147483647
    · rw [if_pos c5] at H
      have c5b0 : decide (2147483647 < (a0.size : Int)) = true := decide_eq_true c5
      have c5b1 : decide (2147483647 < a0.size) = true := decide_eq_true (by omega)
      clear c5
      (first | rw [c5b0] | (simp only [i64_w, i32_w]; rw [c5b0]) | skip)
      have H' := Aside0.mk H
      clear H
      go_wp2
      go_meet
      case rel => exact ⟨_, (true), (by first | rfl | (simp; done) | (simp [*]; done)), H', ⟨by first | omega | exact Nat.le_refl _⟩, ⟨by repeat (first | (with_reducible first | exact HB.out | apply below_alloc | apply pw_below_drewN | apply below_drew1) | exact HB.out)⟩⟩
    · rw [if_neg c5] at H
      have c5b0 : decide (2147483647 < (a0.size : Int)) = false := decide_eq_false c5
      have c5b1 : decide (2147483647 < a0.size) = false := decide_eq_false (by omega)
      clear c5
      (first | rw [c5b0] | (simp only [i64_w, i32_w]; rw [c5b0]) | skip)
      by_cases c6 : (a1.size : Int) > 2147483647
      · rw [if_pos c6] at H
        have c6b0 : decide (2147483647 < (a1.size : Int)) = true := decide_eq_true c6
        have c6b1 : decide (2147483647 < a1.size) = true := decide_eq_true (by omega)
        clear c6
        have H' := Aside0.mk H
        clear H
        go_wp2
        go_meet
        case rel => exact ⟨_, (true), (by first | rfl | (simp; done) | (simp [*]; done)), H', ⟨by first | omega | exact Nat.le_refl _⟩, ⟨by repeat (first | (with_reducible first | exact HB.out | apply below_alloc | apply pw_below_drewN | apply below_drew1) | exact HB.out)⟩⟩
      · rw [if_neg c6] at H
        have c6b0 : decide (2147483647 < (a1.size : Int)) = false := decide_eq_false c6
        have c6b1 : decide (2147483647 < a1.size) = false := decide_eq_false (by omega)
        clear c6
        have H' := Aside0.mk H
        clear H
        go_wp2
        go_meet
        case rel => exact ⟨_, (decide ((l2.length : Int) > 2147483647)), (by first | rfl | (simp; done) | (simp [*]; done)), H', ⟨by first | omega | exact Nat.le_refl _⟩, ⟨by repeat (first | (with_reducible first | exact HB.out | apply below_alloc | apply pw_below_drewN | apply below_drew1) | exact HB.out)⟩⟩
  case rest =>
    clear HC4
    try clear c1
    try clear c2
    try clear p2
    try clear c5
    try clear c5b0
    try clear c5b1
    try clear c6
    try clear c6b0
    try clear c6b1
    obtain ⟨kq, x36_3, rfl, HA, HJ3, HB⟩ := hcut
    cases kq with
    | zero => exact absurd HA.out (by simp [laws_FnNamedTwo.j0])
    | succ kj3 =>
      have H := HA.out
      clear HA
      simp only [laws_FnNamedTwo.j0] at H
      by_cases c7 : x36_3 = true
      · subst c7
        have H1 : (some true) = some r := by rw [if_pos rfl] at H; exact H
        clear H
        have H := H1
        clear H1
        obtain rfl := Option.some.inj H
        go_wp2
        go_ret
        exact ⟨by first | rfl | (simp [errW_none, errW_some] <;> rfl) | (simp [*, errW_none, errW_some] <;> rfl), by repeat (first | (with_reducible first | exact HB.out | apply below_alloc | apply pw_below_drewN | apply below_drew1) | exact HB.out)⟩
      · replace c7 := Bool.eq_false_iff.mpr c7
        subst c7
        have H1 : (if (a0.size : Int) > 1000 then (laws_FnNamedTwo.j1 kj3 a0 a1 l2 true) else (if (a1.size : Int) > 1000 then (laws_FnNamedTwo.j1 kj3 a0 a1 l2 true) else ((spec_ArgsRight.f kj3 l2).bind fun t206 => (laws_FnNamedTwo.j1 kj3 a0 a1 l2 (!t206))))) = some r := by rw [if_neg (show ¬ (false = true) by decide)] at H; exact H
        clear H
        have H := H1
        clear H1
        have HC8 := Aside0.mk H
        clear H
        go_upto_region 3 with (fail)
        go_cut [49] (fun v49 wc => ∃ (kq : Nat) (x49_7 : Bool), v49 = .bool x49_7 ∧ Aside0 (laws_FnNamedTwo.j1 kq a0 a1 l2 x49_7 = some r) ∧ Aside0 (kq ≤ kj3) ∧ Aside0 (Below w.heap.size w wc))
        case first =>
          have H := HC8.out
          clear HC8
          by_cases c9 : (a0.size : Int) > 1000
          · rw [if_pos c9] at H
            have c9b0 : decide (1000 < (a0.size : Int)) = true := decide_eq_true c9
            have c9b1 : decide (1000 < a0.size) = true := decide_eq_true (by omega)
            clear c9
            (first | rw [c9b0] | (simp only [i64_w, i32_w]; rw [c9b0]) | skip)
            have H' := Aside0.mk H
            clear H
            go_wp2
            go_meet
            case rel => exact ⟨_, (true), (by first | rfl | (simp; done) | (simp [*]; done)), H', ⟨by have := HJ3.out; first | omega | exact Nat.le_refl _⟩, ⟨by repeat (first | (with_reducible first | exact HB.out | apply below_alloc | apply pw_below_drewN | apply below_drew1) | exact HB.out)⟩⟩
          · rw [if_neg c9] at H
            have c9b0 : decide (1000 < (a0.size : Int)) = false := decide_eq_false c9
            have c9b1 : decide (1000 < a0.size) = false := decide_eq_false (by omega)
            clear c9
            (first | rw [c9b0] | (simp only [i64_w, i32_w]; rw [c9b0]) | skip)
            by_cases c10 : (a1.size : Int) > 1000
            · rw [if_pos c10] at H
              have c10b0 : decide (1000 < (a1.size : Int)) = true := decide_eq_true c10
              have c10b1 : decide (1000 < a1.size) = true := decide_eq_true (by omega)
              clear c10
              have H' := Aside0.mk H
              clear H
              go_wp2
              go_meet
              case rel => exact ⟨_, (true), (by first | rfl | (simp; done) | (simp [*]; done)), H', ⟨by have := HJ3.out; first | omega | exact Nat.le_refl _⟩, ⟨by repeat (first | (with_reducible first | exact HB.out | apply below_alloc | apply pw_below_drewN | apply below_drew1) | exact HB.out)⟩⟩
            · rw [if_neg c10] at H
              have c10b0 : decide (1000 < (a1.size : Int)) = false := decide_eq_false c10
              have c10b1 : decide (1000 < a1.size) = false := decide_eq_false (by omega)
              clear c10
              replace H := Option.bind_eq_some_iff.mp H
              obtain ⟨t206, A110, H⟩ := H
              replace H : (laws_FnNamedTwo.j1 kj3 a0 a1 l2 (!t206)) = some r := H
              have A11 := Aside0.mk A110
              clear A110
              have H' := Aside0.mk H
              clear H
              go_wp2_with (first | (go_at_call 34; (with_reducible refine (spec_ArgsRight.calls kj3 _ _ l2 t206 _ ?side1 ?side2 A11.out).mono ?_); (case side1 => repeat (first | exact (Kd.C_below HR2.out HB.out) | (with_reducible refine Kd.C_alloc ?_ _) | (with_reducible refine Kd.C_drewN ?_ _) | (with_reducible refine Kd.C_drew ?_))); (case side2 => exact HC2.out); rintro e w12 ⟨rfl, hb⟩; have n0_ := Aside0.mk (below_step (by repeat (first | (with_reducible first | exact HB.out | apply below_alloc | apply pw_below_drewN | apply below_drew1) | exact HB.out)) hb); clear HB; have HB := n0_; clear n0_; (try clear hb); (try clear hb2); (try clear hk); (try clear hi)))
              go_meet
              case rel => exact ⟨_, (!t206), (by first | rfl | (simp; done) | (simp [*]; done)), H', ⟨by have := HJ3.out; first | omega | exact Nat.le_refl _⟩, ⟨by repeat (first | (with_reducible first | exact HB.out | apply below_alloc | apply pw_below_drewN | apply below_drew1) | exact HB.out)⟩⟩
        case rest =>
          clear HC8
          try clear c1
          try clear c2
          try clear p2
          try clear c5
          try clear c5b0
          try clear c5b1
          try clear c6
          try clear c6b0
          try clear c6b1
          try clear c7
          try clear c9
          try clear c9b0
          try clear c9b1
          try clear c10
          try clear c10b0
          try clear c10b1
          try clear p2
          obtain ⟨kq, x49_7, rfl, HA, HJ7, HB⟩ := hcut
          cases kq with
          | zero => exact absurd HA.out (by simp [laws_FnNamedTwo.j1])
          | succ kj7 =>
            have H := HA.out
            clear HA
            simp only [laws_FnNamedTwo.j1] at H
            by_cases c13 : x49_7 = true
            · subst c13
              have H1 : (some true) = some r := by rw [if_pos rfl] at H; exact H
              clear H
              have H := H1
              clear H1
              obtain rfl := Option.some.inj H
              go_wp2
              go_ret
              exact ⟨by first | rfl | (simp [errW_none, errW_some] <;> rfl) | (simp [*, errW_none, errW_some] <;> rfl), by repeat (first | (with_reducible first | exact HB.out | apply below_alloc | apply pw_below_drewN | apply below_drew1) | exact HB.out)⟩
            · replace c13 := Bool.eq_false_iff.mpr c13
              subst c13
              have H1 : ((spec_NamedOf.f kj7 1 a0 l2).bind fun bt207 => ((spec_NamedOf.f kj7 1 a1 l2).bind fun bt213 => (if bt207.2.2.2 = true then (if bt213.2.2.2 = true then (if bt207.2.2.1 = true then (laws_FnNamedTwo.j2 kj7 a0 a1 l2 (!bt213.2.2.1)) else (laws_FnNamedTwo.j2 kj7 a0 a1 l2 true)) else (laws_FnNamedTwo.j2 kj7 a0 a1 l2 true)) else (laws_FnNamedTwo.j2 kj7 a0 a1 l2 true)))) = some r := by rw [if_neg (show ¬ (false = true) by decide)] at H; exact H
              clear H
              have H := H1
              clear H1
              replace H := Option.bind_eq_some_iff.mp H
              obtain ⟨⟨t207, t208, t211, t212⟩, A140, H⟩ := H
              replace H : ((spec_NamedOf.f kj7 1 a1 l2).bind fun bt213 => (if t212 = true then (if bt213.2.2.2 = true then (if t211 = true then (laws_FnNamedTwo.j2 kj7 a0 a1 l2 (!bt213.2.2.1)) else (laws_FnNamedTwo.j2 kj7 a0 a1 l2 true)) else (laws_FnNamedTwo.j2 kj7 a0 a1 l2 true)) else (laws_FnNamedTwo.j2 kj7 a0 a1 l2 true))) = some r := H
              have A14 := Aside0.mk A140
              clear A140
              replace H := Option.bind_eq_some_iff.mp H
              obtain ⟨⟨t213, t214, t217, t218⟩, A150, H⟩ := H
              replace H : (if t212 = true then (if t218 = true then (if t211 = true then (laws_FnNamedTwo.j2 kj7 a0 a1 l2 (!t217)) else (laws_FnNamedTwo.j2 kj7 a0 a1 l2 true)) else (laws_FnNamedTwo.j2 kj7 a0 a1 l2 true)) else (laws_FnNamedTwo.j2 kj7 a0 a1 l2 true)) = some r := H
              have A15 := Aside0.mk A150
              clear A150
              have HC16 := Aside0.mk H
              clear H
              go_upto_region 7 with (first | ((with_reducible refine gate_callee (f := 35) rfl ?_); refine goesL_ (some 53) rfl rfl Tryd.func35 (by kernel_rfl) rfl #[.int .i64 1, .string a0, .slice A2 l2.length c2] rfl (by (try simp only [List.map_toArray, List.map_cons, List.map_nil]); first | done | rfl | (simp only [List.length_drop, List.length_take]; rfl)) ?_; (with_reducible refine (spec_NamedOf.calls kj7 1 a0 (fun k_ => k_ < w.heap.size) _ _ l2 t207 t208 t211 t212 _ ?side1 A14.out).mono ?_); (case side1 => exact Kd.V_mk HC2.out (Kd.F_below (Kd.C_F k54_heap HR2.out) (by repeat (first | (with_reducible first | exact HB.out | apply below_alloc | apply pw_below_drewN | apply below_drew1) | exact HB.out)))); rintro e w17 ⟨v209, rfl, ho0, hb⟩; refine ⟨_, rfl, ?_⟩; have n0_ := Aside0.mk (Kd.N_lower (Kd.N_mono (ok' := fun k_ => True) ho0 (fun k_ hk_ => trivial)) (below_size (by repeat (first | (with_reducible first | exact HB.out | apply below_alloc | apply pw_below_drewN | apply below_drew1) | exact HB.out)))); have n1_ := Aside0.mk (below_step (by repeat (first | (with_reducible first | exact HB.out | apply below_alloc | apply pw_below_drewN | apply below_drew1) | exact HB.out)) hb); clear HB; have HO210 := n0_; have HB := n1_; clear n0_ n1_; (try clear hb); (try clear hb2); (try clear hk); (try clear hi); (try clear ho0)) | ((with_reducible refine gate_callee (f := 35) rfl ?_); refine goesL_ (some 61) rfl rfl Tryd.func35 (by kernel_rfl) rfl #[.int .i64 1, .string a1, .slice A2 l2.length c2] rfl (by (try simp only [List.map_toArray, List.map_cons, List.map_nil]); first | done | rfl | (simp only [List.length_drop, List.length_take]; rfl)) ?_; (with_reducible refine (spec_NamedOf.calls kj7 1 a1 (fun k_ => k_ < w.heap.size) _ _ l2 t213 t214 t217 t218 _ ?side1 A15.out).mono ?_); (case side1 => exact Kd.V_mk HC2.out (Kd.F_below (Kd.C_F k54_heap HR2.out) (by repeat (first | (with_reducible first | exact HB.out | apply below_alloc | apply pw_below_drewN | apply below_drew1) | exact HB.out)))); rintro e w18 ⟨v215, rfl, ho0, hb⟩; refine ⟨_, rfl, ?_⟩; have n0_ := Aside0.mk (Kd.N_elder' (by (with_reducible repeat (first | apply Kd.N_alloc | apply Kd.N_drewN | apply Kd.N_drew)); exact HO210.out) (Kd.N_base ho0) hb); have n1_ := Aside0.mk (Kd.N_lower (Kd.N_mono (ok' := fun k_ => some k_ ≠ (v209 : Value).ownBlock) ho0 (fun k_ hk_ => Or.elim hk_ (fun hs_ => fun e_ => Nat.not_le.2 hs_ (Kd.N_base HO210.out k_ e_.symm)) (fun hn_ => (Kd.fresh' (Kd.N_lt (by (with_reducible repeat (first | apply Kd.N_alloc | apply Kd.N_drewN | apply Kd.N_drew)); exact HO210.out)) k_ hn_)))) (below_size (by repeat (first | (with_reducible first | exact HB.out | apply below_alloc | apply pw_below_drewN | apply below_drew1) | exact HB.out)))); have n2_ := Aside0.mk (below_step (by repeat (first | (with_reducible first | exact HB.out | apply below_alloc | apply pw_below_drewN | apply below_drew1) | exact HB.out)) hb); clear HO210; clear HB; have HO210 := n0_; have HO216 := n1_; have HB := n2_; clear n0_ n1_ n2_; (try clear hb); (try clear hb2); (try clear hk); (try clear hi); (try clear ho0)))
              (try simp only [Act.put, List.setIfInBounds_toArray, List.set_cons_zero, List.set_cons_succ])
              go_cut [79] (fun v79 wc => ∃ (kq : Nat) (x79_15 : Bool), v79 = .bool x79_15 ∧ Aside0 (laws_FnNamedTwo.j2 kq a0 a1 l2 x79_15 = some r) ∧ Aside0 (kq ≤ kj7) ∧ Aside0 (Below w.heap.size w wc))
              case first =>
                have H := HC16.out
                clear HC16
                by_cases c19 : t212 = true
                · subst c19
                  have H1 : (if t218 = true then (if t211 = true then (laws_FnNamedTwo.j2 kj7 a0 a1 l2 (!t217)) else (laws_FnNamedTwo.j2 kj7 a0 a1 l2 true)) else (laws_FnNamedTwo.j2 kj7 a0 a1 l2 true)) = some r := by rw [if_pos rfl] at H; exact H
                  clear H
                  have H := H1
                  clear H1
                  by_cases c20 : t218 = true
                  · subst c20
                    have H1 : (if t211 = true then (laws_FnNamedTwo.j2 kj7 a0 a1 l2 (!t217)) else (laws_FnNamedTwo.j2 kj7 a0 a1 l2 true)) = some r := by rw [if_pos rfl] at H; exact H
                    clear H
                    have H := H1
                    clear H1
                    by_cases c21 : t211 = true
                    · subst c21
                      have H1 : (laws_FnNamedTwo.j2 kj7 a0 a1 l2 (!t217)) = some r := by rw [if_pos rfl] at H; exact H
                      clear H
                      have H := H1
                      clear H1
                      have H' := Aside0.mk H
                      clear H
                      go_wp2
                      go_meet
                      case rel => exact ⟨_, (!t217), (by first | rfl | (simp; done) | (simp [*]; done)), H', ⟨by have := HJ3.out; have := HJ7.out; first | omega | exact Nat.le_refl _⟩, ⟨by repeat (first | (with_reducible first | exact HB.out | apply below_alloc | apply pw_below_drewN | apply below_drew1) | exact HB.out)⟩⟩
                    · replace c21 := Bool.eq_false_iff.mpr c21
                      subst c21
                      have H1 : (laws_FnNamedTwo.j2 kj7 a0 a1 l2 true) = some r := by rw [if_neg (show ¬ (false = true) by decide)] at H; exact H
                      clear H
                      have H := H1
                      clear H1
                      have H' := Aside0.mk H
                      clear H
                      go_wp2
                      go_meet
                      case rel => exact ⟨_, (true), (by first | rfl | (simp; done) | (simp [*]; done)), H', ⟨by have := HJ3.out; have := HJ7.out; first | omega | exact Nat.le_refl _⟩, ⟨by repeat (first | (with_reducible first | exact HB.out | apply below_alloc | apply pw_below_drewN | apply below_drew1) | exact HB.out)⟩⟩
                  · replace c20 := Bool.eq_false_iff.mpr c20
                    subst c20
                    have H1 : (laws_FnNamedTwo.j2 kj7 a0 a1 l2 true) = some r := by rw [if_neg (show ¬ (false = true) by decide)] at H; exact H
                    clear H
                    have H := H1
                    clear H1
                    have H' := Aside0.mk H
                    clear H
                    go_wp2
                    go_meet
                    case rel => exact ⟨_, (true), (by first | rfl | (simp; done) | (simp [*]; done)), H', ⟨by have := HJ3.out; have := HJ7.out; first | omega | exact Nat.le_refl _⟩, ⟨by repeat (first | (with_reducible first | exact HB.out | apply below_alloc | apply pw_below_drewN | apply below_drew1) | exact HB.out)⟩⟩
                · replace c19 := Bool.eq_false_iff.mpr c19
                  subst c19
                  have H1 : (laws_FnNamedTwo.j2 kj7 a0 a1 l2 true) = some r := by rw [if_neg (show ¬ (false = true) by decide)] at H; exact H
                  clear H
                  have H := H1
                  clear H1
                  have H' := Aside0.mk H
                  clear H
                  go_wp2
                  go_meet
                  case rel => exact ⟨_, (true), (by first | rfl | (simp; done) | (simp [*]; done)), H', ⟨by have := HJ3.out; have := HJ7.out; first | omega | exact Nat.le_refl _⟩, ⟨by repeat (first | (with_reducible first | exact HB.out | apply below_alloc | apply pw_below_drewN | apply below_drew1) | exact HB.out)⟩⟩
              case rest =>
                clear HC16
                try clear c1
                try clear c2
                try clear p2
                try clear c3
                try clear c5
                try clear c5b0
                try clear c5b1
                try clear c6
                try clear c6b0
                try clear c6b1
                try clear c7
                try clear c9
                try clear c9b0
                try clear c9b1
                try clear c10
                try clear c10b0
                try clear c10b1
                try clear c13
                try clear c19
                try clear c20
                try clear c21
                try clear p2
                obtain ⟨kq, x79_15, rfl, HA, HJ15, HB⟩ := hcut
                cases kq with
                | zero => exact absurd HA.out (by simp [laws_FnNamedTwo.j2])
                | succ kj15 =>
                  have H := HA.out
                  clear HA
                  simp only [laws_FnNamedTwo.j2] at H
                  by_cases c22 : x79_15 = true
                  · subst c22
                    have H1 : (some true) = some r := by rw [if_pos rfl] at H; exact H
                    clear H
                    have H := H1
                    clear H1
                    obtain rfl := Option.some.inj H
                    go_wp2
                    go_ret
                    exact ⟨by first | rfl | (simp [errW_none, errW_some] <;> rfl) | (simp [*, errW_none, errW_some] <;> rfl), by repeat (first | (with_reducible first | exact HB.out | apply below_alloc | apply pw_below_drewN | apply below_drew1) | exact HB.out)⟩
                  · replace c22 := Bool.eq_false_iff.mpr c22
                    subst c22
                    have H1 : ((impl_Named.f a0 l2).bind fun bt219 => ((impl_Named.f a1 l2).bind fun bt224 => (if a0.size + 1 ≤ 9223372036854775807 then (if (a0 ++ (⟨#[32]⟩ : ByteArray)).size + a1.size ≤ 9223372036854775807 then ((impl_Named.f ((a0 ++ (⟨#[32]⟩ : ByteArray)) ++ a1) l2).bind fun bt229 => (if bt219.2.2 = true then (if bt224.2.2 = true then (if bt229.2.2 = true then (if bt219.1.size + 1 ≤ 9223372036854775807 then (if (bt219.1 ++ (⟨#[32]⟩ : ByteArray)).size + bt224.1.size ≤ 9223372036854775807 then (if bt229.1.toList = ((bt219.1 ++ (⟨#[32]⟩ : ByteArray)) ++ bt224.1).toList then ((some (([] : List (S52)) : List (S52))).bind fun y234 => (if y234.length + bt219.2.1.length < 2513169434916 then ((some (y234 ++ bt219.2.1 : List (S52))).bind fun y237 => (if y237.length + bt224.2.1.length < 2513169434916 then ((spec_EqualValues.f bt229.2.1 (y237 ++ bt224.2.1)).bind fun t243 => (some t243)) else (none))) else (none))) else (some false)) else (none)) else (none)) else (some false)) else (some false)) else (some false))) else (none)) else (none)))) = some r := by rw [if_neg (show ¬ (false = true) by decide)] at H; exact H
                    clear H
                    have H := H1
                    clear H1
                    replace H := Option.bind_eq_some_iff.mp H
                    obtain ⟨⟨t219, t220, t221⟩, A230, H⟩ := H
                    replace H : ((impl_Named.f a1 l2).bind fun bt224 => (if a0.size + 1 ≤ 9223372036854775807 then (if (a0 ++ (⟨#[32]⟩ : ByteArray)).size + a1.size ≤ 9223372036854775807 then ((impl_Named.f ((a0 ++ (⟨#[32]⟩ : ByteArray)) ++ a1) l2).bind fun bt229 => (if t221 = true then (if bt224.2.2 = true then (if bt229.2.2 = true then (if t219.size + 1 ≤ 9223372036854775807 then (if (t219 ++ (⟨#[32]⟩ : ByteArray)).size + bt224.1.size ≤ 9223372036854775807 then (if bt229.1.toList = ((t219 ++ (⟨#[32]⟩ : ByteArray)) ++ bt224.1).toList then ((some (([] : List (S52)) : List (S52))).bind fun y234 => (if y234.length + t220.length < 2513169434916 then ((some (y234 ++ t220 : List (S52))).bind fun y237 => (if y237.length + bt224.2.1.length < 2513169434916 then ((spec_EqualValues.f bt229.2.1 (y237 ++ bt224.2.1)).bind fun t243 => (some t243)) else (none))) else (none))) else (some false)) else (none)) else (none)) else (some false)) else (some false)) else (some false))) else (none)) else (none))) = some r := H
                    have A23 := Aside0.mk A230
                    clear A230
                    replace H := Option.bind_eq_some_iff.mp H
                    obtain ⟨⟨t224, t225, t226⟩, A240, H⟩ := H
                    replace H : (if a0.size + 1 ≤ 9223372036854775807 then (if (a0 ++ (⟨#[32]⟩ : ByteArray)).size + a1.size ≤ 9223372036854775807 then ((impl_Named.f ((a0 ++ (⟨#[32]⟩ : ByteArray)) ++ a1) l2).bind fun bt229 => (if t221 = true then (if t226 = true then (if bt229.2.2 = true then (if t219.size + 1 ≤ 9223372036854775807 then (if (t219 ++ (⟨#[32]⟩ : ByteArray)).size + t224.size ≤ 9223372036854775807 then (if bt229.1.toList = ((t219 ++ (⟨#[32]⟩ : ByteArray)) ++ t224).toList then ((some (([] : List (S52)) : List (S52))).bind fun y234 => (if y234.length + t220.length < 2513169434916 then ((some (y234 ++ t220 : List (S52))).bind fun y237 => (if y237.length + t225.length < 2513169434916 then ((spec_EqualValues.f bt229.2.1 (y237 ++ t225)).bind fun t243 => (some t243)) else (none))) else (none))) else (some false)) else (none)) else (none)) else (some false)) else (some false)) else (some false))) else (none)) else (none)) = some r := H
                    have A24 := Aside0.mk A240
                    clear A240
                    by_cases c25 : a0.size + 1 ≤ 9223372036854775807
                    · rw [if_pos c25] at H
                      have c25b0 := eq_true c25
                      have c25b1 : decide (a0.size + 1 ≤ 9223372036854775807) = true := decide_eq_true c25
                      try have c25b2 : (9223372036854775807 < a0.size + 1) = False := eq_false (Nat.not_lt.2 c25)
                      by_cases c26 : (a0 ++ (⟨#[32]⟩ : ByteArray)).size + a1.size ≤ 9223372036854775807
                      · rw [if_pos c26] at H
                        have c26b0 := eq_true c26
                        have c26b1 : decide ((a0 ++ (⟨#[32]⟩ : ByteArray)).size + a1.size ≤ 9223372036854775807) = true := decide_eq_true c26
                        try have c26b2 : (9223372036854775807 < (a0 ++ (⟨#[32]⟩ : ByteArray)).size + a1.size) = False := eq_false (Nat.not_lt.2 c26)
                        replace H := Option.bind_eq_some_iff.mp H
                        obtain ⟨⟨t229, t230, t231⟩, A270, H⟩ := H
                        replace H : (if t221 = true then (if t226 = true then (if t231 = true then (if t219.size + 1 ≤ 9223372036854775807 then (if (t219 ++ (⟨#[32]⟩ : ByteArray)).size + t224.size ≤ 9223372036854775807 then (if t229.toList = ((t219 ++ (⟨#[32]⟩ : ByteArray)) ++ t224).toList then ((some (([] : List (S52)) : List (S52))).bind fun y234 => (if y234.length + t220.length < 2513169434916 then ((some (y234 ++ t220 : List (S52))).bind fun y237 => (if y237.length + t225.length < 2513169434916 then ((spec_EqualValues.f t230 (y237 ++ t225)).bind fun t243 => (some t243)) else (none))) else (none))) else (some false)) else (none)) else (none)) else (some false)) else (some false)) else (some false)) = some r := H
                        have A27 := Aside0.mk A270
                        clear A270
                        by_cases c28 : t221 = true
                        · subst c28
                          have H1 : (if t226 = true then (if t231 = true then (if t219.size + 1 ≤ 9223372036854775807 then (if (t219 ++ (⟨#[32]⟩ : ByteArray)).size + t224.size ≤ 9223372036854775807 then (if t229.toList = ((t219 ++ (⟨#[32]⟩ : ByteArray)) ++ t224).toList then ((some (([] : List (S52)) : List (S52))).bind fun y234 => (if y234.length + t220.length < 2513169434916 then ((some (y234 ++ t220 : List (S52))).bind fun y237 => (if y237.length + t225.length < 2513169434916 then ((spec_EqualValues.f t230 (y237 ++ t225)).bind fun t243 => (some t243)) else (none))) else (none))) else (some false)) else (none)) else (none)) else (some false)) else (some false)) = some r := by rw [if_pos rfl] at H; exact H
                          clear H
                          have H := H1
                          clear H1
                          by_cases c29 : t226 = true
                          · subst c29
                            have H1 : (if t231 = true then (if t219.size + 1 ≤ 9223372036854775807 then (if (t219 ++ (⟨#[32]⟩ : ByteArray)).size + t224.size ≤ 9223372036854775807 then (if t229.toList = ((t219 ++ (⟨#[32]⟩ : ByteArray)) ++ t224).toList then ((some (([] : List (S52)) : List (S52))).bind fun y234 => (if y234.length + t220.length < 2513169434916 then ((some (y234 ++ t220 : List (S52))).bind fun y237 => (if y237.length + t225.length < 2513169434916 then ((spec_EqualValues.f t230 (y237 ++ t225)).bind fun t243 => (some t243)) else (none))) else (none))) else (some false)) else (none)) else (none)) else (some false)) = some r := by rw [if_pos rfl] at H; exact H
                            clear H
                            have H := H1
                            clear H1
                            by_cases c30 : t231 = true
                            · subst c30
                              have H1 : (if t219.size + 1 ≤ 9223372036854775807 then (if (t219 ++ (⟨#[32]⟩ : ByteArray)).size + t224.size ≤ 9223372036854775807 then (if t229.toList = ((t219 ++ (⟨#[32]⟩ : ByteArray)) ++ t224).toList then ((some (([] : List (S52)) : List (S52))).bind fun y234 => (if y234.length + t220.length < 2513169434916 then ((some (y234 ++ t220 : List (S52))).bind fun y237 => (if y237.length + t225.length < 2513169434916 then ((spec_EqualValues.f t230 (y237 ++ t225)).bind fun t243 => (some t243)) else (none))) else (none))) else (some false)) else (none)) else (none)) = some r := by rw [if_pos rfl] at H; exact H
                              clear H
                              have H := H1
                              clear H1
                              by_cases c31 : t219.size + 1 ≤ 9223372036854775807
                              · rw [if_pos c31] at H
                                have c31b0 := eq_true c31
                                have c31b1 : decide (t219.size + 1 ≤ 9223372036854775807) = true := decide_eq_true c31
                                try have c31b2 : (9223372036854775807 < t219.size + 1) = False := eq_false (Nat.not_lt.2 c31)
                                by_cases c32 : (t219 ++ (⟨#[32]⟩ : ByteArray)).size + t224.size ≤ 9223372036854775807
                                · rw [if_pos c32] at H
                                  have c32b0 := eq_true c32
                                  have c32b1 : decide ((t219 ++ (⟨#[32]⟩ : ByteArray)).size + t224.size ≤ 9223372036854775807) = true := decide_eq_true c32
                                  try have c32b2 : (9223372036854775807 < (t219 ++ (⟨#[32]⟩ : ByteArray)).size + t224.size) = False := eq_false (Nat.not_lt.2 c32)
                                  by_cases c33 : t229.toList = ((t219 ++ (⟨#[32]⟩ : ByteArray)) ++ t224).toList
                                  · rw [if_pos c33] at H
                                    have c33b0 : (t229.toList == ((t219 ++ (⟨#[32]⟩ : ByteArray)) ++ t224).toList) = true := beq_iff_eq.mpr c33
                                    have c33b1 : (t229.toList != ((t219 ++ (⟨#[32]⟩ : ByteArray)) ++ t224).toList) = false := bne_eq_false_iff_eq.mpr c33
                                    clear c33
                                    obtain ⟨y234, hy234⟩ : ∃ y_ : List (S52), y_ = (([] : List (S52))) := ⟨_, rfl⟩
                                    replace H : (if y234.length + t220.length < 2513169434916 then ((some (y234 ++ t220 : List (S52))).bind fun y237 => (if y237.length + t225.length < 2513169434916 then ((spec_EqualValues.f t230 (y237 ++ t225)).bind fun t243 => (some t243)) else (none))) else (none)) = some r := by first | (rw [hy234]; with_reducible exact H) | (have H2_ := (Option.bind_some _ _).symm.trans H; rw [hy234]; with_reducible exact H2_) | (have H2_ := (Option.bind_some _ _).symm.trans H; with_reducible exact H2_) | with_reducible exact H | (rw [hy234]; exact H) | exact H
                                    have Ny234 := Aside0.mk hy234
                                    clear hy234
                                    by_cases c34 : y234.length + t220.length < 2513169434916
                                    · rw [if_pos c34] at H
                                      have LMc34 := Aside0.mk c34
                                      clear c34
                                      obtain ⟨y237, hy237⟩ : ∃ y_ : List (S52), y_ = (y234 ++ t220) := ⟨_, rfl⟩
                                      replace H : (if y237.length + t225.length < 2513169434916 then ((spec_EqualValues.f t230 (y237 ++ t225)).bind fun t243 => (some t243)) else (none)) = some r := by first | (rw [hy237]; with_reducible exact H) | (have H2_ := (Option.bind_some _ _).symm.trans H; rw [hy237]; with_reducible exact H2_) | (have H2_ := (Option.bind_some _ _).symm.trans H; with_reducible exact H2_) | with_reducible exact H | (rw [hy237]; exact H) | exact H
                                      have Ny237 := Aside0.mk hy237
                                      clear hy237
                                      by_cases c35 : y237.length + t225.length < 2513169434916
                                      · rw [if_pos c35] at H
                                        have LMc35 := Aside0.mk c35
                                        clear c35
                                        obtain ⟨y240, hy240⟩ : ∃ y_ : List (S52), y_ = (y237 ++ t225) := ⟨_, rfl⟩
                                        replace H : ((spec_EqualValues.f t230 y240).bind fun t243 => (some t243)) = some r := by first | (rw [hy240]; with_reducible exact H) | (have H2_ := (Option.bind_some _ _).symm.trans H; rw [hy240]; with_reducible exact H2_) | (have H2_ := (Option.bind_some _ _).symm.trans H; with_reducible exact H2_) | with_reducible exact H | (rw [hy240]; exact H) | exact H
                                        have Ny240 := Aside0.mk hy240
                                        clear hy240
                                        replace H := Option.bind_eq_some_iff.mp H
                                        obtain ⟨t243, A360, H⟩ := H
                                        replace H : (some t243) = some r := H
                                        have A36 := Aside0.mk A360
                                        clear A360
                                        obtain rfl := Option.some.inj H
                                        go_wp2_with (first | ((with_reducible refine gate_callee (f := 38) rfl ?_); refine goesL_ (some 83) rfl rfl Tryd.func38 (by kernel_rfl) rfl #[.string a0, .slice A2 l2.length c2] rfl (by (try simp only [List.map_toArray, List.map_cons, List.map_nil]); first | done | rfl | (simp only [List.length_drop, List.length_take]; rfl)) ?_; (with_reducible refine (impl_Named.calls a0 _ _ l2 t219 t220 true _ (tab_at HT_.out (by repeat (first | (with_reducible first | exact HB.out | apply below_alloc | apply pw_below_drewN | apply below_drew1) | exact HB.out))) ?side1 ?side2 A23.out).mono ?_); (case side1 => repeat (first | exact (Kd.C_below HR2.out HB.out) | (with_reducible refine Kd.C_alloc ?_ _) | (with_reducible refine Kd.C_drewN ?_ _) | (with_reducible refine Kd.C_drew ?_))); (case side2 => exact HC2.out); rintro e w37 ⟨v222, rfl, ho0, hb⟩; refine ⟨_, rfl, ?_⟩; have n0_ := Aside0.mk (Kd.N_lower (Kd.N_mono (ok' := fun k_ => True) (Kd.R_N (Kd.R_bound ho0)) (fun k_ hk_ => trivial)) (below_size (by repeat (first | (with_reducible first | exact HB.out | apply below_alloc | apply pw_below_drewN | apply below_drew1) | exact HB.out)))); have n1_ := Aside0.mk (below_step (by repeat (first | (with_reducible first | exact HB.out | apply below_alloc | apply pw_below_drewN | apply below_drew1) | exact HB.out)) hb); clear HB; have HO223 := n0_; have HB := n1_; clear n0_ n1_; (try clear hb); (try clear hb2); (try clear hk); (try clear hi); (try clear ho0)) | ((with_reducible refine gate_callee (f := 38) rfl ?_); refine goesL_ (some 90) rfl rfl Tryd.func38 (by kernel_rfl) rfl #[.string a1, .slice A2 l2.length c2] rfl (by (try simp only [List.map_toArray, List.map_cons, List.map_nil]); first | done | rfl | (simp only [List.length_drop, List.length_take]; rfl)) ?_; (with_reducible refine (impl_Named.calls a1 _ _ l2 t224 t225 true _ (tab_at HT_.out (by repeat (first | (with_reducible first | exact HB.out | apply below_alloc | apply pw_below_drewN | apply below_drew1) | exact HB.out))) ?side1 ?side2 A24.out).mono ?_); (case side1 => repeat (first | exact (Kd.C_below HR2.out HB.out) | (with_reducible refine Kd.C_alloc ?_ _) | (with_reducible refine Kd.C_drewN ?_ _) | (with_reducible refine Kd.C_drew ?_))); (case side2 => exact HC2.out); rintro e w38 ⟨v227, rfl, ho0, hb⟩; refine ⟨_, rfl, ?_⟩; have n0_ := Aside0.mk (Kd.N_elder' (by (with_reducible repeat (first | apply Kd.N_alloc | apply Kd.N_drewN | apply Kd.N_drew)); exact HO223.out) (Kd.N_base (Kd.R_N ho0)) hb); have n1_ := Aside0.mk (Kd.N_lower (Kd.N_mono (ok' := fun k_ => some k_ ≠ (v222 : Value).ownBlock) (Kd.R_N (Kd.R_bound ho0)) (fun k_ hk_ => (Kd.fresh' (Kd.N_lt (by (with_reducible repeat (first | apply Kd.N_alloc | apply Kd.N_drewN | apply Kd.N_drew)); exact HO223.out)) k_ hk_.2.1))) (below_size (by repeat (first | (with_reducible first | exact HB.out | apply below_alloc | apply pw_below_drewN | apply below_drew1) | exact HB.out)))); have n2_ := Aside0.mk (below_step (by repeat (first | (with_reducible first | exact HB.out | apply below_alloc | apply pw_below_drewN | apply below_drew1) | exact HB.out)) hb); clear HO223; clear HB; have HO223 := n0_; have HO228 := n1_; have HB := n2_; clear n0_ n1_ n2_; (try clear hb); (try clear hb2); (try clear hk); (try clear hi); (try clear ho0)) | ((with_reducible refine gate_callee (f := 38) rfl ?_); refine goesL_ (some 100) rfl rfl Tryd.func38 (by kernel_rfl) rfl #[.string ((a0 ++ (⟨#[32]⟩ : ByteArray)) ++ a1), .slice A2 l2.length c2] rfl (by (try simp only [List.map_toArray, List.map_cons, List.map_nil]); first | done | rfl | (simp only [List.length_drop, List.length_take]; rfl)) ?_; (with_reducible refine (impl_Named.calls ((a0 ++ (⟨#[32]⟩ : ByteArray)) ++ a1) _ _ l2 t229 t230 true _ (tab_at HT_.out (by repeat (first | (with_reducible first | exact HB.out | apply below_alloc | apply pw_below_drewN | apply below_drew1) | exact HB.out))) ?side1 ?side2 A27.out).mono ?_); (case side1 => repeat (first | exact (Kd.C_below HR2.out HB.out) | (with_reducible refine Kd.C_alloc ?_ _) | (with_reducible refine Kd.C_drewN ?_ _) | (with_reducible refine Kd.C_drew ?_))); (case side2 => exact HC2.out); rintro e w39 ⟨v232, rfl, ho0, hb⟩; refine ⟨_, rfl, ?_⟩; have n0_ := Aside0.mk (Kd.N_elder' (by (with_reducible repeat (first | apply Kd.N_alloc | apply Kd.N_drewN | apply Kd.N_drew)); exact HO223.out) (Kd.N_base (Kd.R_N ho0)) hb); have n1_ := Aside0.mk (Kd.N_elder' (by (with_reducible repeat (first | apply Kd.N_alloc | apply Kd.N_drewN | apply Kd.N_drew)); exact HO228.out) (Kd.N_base (Kd.R_N ho0)) hb); have n2_ := Aside0.mk (Kd.N_lower (Kd.N_mono (ok' := fun k_ => some k_ ≠ (v222 : Value).ownBlock ∧ some k_ ≠ (v227 : Value).ownBlock) (Kd.R_N (Kd.R_bound ho0)) (fun k_ hk_ => ⟨(Kd.fresh' (Kd.N_lt (by (with_reducible repeat (first | apply Kd.N_alloc | apply Kd.N_drewN | apply Kd.N_drew)); exact HO223.out)) k_ hk_.2.1), (Kd.fresh' (Kd.N_lt (by (with_reducible repeat (first | apply Kd.N_alloc | apply Kd.N_drewN | apply Kd.N_drew)); exact HO228.out)) k_ hk_.2.1)⟩)) (below_size (by repeat (first | (with_reducible first | exact HB.out | apply below_alloc | apply pw_below_drewN | apply below_drew1) | exact HB.out)))); have n3_ := Aside0.mk (below_step (by repeat (first | (with_reducible first | exact HB.out | apply below_alloc | apply pw_below_drewN | apply below_drew1) | exact HB.out)) hb); clear HO223; clear HO228; clear HB; have HO223 := n0_; have HO228 := n1_; have HO233 := n2_; have HB := n3_; clear n0_ n1_ n2_ n3_; (try clear hb); (try clear hb2); (try clear hk); (try clear hi); (try clear ho0)) | ((with_reducible refine gate_dst (N := 121) rfl ?_); (try (refine gate_guard (by rfl) ?_; dsimp only)); refine Kd.N_lit k52 _ 52 ?hg (N' := 121) ?hd (xs := ([] : List (S52))) (inner := []) (ok := (fun k_ => some k_ ≠ (v222 : Value).ownBlock ∧ some k_ ≠ (v227 : Value).ownBlock ∧ some k_ ≠ (v232 : Value).ownBlock)) (okp := (fun k_ => some k_ ≠ (v222 : Value).ownBlock ∧ some k_ ≠ (v227 : Value).ownBlock ∧ some k_ ≠ (v232 : Value).ownBlock)) ?hr ?hp (fun _ hk => hk) ((show ∀ k_, w39.heap.size ≤ k_ → (fun k_ => some k_ ≠ (v222 : Value).ownBlock ∧ some k_ ≠ (v227 : Value).ownBlock ∧ some k_ ≠ (v232 : Value).ownBlock) k_ from fun k_ hk => ⟨Kd.fresh' (Kd.N_lt (by (with_reducible repeat (first | apply Kd.N_alloc | apply Kd.N_drewN | apply Kd.N_drew)); exact HO223.out)) k_ hk, Kd.fresh' (Kd.N_lt (by (with_reducible repeat (first | apply Kd.N_alloc | apply Kd.N_drewN | apply Kd.N_drew)); exact HO228.out)) k_ hk, Kd.fresh' (Kd.N_lt (by (with_reducible repeat (first | apply Kd.N_alloc | apply Kd.N_drewN | apply Kd.N_drew)); exact HO233.out)) k_ hk⟩) _ (Nat.le_refl _)) (Below.refl _ _) (Nat.le_refl _) (by simp) ?_; (case hd => rfl); (case hg => rfl); (case hr => first | (go_simp; done) | (go_simp; rfl)); (case hp => exact (Reps.none _ _)); intro v235 w40 ho41 hb hg_ hnew_; clear hg_ hnew_; (first | rw [← Ny234.out] at ho41 | (simp only [Int.reduceToNat] at ho41; rw [← Ny234.out] at ho41)); have n0_ := Aside0.mk (Kd.N_elder' (by (with_reducible repeat (first | apply Kd.N_alloc | apply Kd.N_drewN | apply Kd.N_drew)); exact HO223.out) (Kd.N_base ho41) hb); have n1_ := Aside0.mk (Kd.N_elder' (by (with_reducible repeat (first | apply Kd.N_alloc | apply Kd.N_drewN | apply Kd.N_drew)); exact HO228.out) (Kd.N_base ho41) hb); have n2_ := Aside0.mk (Kd.N_elder' (by (with_reducible repeat (first | apply Kd.N_alloc | apply Kd.N_drewN | apply Kd.N_drew)); exact HO233.out) (Kd.N_base ho41) hb); have n3_ := Aside0.mk (Kd.N_lower ho41 (below_size (by repeat (first | (with_reducible first | exact HB.out | apply below_alloc | apply pw_below_drewN | apply below_drew1) | exact HB.out)))); have n4_ := Aside0.mk (below_step (by repeat (first | (with_reducible first | exact HB.out | apply below_alloc | apply pw_below_drewN | apply below_drew1) | exact HB.out)) hb); clear HO223; clear HO228; clear HO233; clear HB; have HO223 := n0_; have HO228 := n1_; have HO233 := n2_; have HO236 := n3_; have HB := n4_; clear n0_ n1_ n2_ n3_ n4_; clear hb ho41; obtain ⟨Ao43, co43, eo43⟩ := Kd.N_slice HO223.out; subst eo43) | ((with_reducible refine gate_builtin (b := .append) (xs := #[.tmp 121, .tmp 122]) rfl ?_); (try (refine gate_guard (by rfl) ?_; dsimp only)); at_builtin; refine Kd.N_append_rows k52 (w0 := w) w.heap.size rfl (.tmp 121) (.tmp 122) 42 52 (.agg #[(.int .i64 0), (.int .i64 0), (.string ⟨#[]⟩), (.slice none 0 0)]) 56 rfl Tryd.underlying42 info52 rfl (by decide) (by omega) v235 y234 t220 _ _ _ (fun k_ => some k_ ≠ (v227 : Value).ownBlock ∧ some k_ ≠ (v232 : Value).ownBlock) (fun k_ => ((fun k_ => some k_ ≠ (v227 : Value).ownBlock ∧ some k_ ≠ (v232 : Value).ownBlock)) k_ ∧ some k_ ≠ (v235 : Value).ownBlock) rfl rfl ?aO ?aR (fun _ hk => hk) ?aF ?aB ?aS ?aL ?_; (case aR => exact (by skip; exact Kd.N_F (Kd.N_mono (ok' := (fun k_ => ((fun k_ => some k_ ≠ (v227 : Value).ownBlock ∧ some k_ ≠ (v232 : Value).ownBlock)) k_ ∧ some k_ ≠ (v235 : Value).ownBlock)) (HO223.out) (fun k_ hk => ⟨⟨hk.1.1.2, hk.1.2⟩, hk.2⟩)))); (case aB => exact (by repeat (first | (with_reducible first | exact HB.out | apply below_alloc | apply pw_below_drewN | apply below_drew1) | exact HB.out))); (case aF => exact (fun k_ hk => ⟨Kd.fresh' (Kd.N_lt (by (with_reducible repeat (first | apply Kd.N_alloc | apply Kd.N_drewN | apply Kd.N_drew)); exact HO228.out)) k_ hk, Kd.fresh' (Kd.N_lt (by (with_reducible repeat (first | apply Kd.N_alloc | apply Kd.N_drewN | apply Kd.N_drew)); exact HO233.out)) k_ hk⟩)); (case aO => exact (by (with_reducible repeat (first | apply Kd.N_alloc | apply Kd.N_drewN | apply Kd.N_drew)); exact Kd.N_mono HO236.out (fun _ hk => ⟨hk.2.1, hk.2.2⟩))); (case aS => exact (below_size (by repeat (first | (with_reducible first | exact HB.out | apply below_alloc | apply pw_below_drewN | apply below_drew1) | exact HB.out)))); (case aL => have := LMc34.out; omega); intro v238 w42 ho hb hg hat; rw [← Ny237.out] at ho; have n0_ := Aside0.mk (Kd.N_afterv (ok := (fun k_ => some k_ ≠ (v227 : Value).ownBlock ∧ some k_ ≠ (v232 : Value).ownBlock)) (by (with_reducible repeat (first | apply Kd.N_alloc | apply Kd.N_drewN | apply Kd.N_drew)); exact Kd.N_mono HO223.out (fun _ hk => ⟨⟨hk.1.1.2, hk.1.2⟩, hk.2⟩)) hg hat); have n1_ := Aside0.mk (Kd.N_afterv (ok := (fun k_ => some k_ ≠ (.slice Ao43 t220.length co43 : Value).ownBlock ∧ some k_ ≠ (v232 : Value).ownBlock)) (by (with_reducible repeat (first | apply Kd.N_alloc | apply Kd.N_drewN | apply Kd.N_drew)); exact HO228.out) hg hat); have n2_ := Aside0.mk (Kd.N_afterv (ok := (fun k_ => some k_ ≠ (.slice Ao43 t220.length co43 : Value).ownBlock ∧ some k_ ≠ (v227 : Value).ownBlock)) (by (with_reducible repeat (first | apply Kd.N_alloc | apply Kd.N_drewN | apply Kd.N_drew)); exact HO233.out) hg hat); have n3_ := Aside0.mk (hb); have n4_ := Aside0.mk (ho); clear HO223; clear HO228; clear HO233; clear HB; clear HO236; have HO223 := n0_; have HO228 := n1_; have HO233 := n2_; have HB := n3_; have HO239 := n4_; clear n0_ n1_ n2_ n3_ n4_; clear ho hb hg hat; obtain ⟨Ao45, co45, eo45⟩ := Kd.N_slice HO228.out; subst eo45) | ((with_reducible refine gate_builtin (b := .append) (xs := #[.tmp 123, .tmp 124]) rfl ?_); (try (refine gate_guard (by rfl) ?_; dsimp only)); at_builtin; refine Kd.N_append_rows k52 (w0 := w) w.heap.size rfl (.tmp 123) (.tmp 124) 42 52 (.agg #[(.int .i64 0), (.int .i64 0), (.string ⟨#[]⟩), (.slice none 0 0)]) 56 rfl Tryd.underlying42 info52 rfl (by decide) (by omega) v238 y237 t225 _ _ _ (fun k_ => some k_ ≠ (v232 : Value).ownBlock) (fun k_ => ((fun k_ => some k_ ≠ (v232 : Value).ownBlock)) k_ ∧ some k_ ≠ (v238 : Value).ownBlock) rfl rfl ?aO ?aR (fun _ hk => hk) ?aF ?aB ?aS ?aL ?_; (case aR => exact (by skip; exact Kd.N_F (Kd.N_mono (ok' := (fun k_ => ((fun k_ => some k_ ≠ (v232 : Value).ownBlock)) k_ ∧ some k_ ≠ (v238 : Value).ownBlock)) (HO228.out) (fun k_ hk => ⟨hk.1.2, hk.2⟩)))); (case aB => exact (by repeat (first | (with_reducible first | exact HB.out | apply below_alloc | apply pw_below_drewN | apply below_drew1) | exact HB.out))); (case aF => exact (fun k_ hk => Kd.fresh' (Kd.N_lt (by (with_reducible repeat (first | apply Kd.N_alloc | apply Kd.N_drewN | apply Kd.N_drew)); exact HO233.out)) k_ hk)); (case aO => exact (by (with_reducible repeat (first | apply Kd.N_alloc | apply Kd.N_drewN | apply Kd.N_drew)); exact Kd.N_mono HO239.out (fun _ hk => hk.2))); (case aS => exact (below_size (by repeat (first | (with_reducible first | exact HB.out | apply below_alloc | apply pw_below_drewN | apply below_drew1) | exact HB.out)))); (case aL => have := LMc35.out; omega); intro v241 w44 ho hb hg hat; rw [← Ny240.out] at ho; have n0_ := Aside0.mk (Kd.N_afterv (ok := (fun k_ => some k_ ≠ (.slice Ao45 t225.length co45 : Value).ownBlock ∧ some k_ ≠ (v232 : Value).ownBlock)) (by (with_reducible repeat (first | apply Kd.N_alloc | apply Kd.N_drewN | apply Kd.N_drew)); exact HO223.out) hg hat); have n1_ := Aside0.mk (Kd.N_afterv (ok := (fun k_ => some k_ ≠ (.slice Ao43 t220.length co43 : Value).ownBlock ∧ some k_ ≠ (v232 : Value).ownBlock)) (by (with_reducible repeat (first | apply Kd.N_alloc | apply Kd.N_drewN | apply Kd.N_drew)); exact HO228.out) hg hat); have n2_ := Aside0.mk (Kd.N_afterv (ok := (fun k_ => some k_ ≠ (.slice Ao43 t220.length co43 : Value).ownBlock ∧ some k_ ≠ (.slice Ao45 t225.length co45 : Value).ownBlock)) (by (with_reducible repeat (first | apply Kd.N_alloc | apply Kd.N_drewN | apply Kd.N_drew)); exact HO233.out) hg hat); have n3_ := Aside0.mk (hb); have n4_ := Aside0.mk (ho); clear HO223; clear HO228; clear HO233; clear HB; clear HO239; have HO223 := n0_; have HO228 := n1_; have HO233 := n2_; have HB := n3_; have HO242 := n4_; clear n0_ n1_ n2_ n3_ n4_; clear ho hb hg hat; obtain ⟨Ao46, co46, eo46⟩ := Kd.N_slice HO233.out; subst eo46; obtain ⟨Ao47, co47, eo47⟩ := Kd.N_slice HO242.out; subst eo47) | (go_at_call 37; (with_reducible refine (spec_EqualValues.calls _ _ t230 _ _ y240 t243 _ ?side1 ?side2 ?side3 ?side4 A36.out).mono ?_); (case side1 => repeat (first | exact (Kd.N_reads' HO233.out).2.2 | (with_reducible refine Kd.C_alloc ?_ _) | (with_reducible refine Kd.C_drewN ?_ _) | (with_reducible refine Kd.C_drew ?_))); (case side2 => exact (Kd.N_reads' HO233.out).2.1); (case side3 => repeat (first | exact (Kd.N_reads' HO242.out).2.2 | (with_reducible refine Kd.C_alloc ?_ _) | (with_reducible refine Kd.C_drewN ?_ _) | (with_reducible refine Kd.C_drew ?_))); (case side4 => exact (Kd.N_reads' HO242.out).2.1); rintro e w48 ⟨rfl, hb⟩; have n0_ := Aside0.mk (Kd.N_below (by (with_reducible repeat (first | apply Kd.N_alloc | apply Kd.N_drewN | apply Kd.N_drew)); exact HO223.out) hb); have n1_ := Aside0.mk (Kd.N_below (by (with_reducible repeat (first | apply Kd.N_alloc | apply Kd.N_drewN | apply Kd.N_drew)); exact HO228.out) hb); have n2_ := Aside0.mk (Kd.N_below (by (with_reducible repeat (first | apply Kd.N_alloc | apply Kd.N_drewN | apply Kd.N_drew)); exact HO233.out) hb); have n3_ := Aside0.mk (Kd.N_below (by (with_reducible repeat (first | apply Kd.N_alloc | apply Kd.N_drewN | apply Kd.N_drew)); exact HO242.out) hb); have n4_ := Aside0.mk (below_step (by repeat (first | (with_reducible first | exact HB.out | apply below_alloc | apply pw_below_drewN | apply below_drew1) | exact HB.out)) hb); clear HO223; clear HO228; clear HO233; clear HO242; clear HB; have HO223 := n0_; have HO228 := n1_; have HO233 := n2_; have HO242 := n3_; have HB := n4_; clear n0_ n1_ n2_ n3_ n4_; (try clear hb); (try clear hb2); (try clear hk); (try clear hi)))
                                        go_ret
                                        exact ⟨by first | rfl | (simp [errW_none, errW_some] <;> rfl) | (simp [*, errW_none, errW_some] <;> rfl), by repeat (first | (with_reducible first | exact HB.out | apply below_alloc | apply pw_below_drewN | apply below_drew1) | exact HB.out)⟩
                                      · rw [if_neg c35] at H
                                        exact absurd H (by simp)
                                    · rw [if_neg c34] at H
                                      exact absurd H (by simp)
                                  · rw [if_neg c33] at H
                                    have c33b0 : (t229.toList == ((t219 ++ (⟨#[32]⟩ : ByteArray)) ++ t224).toList) = false := beq_eq_false_iff_ne.mpr c33
                                    have c33b1 : (t229.toList != ((t219 ++ (⟨#[32]⟩ : ByteArray)) ++ t224).toList) = true := bne_iff_ne.mpr c33
                                    obtain rfl := Option.some.inj H
                                    go_wp2_with (first | ((with_reducible refine gate_callee (f := 38) rfl ?_); refine goesL_ (some 83) rfl rfl Tryd.func38 (by kernel_rfl) rfl #[.string a0, .slice A2 l2.length c2] rfl (by (try simp only [List.map_toArray, List.map_cons, List.map_nil]); first | done | rfl | (simp only [List.length_drop, List.length_take]; rfl)) ?_; (with_reducible refine (impl_Named.calls a0 _ _ l2 t219 t220 true _ (tab_at HT_.out (by repeat (first | (with_reducible first | exact HB.out | apply below_alloc | apply pw_below_drewN | apply below_drew1) | exact HB.out))) ?side1 ?side2 A23.out).mono ?_); (case side1 => repeat (first | exact (Kd.C_below HR2.out HB.out) | (with_reducible refine Kd.C_alloc ?_ _) | (with_reducible refine Kd.C_drewN ?_ _) | (with_reducible refine Kd.C_drew ?_))); (case side2 => exact HC2.out); rintro e w49 ⟨v222, rfl, ho0, hb⟩; refine ⟨_, rfl, ?_⟩; have n0_ := Aside0.mk (Kd.N_lower (Kd.N_mono (ok' := fun k_ => True) (Kd.R_N (Kd.R_bound ho0)) (fun k_ hk_ => trivial)) (below_size (by repeat (first | (with_reducible first | exact HB.out | apply below_alloc | apply pw_below_drewN | apply below_drew1) | exact HB.out)))); have n1_ := Aside0.mk (below_step (by repeat (first | (with_reducible first | exact HB.out | apply below_alloc | apply pw_below_drewN | apply below_drew1) | exact HB.out)) hb); clear HB; have HO223 := n0_; have HB := n1_; clear n0_ n1_; (try clear hb); (try clear hb2); (try clear hk); (try clear hi); (try clear ho0)) | ((with_reducible refine gate_callee (f := 38) rfl ?_); refine goesL_ (some 90) rfl rfl Tryd.func38 (by kernel_rfl) rfl #[.string a1, .slice A2 l2.length c2] rfl (by (try simp only [List.map_toArray, List.map_cons, List.map_nil]); first | done | rfl | (simp only [List.length_drop, List.length_take]; rfl)) ?_; (with_reducible refine (impl_Named.calls a1 _ _ l2 t224 t225 true _ (tab_at HT_.out (by repeat (first | (with_reducible first | exact HB.out | apply below_alloc | apply pw_below_drewN | apply below_drew1) | exact HB.out))) ?side1 ?side2 A24.out).mono ?_); (case side1 => repeat (first | exact (Kd.C_below HR2.out HB.out) | (with_reducible refine Kd.C_alloc ?_ _) | (with_reducible refine Kd.C_drewN ?_ _) | (with_reducible refine Kd.C_drew ?_))); (case side2 => exact HC2.out); rintro e w50 ⟨v227, rfl, ho0, hb⟩; refine ⟨_, rfl, ?_⟩; have n0_ := Aside0.mk (Kd.N_elder' (by (with_reducible repeat (first | apply Kd.N_alloc | apply Kd.N_drewN | apply Kd.N_drew)); exact HO223.out) (Kd.N_base (Kd.R_N ho0)) hb); have n1_ := Aside0.mk (Kd.N_lower (Kd.N_mono (ok' := fun k_ => some k_ ≠ (v222 : Value).ownBlock) (Kd.R_N (Kd.R_bound ho0)) (fun k_ hk_ => (Kd.fresh' (Kd.N_lt (by (with_reducible repeat (first | apply Kd.N_alloc | apply Kd.N_drewN | apply Kd.N_drew)); exact HO223.out)) k_ hk_.2.1))) (below_size (by repeat (first | (with_reducible first | exact HB.out | apply below_alloc | apply pw_below_drewN | apply below_drew1) | exact HB.out)))); have n2_ := Aside0.mk (below_step (by repeat (first | (with_reducible first | exact HB.out | apply below_alloc | apply pw_below_drewN | apply below_drew1) | exact HB.out)) hb); clear HO223; clear HB; have HO223 := n0_; have HO228 := n1_; have HB := n2_; clear n0_ n1_ n2_; (try clear hb); (try clear hb2); (try clear hk); (try clear hi); (try clear ho0)) | ((with_reducible refine gate_callee (f := 38) rfl ?_); refine goesL_ (some 100) rfl rfl Tryd.func38 (by kernel_rfl) rfl #[.string ((a0 ++ (⟨#[32]⟩ : ByteArray)) ++ a1), .slice A2 l2.length c2] rfl (by (try simp only [List.map_toArray, List.map_cons, List.map_nil]); first | done | rfl | (simp only [List.length_drop, List.length_take]; rfl)) ?_; (with_reducible refine (impl_Named.calls ((a0 ++ (⟨#[32]⟩ : ByteArray)) ++ a1) _ _ l2 t229 t230 true _ (tab_at HT_.out (by repeat (first | (with_reducible first | exact HB.out | apply below_alloc | apply pw_below_drewN | apply below_drew1) | exact HB.out))) ?side1 ?side2 A27.out).mono ?_); (case side1 => repeat (first | exact (Kd.C_below HR2.out HB.out) | (with_reducible refine Kd.C_alloc ?_ _) | (with_reducible refine Kd.C_drewN ?_ _) | (with_reducible refine Kd.C_drew ?_))); (case side2 => exact HC2.out); rintro e w51 ⟨v232, rfl, ho0, hb⟩; refine ⟨_, rfl, ?_⟩; have n0_ := Aside0.mk (Kd.N_elder' (by (with_reducible repeat (first | apply Kd.N_alloc | apply Kd.N_drewN | apply Kd.N_drew)); exact HO223.out) (Kd.N_base (Kd.R_N ho0)) hb); have n1_ := Aside0.mk (Kd.N_elder' (by (with_reducible repeat (first | apply Kd.N_alloc | apply Kd.N_drewN | apply Kd.N_drew)); exact HO228.out) (Kd.N_base (Kd.R_N ho0)) hb); have n2_ := Aside0.mk (Kd.N_lower (Kd.N_mono (ok' := fun k_ => some k_ ≠ (v222 : Value).ownBlock ∧ some k_ ≠ (v227 : Value).ownBlock) (Kd.R_N (Kd.R_bound ho0)) (fun k_ hk_ => ⟨(Kd.fresh' (Kd.N_lt (by (with_reducible repeat (first | apply Kd.N_alloc | apply Kd.N_drewN | apply Kd.N_drew)); exact HO223.out)) k_ hk_.2.1), (Kd.fresh' (Kd.N_lt (by (with_reducible repeat (first | apply Kd.N_alloc | apply Kd.N_drewN | apply Kd.N_drew)); exact HO228.out)) k_ hk_.2.1)⟩)) (below_size (by repeat (first | (with_reducible first | exact HB.out | apply below_alloc | apply pw_below_drewN | apply below_drew1) | exact HB.out)))); have n3_ := Aside0.mk (below_step (by repeat (first | (with_reducible first | exact HB.out | apply below_alloc | apply pw_below_drewN | apply below_drew1) | exact HB.out)) hb); clear HO223; clear HO228; clear HB; have HO223 := n0_; have HO228 := n1_; have HO233 := n2_; have HB := n3_; clear n0_ n1_ n2_ n3_; (try clear hb); (try clear hb2); (try clear hk); (try clear hi); (try clear ho0)))
                                    go_ret
                                    exact ⟨by first | rfl | (simp [errW_none, errW_some] <;> rfl) | (simp [*, errW_none, errW_some] <;> rfl), by repeat (first | (with_reducible first | exact HB.out | apply below_alloc | apply pw_below_drewN | apply below_drew1) | exact HB.out)⟩
                                · rw [if_neg c32] at H
                                  exact absurd H (by simp)
                              · rw [if_neg c31] at H
                                exact absurd H (by simp)
                            · replace c30 := Bool.eq_false_iff.mpr c30
                              subst c30
                              have H1 : (some false) = some r := by rw [if_neg (show ¬ (false = true) by decide)] at H; exact H
                              clear H
                              have H := H1
                              clear H1
                              obtain rfl := Option.some.inj H
                              go_wp2_with (first | ((with_reducible refine gate_callee (f := 38) rfl ?_); refine goesL_ (some 83) rfl rfl Tryd.func38 (by kernel_rfl) rfl #[.string a0, .slice A2 l2.length c2] rfl (by (try simp only [List.map_toArray, List.map_cons, List.map_nil]); first | done | rfl | (simp only [List.length_drop, List.length_take]; rfl)) ?_; (with_reducible refine (impl_Named.calls a0 _ _ l2 t219 t220 true _ (tab_at HT_.out (by repeat (first | (with_reducible first | exact HB.out | apply below_alloc | apply pw_below_drewN | apply below_drew1) | exact HB.out))) ?side1 ?side2 A23.out).mono ?_); (case side1 => repeat (first | exact (Kd.C_below HR2.out HB.out) | (with_reducible refine Kd.C_alloc ?_ _) | (with_reducible refine Kd.C_drewN ?_ _) | (with_reducible refine Kd.C_drew ?_))); (case side2 => exact HC2.out); rintro e w52 ⟨v222, rfl, ho0, hb⟩; refine ⟨_, rfl, ?_⟩; have n0_ := Aside0.mk (Kd.N_lower (Kd.N_mono (ok' := fun k_ => True) (Kd.R_N (Kd.R_bound ho0)) (fun k_ hk_ => trivial)) (below_size (by repeat (first | (with_reducible first | exact HB.out | apply below_alloc | apply pw_below_drewN | apply below_drew1) | exact HB.out)))); have n1_ := Aside0.mk (below_step (by repeat (first | (with_reducible first | exact HB.out | apply below_alloc | apply pw_below_drewN | apply below_drew1) | exact HB.out)) hb); clear HB; have HO223 := n0_; have HB := n1_; clear n0_ n1_; (try clear hb); (try clear hb2); (try clear hk); (try clear hi); (try clear ho0)) | ((with_reducible refine gate_callee (f := 38) rfl ?_); refine goesL_ (some 90) rfl rfl Tryd.func38 (by kernel_rfl) rfl #[.string a1, .slice A2 l2.length c2] rfl (by (try simp only [List.map_toArray, List.map_cons, List.map_nil]); first | done | rfl | (simp only [List.length_drop, List.length_take]; rfl)) ?_; (with_reducible refine (impl_Named.calls a1 _ _ l2 t224 t225 true _ (tab_at HT_.out (by repeat (first | (with_reducible first | exact HB.out | apply below_alloc | apply pw_below_drewN | apply below_drew1) | exact HB.out))) ?side1 ?side2 A24.out).mono ?_); (case side1 => repeat (first | exact (Kd.C_below HR2.out HB.out) | (with_reducible refine Kd.C_alloc ?_ _) | (with_reducible refine Kd.C_drewN ?_ _) | (with_reducible refine Kd.C_drew ?_))); (case side2 => exact HC2.out); rintro e w53 ⟨v227, rfl, ho0, hb⟩; refine ⟨_, rfl, ?_⟩; have n0_ := Aside0.mk (Kd.N_elder' (by (with_reducible repeat (first | apply Kd.N_alloc | apply Kd.N_drewN | apply Kd.N_drew)); exact HO223.out) (Kd.N_base (Kd.R_N ho0)) hb); have n1_ := Aside0.mk (Kd.N_lower (Kd.N_mono (ok' := fun k_ => some k_ ≠ (v222 : Value).ownBlock) (Kd.R_N (Kd.R_bound ho0)) (fun k_ hk_ => (Kd.fresh' (Kd.N_lt (by (with_reducible repeat (first | apply Kd.N_alloc | apply Kd.N_drewN | apply Kd.N_drew)); exact HO223.out)) k_ hk_.2.1))) (below_size (by repeat (first | (with_reducible first | exact HB.out | apply below_alloc | apply pw_below_drewN | apply below_drew1) | exact HB.out)))); have n2_ := Aside0.mk (below_step (by repeat (first | (with_reducible first | exact HB.out | apply below_alloc | apply pw_below_drewN | apply below_drew1) | exact HB.out)) hb); clear HO223; clear HB; have HO223 := n0_; have HO228 := n1_; have HB := n2_; clear n0_ n1_ n2_; (try clear hb); (try clear hb2); (try clear hk); (try clear hi); (try clear ho0)) | ((with_reducible refine gate_callee (f := 38) rfl ?_); refine goesL_ (some 100) rfl rfl Tryd.func38 (by kernel_rfl) rfl #[.string ((a0 ++ (⟨#[32]⟩ : ByteArray)) ++ a1), .slice A2 l2.length c2] rfl (by (try simp only [List.map_toArray, List.map_cons, List.map_nil]); first | done | rfl | (simp only [List.length_drop, List.length_take]; rfl)) ?_; (with_reducible refine (impl_Named.calls ((a0 ++ (⟨#[32]⟩ : ByteArray)) ++ a1) _ _ l2 t229 t230 false _ (tab_at HT_.out (by repeat (first | (with_reducible first | exact HB.out | apply below_alloc | apply pw_below_drewN | apply below_drew1) | exact HB.out))) ?side1 ?side2 A27.out).mono ?_); (case side1 => repeat (first | exact (Kd.C_below HR2.out HB.out) | (with_reducible refine Kd.C_alloc ?_ _) | (with_reducible refine Kd.C_drewN ?_ _) | (with_reducible refine Kd.C_drew ?_))); (case side2 => exact HC2.out); rintro e w54 ⟨v232, rfl, ho0, hb⟩; refine ⟨_, rfl, ?_⟩; have n0_ := Aside0.mk (Kd.N_elder' (by (with_reducible repeat (first | apply Kd.N_alloc | apply Kd.N_drewN | apply Kd.N_drew)); exact HO223.out) (Kd.N_base (Kd.R_N ho0)) hb); have n1_ := Aside0.mk (Kd.N_elder' (by (with_reducible repeat (first | apply Kd.N_alloc | apply Kd.N_drewN | apply Kd.N_drew)); exact HO228.out) (Kd.N_base (Kd.R_N ho0)) hb); have n2_ := Aside0.mk (Kd.N_lower (Kd.N_mono (ok' := fun k_ => some k_ ≠ (v222 : Value).ownBlock ∧ some k_ ≠ (v227 : Value).ownBlock) (Kd.R_N (Kd.R_bound ho0)) (fun k_ hk_ => ⟨(Kd.fresh' (Kd.N_lt (by (with_reducible repeat (first | apply Kd.N_alloc | apply Kd.N_drewN | apply Kd.N_drew)); exact HO223.out)) k_ hk_.2.1), (Kd.fresh' (Kd.N_lt (by (with_reducible repeat (first | apply Kd.N_alloc | apply Kd.N_drewN | apply Kd.N_drew)); exact HO228.out)) k_ hk_.2.1)⟩)) (below_size (by repeat (first | (with_reducible first | exact HB.out | apply below_alloc | apply pw_below_drewN | apply below_drew1) | exact HB.out)))); have n3_ := Aside0.mk (below_step (by repeat (first | (with_reducible first | exact HB.out | apply below_alloc | apply pw_below_drewN | apply below_drew1) | exact HB.out)) hb); clear HO223; clear HO228; clear HB; have HO223 := n0_; have HO228 := n1_; have HO233 := n2_; have HB := n3_; clear n0_ n1_ n2_ n3_; (try clear hb); (try clear hb2); (try clear hk); (try clear hi); (try clear ho0)))
                              go_ret
                              exact ⟨by first | rfl | (simp [errW_none, errW_some] <;> rfl) | (simp [*, errW_none, errW_some] <;> rfl), by repeat (first | (with_reducible first | exact HB.out | apply below_alloc | apply pw_below_drewN | apply below_drew1) | exact HB.out)⟩
                          · replace c29 := Bool.eq_false_iff.mpr c29
                            subst c29
                            have H1 : (some false) = some r := by rw [if_neg (show ¬ (false = true) by decide)] at H; exact H
                            clear H
                            have H := H1
                            clear H1
                            obtain rfl := Option.some.inj H
                            go_wp2_with (first | ((with_reducible refine gate_callee (f := 38) rfl ?_); refine goesL_ (some 83) rfl rfl Tryd.func38 (by kernel_rfl) rfl #[.string a0, .slice A2 l2.length c2] rfl (by (try simp only [List.map_toArray, List.map_cons, List.map_nil]); first | done | rfl | (simp only [List.length_drop, List.length_take]; rfl)) ?_; (with_reducible refine (impl_Named.calls a0 _ _ l2 t219 t220 true _ (tab_at HT_.out (by repeat (first | (with_reducible first | exact HB.out | apply below_alloc | apply pw_below_drewN | apply below_drew1) | exact HB.out))) ?side1 ?side2 A23.out).mono ?_); (case side1 => repeat (first | exact (Kd.C_below HR2.out HB.out) | (with_reducible refine Kd.C_alloc ?_ _) | (with_reducible refine Kd.C_drewN ?_ _) | (with_reducible refine Kd.C_drew ?_))); (case side2 => exact HC2.out); rintro e w55 ⟨v222, rfl, ho0, hb⟩; refine ⟨_, rfl, ?_⟩; have n0_ := Aside0.mk (Kd.N_lower (Kd.N_mono (ok' := fun k_ => True) (Kd.R_N (Kd.R_bound ho0)) (fun k_ hk_ => trivial)) (below_size (by repeat (first | (with_reducible first | exact HB.out | apply below_alloc | apply pw_below_drewN | apply below_drew1) | exact HB.out)))); have n1_ := Aside0.mk (below_step (by repeat (first | (with_reducible first | exact HB.out | apply below_alloc | apply pw_below_drewN | apply below_drew1) | exact HB.out)) hb); clear HB; have HO223 := n0_; have HB := n1_; clear n0_ n1_; (try clear hb); (try clear hb2); (try clear hk); (try clear hi); (try clear ho0)) | ((with_reducible refine gate_callee (f := 38) rfl ?_); refine goesL_ (some 90) rfl rfl Tryd.func38 (by kernel_rfl) rfl #[.string a1, .slice A2 l2.length c2] rfl (by (try simp only [List.map_toArray, List.map_cons, List.map_nil]); first | done | rfl | (simp only [List.length_drop, List.length_take]; rfl)) ?_; (with_reducible refine (impl_Named.calls a1 _ _ l2 t224 t225 false _ (tab_at HT_.out (by repeat (first | (with_reducible first | exact HB.out | apply below_alloc | apply pw_below_drewN | apply below_drew1) | exact HB.out))) ?side1 ?side2 A24.out).mono ?_); (case side1 => repeat (first | exact (Kd.C_below HR2.out HB.out) | (with_reducible refine Kd.C_alloc ?_ _) | (with_reducible refine Kd.C_drewN ?_ _) | (with_reducible refine Kd.C_drew ?_))); (case side2 => exact HC2.out); rintro e w56 ⟨v227, rfl, ho0, hb⟩; refine ⟨_, rfl, ?_⟩; have n0_ := Aside0.mk (Kd.N_elder' (by (with_reducible repeat (first | apply Kd.N_alloc | apply Kd.N_drewN | apply Kd.N_drew)); exact HO223.out) (Kd.N_base (Kd.R_N ho0)) hb); have n1_ := Aside0.mk (Kd.N_lower (Kd.N_mono (ok' := fun k_ => some k_ ≠ (v222 : Value).ownBlock) (Kd.R_N (Kd.R_bound ho0)) (fun k_ hk_ => (Kd.fresh' (Kd.N_lt (by (with_reducible repeat (first | apply Kd.N_alloc | apply Kd.N_drewN | apply Kd.N_drew)); exact HO223.out)) k_ hk_.2.1))) (below_size (by repeat (first | (with_reducible first | exact HB.out | apply below_alloc | apply pw_below_drewN | apply below_drew1) | exact HB.out)))); have n2_ := Aside0.mk (below_step (by repeat (first | (with_reducible first | exact HB.out | apply below_alloc | apply pw_below_drewN | apply below_drew1) | exact HB.out)) hb); clear HO223; clear HB; have HO223 := n0_; have HO228 := n1_; have HB := n2_; clear n0_ n1_ n2_; (try clear hb); (try clear hb2); (try clear hk); (try clear hi); (try clear ho0)) | ((with_reducible refine gate_callee (f := 38) rfl ?_); refine goesL_ (some 100) rfl rfl Tryd.func38 (by kernel_rfl) rfl #[.string ((a0 ++ (⟨#[32]⟩ : ByteArray)) ++ a1), .slice A2 l2.length c2] rfl (by (try simp only [List.map_toArray, List.map_cons, List.map_nil]); first | done | rfl | (simp only [List.length_drop, List.length_take]; rfl)) ?_; (with_reducible refine (impl_Named.calls ((a0 ++ (⟨#[32]⟩ : ByteArray)) ++ a1) _ _ l2 t229 t230 t231 _ (tab_at HT_.out (by repeat (first | (with_reducible first | exact HB.out | apply below_alloc | apply pw_below_drewN | apply below_drew1) | exact HB.out))) ?side1 ?side2 A27.out).mono ?_); (case side1 => repeat (first | exact (Kd.C_below HR2.out HB.out) | (with_reducible refine Kd.C_alloc ?_ _) | (with_reducible refine Kd.C_drewN ?_ _) | (with_reducible refine Kd.C_drew ?_))); (case side2 => exact HC2.out); rintro e w57 ⟨v232, rfl, ho0, hb⟩; refine ⟨_, rfl, ?_⟩; have n0_ := Aside0.mk (Kd.N_elder' (by (with_reducible repeat (first | apply Kd.N_alloc | apply Kd.N_drewN | apply Kd.N_drew)); exact HO223.out) (Kd.N_base (Kd.R_N ho0)) hb); have n1_ := Aside0.mk (Kd.N_elder' (by (with_reducible repeat (first | apply Kd.N_alloc | apply Kd.N_drewN | apply Kd.N_drew)); exact HO228.out) (Kd.N_base (Kd.R_N ho0)) hb); have n2_ := Aside0.mk (Kd.N_lower (Kd.N_mono (ok' := fun k_ => some k_ ≠ (v222 : Value).ownBlock ∧ some k_ ≠ (v227 : Value).ownBlock) (Kd.R_N (Kd.R_bound ho0)) (fun k_ hk_ => ⟨(Kd.fresh' (Kd.N_lt (by (with_reducible repeat (first | apply Kd.N_alloc | apply Kd.N_drewN | apply Kd.N_drew)); exact HO223.out)) k_ hk_.2.1), (Kd.fresh' (Kd.N_lt (by (with_reducible repeat (first | apply Kd.N_alloc | apply Kd.N_drewN | apply Kd.N_drew)); exact HO228.out)) k_ hk_.2.1)⟩)) (below_size (by repeat (first | (with_reducible first | exact HB.out | apply below_alloc | apply pw_below_drewN | apply below_drew1) | exact HB.out)))); have n3_ := Aside0.mk (below_step (by repeat (first | (with_reducible first | exact HB.out | apply below_alloc | apply pw_below_drewN | apply below_drew1) | exact HB.out)) hb); clear HO223; clear HO228; clear HB; have HO223 := n0_; have HO228 := n1_; have HO233 := n2_; have HB := n3_; clear n0_ n1_ n2_ n3_; (try clear hb); (try clear hb2); (try clear hk); (try clear hi); (try clear ho0)))
                            go_ret
                            exact ⟨by first | rfl | (simp [errW_none, errW_some] <;> rfl) | (simp [*, errW_none, errW_some] <;> rfl), by repeat (first | (with_reducible first | exact HB.out | apply below_alloc | apply pw_below_drewN | apply below_drew1) | exact HB.out)⟩
                        · replace c28 := Bool.eq_false_iff.mpr c28
                          subst c28
                          have H1 : (some false) = some r := by rw [if_neg (show ¬ (false = true) by decide)] at H; exact H
                          clear H
                          have H := H1
                          clear H1
                          obtain rfl := Option.some.inj H
                          go_wp2_with (first | ((with_reducible refine gate_callee (f := 38) rfl ?_); refine goesL_ (some 83) rfl rfl Tryd.func38 (by kernel_rfl) rfl #[.string a0, .slice A2 l2.length c2] rfl (by (try simp only [List.map_toArray, List.map_cons, List.map_nil]); first | done | rfl | (simp only [List.length_drop, List.length_take]; rfl)) ?_; (with_reducible refine (impl_Named.calls a0 _ _ l2 t219 t220 false _ (tab_at HT_.out (by repeat (first | (with_reducible first | exact HB.out | apply below_alloc | apply pw_below_drewN | apply below_drew1) | exact HB.out))) ?side1 ?side2 A23.out).mono ?_); (case side1 => repeat (first | exact (Kd.C_below HR2.out HB.out) | (with_reducible refine Kd.C_alloc ?_ _) | (with_reducible refine Kd.C_drewN ?_ _) | (with_reducible refine Kd.C_drew ?_))); (case side2 => exact HC2.out); rintro e w58 ⟨v222, rfl, ho0, hb⟩; refine ⟨_, rfl, ?_⟩; have n0_ := Aside0.mk (Kd.N_lower (Kd.N_mono (ok' := fun k_ => True) (Kd.R_N (Kd.R_bound ho0)) (fun k_ hk_ => trivial)) (below_size (by repeat (first | (with_reducible first | exact HB.out | apply below_alloc | apply pw_below_drewN | apply below_drew1) | exact HB.out)))); have n1_ := Aside0.mk (below_step (by repeat (first | (with_reducible first | exact HB.out | apply below_alloc | apply pw_below_drewN | apply below_drew1) | exact HB.out)) hb); clear HB; have HO223 := n0_; have HB := n1_; clear n0_ n1_; (try clear hb); (try clear hb2); (try clear hk); (try clear hi); (try clear ho0)) | ((with_reducible refine gate_callee (f := 38) rfl ?_); refine goesL_ (some 90) rfl rfl Tryd.func38 (by kernel_rfl) rfl #[.string a1, .slice A2 l2.length c2] rfl (by (try simp only [List.map_toArray, List.map_cons, List.map_nil]); first | done | rfl | (simp only [List.length_drop, List.length_take]; rfl)) ?_; (with_reducible refine (impl_Named.calls a1 _ _ l2 t224 t225 t226 _ (tab_at HT_.out (by repeat (first | (with_reducible first | exact HB.out | apply below_alloc | apply pw_below_drewN | apply below_drew1) | exact HB.out))) ?side1 ?side2 A24.out).mono ?_); (case side1 => repeat (first | exact (Kd.C_below HR2.out HB.out) | (with_reducible refine Kd.C_alloc ?_ _) | (with_reducible refine Kd.C_drewN ?_ _) | (with_reducible refine Kd.C_drew ?_))); (case side2 => exact HC2.out); rintro e w59 ⟨v227, rfl, ho0, hb⟩; refine ⟨_, rfl, ?_⟩; have n0_ := Aside0.mk (Kd.N_elder' (by (with_reducible repeat (first | apply Kd.N_alloc | apply Kd.N_drewN | apply Kd.N_drew)); exact HO223.out) (Kd.N_base (Kd.R_N ho0)) hb); have n1_ := Aside0.mk (Kd.N_lower (Kd.N_mono (ok' := fun k_ => some k_ ≠ (v222 : Value).ownBlock) (Kd.R_N (Kd.R_bound ho0)) (fun k_ hk_ => (Kd.fresh' (Kd.N_lt (by (with_reducible repeat (first | apply Kd.N_alloc | apply Kd.N_drewN | apply Kd.N_drew)); exact HO223.out)) k_ hk_.2.1))) (below_size (by repeat (first | (with_reducible first | exact HB.out | apply below_alloc | apply pw_below_drewN | apply below_drew1) | exact HB.out)))); have n2_ := Aside0.mk (below_step (by repeat (first | (with_reducible first | exact HB.out | apply below_alloc | apply pw_below_drewN | apply below_drew1) | exact HB.out)) hb); clear HO223; clear HB; have HO223 := n0_; have HO228 := n1_; have HB := n2_; clear n0_ n1_ n2_; (try clear hb); (try clear hb2); (try clear hk); (try clear hi); (try clear ho0)) | ((with_reducible refine gate_callee (f := 38) rfl ?_); refine goesL_ (some 100) rfl rfl Tryd.func38 (by kernel_rfl) rfl #[.string ((a0 ++ (⟨#[32]⟩ : ByteArray)) ++ a1), .slice A2 l2.length c2] rfl (by (try simp only [List.map_toArray, List.map_cons, List.map_nil]); first | done | rfl | (simp only [List.length_drop, List.length_take]; rfl)) ?_; (with_reducible refine (impl_Named.calls ((a0 ++ (⟨#[32]⟩ : ByteArray)) ++ a1) _ _ l2 t229 t230 t231 _ (tab_at HT_.out (by repeat (first | (with_reducible first | exact HB.out | apply below_alloc | apply pw_below_drewN | apply below_drew1) | exact HB.out))) ?side1 ?side2 A27.out).mono ?_); (case side1 => repeat (first | exact (Kd.C_below HR2.out HB.out) | (with_reducible refine Kd.C_alloc ?_ _) | (with_reducible refine Kd.C_drewN ?_ _) | (with_reducible refine Kd.C_drew ?_))); (case side2 => exact HC2.out); rintro e w60 ⟨v232, rfl, ho0, hb⟩; refine ⟨_, rfl, ?_⟩; have n0_ := Aside0.mk (Kd.N_elder' (by (with_reducible repeat (first | apply Kd.N_alloc | apply Kd.N_drewN | apply Kd.N_drew)); exact HO223.out) (Kd.N_base (Kd.R_N ho0)) hb); have n1_ := Aside0.mk (Kd.N_elder' (by (with_reducible repeat (first | apply Kd.N_alloc | apply Kd.N_drewN | apply Kd.N_drew)); exact HO228.out) (Kd.N_base (Kd.R_N ho0)) hb); have n2_ := Aside0.mk (Kd.N_lower (Kd.N_mono (ok' := fun k_ => some k_ ≠ (v222 : Value).ownBlock ∧ some k_ ≠ (v227 : Value).ownBlock) (Kd.R_N (Kd.R_bound ho0)) (fun k_ hk_ => ⟨(Kd.fresh' (Kd.N_lt (by (with_reducible repeat (first | apply Kd.N_alloc | apply Kd.N_drewN | apply Kd.N_drew)); exact HO223.out)) k_ hk_.2.1), (Kd.fresh' (Kd.N_lt (by (with_reducible repeat (first | apply Kd.N_alloc | apply Kd.N_drewN | apply Kd.N_drew)); exact HO228.out)) k_ hk_.2.1)⟩)) (below_size (by repeat (first | (with_reducible first | exact HB.out | apply below_alloc | apply pw_below_drewN | apply below_drew1) | exact HB.out)))); have n3_ := Aside0.mk (below_step (by repeat (first | (with_reducible first | exact HB.out | apply below_alloc | apply pw_below_drewN | apply below_drew1) | exact HB.out)) hb); clear HO223; clear HO228; clear HB; have HO223 := n0_; have HO228 := n1_; have HO233 := n2_; have HB := n3_; clear n0_ n1_ n2_ n3_; (try clear hb); (try clear hb2); (try clear hk); (try clear hi); (try clear ho0)))
                          go_ret
                          exact ⟨by first | rfl | (simp [errW_none, errW_some] <;> rfl) | (simp [*, errW_none, errW_some] <;> rfl), by repeat (first | (with_reducible first | exact HB.out | apply below_alloc | apply pw_below_drewN | apply below_drew1) | exact HB.out)⟩
                      · rw [if_neg c26] at H
                        exact absurd H (by simp)
                    · rw [if_neg c25] at H
                      exact absurd H (by simp)

end Go.Proofs.YtnmhoghmhglimaaDoor.QN
/-
  PROVED: 'laws.FnNamedTwo': two texts, one behind the other, have the names and the values of both. No condition.
-/
namespace Go.Proofs.YtnmhoghmhglimaaDoor.Pure
open Go.RowKit Go.Proofs.YtnmhoghmhglimaaDoor.QN Go.Proofs.YtnmhoghmhglimaaDoor.H Go.Proofs.YtnmhoghmhglimaaDoor.SC Go.Proofs.YtnmhoghmhglimaaDoor.SN Go.Proofs.YtnmhoghmhglimaaDoorW.PrintWords Go.Proofs.YtnmhoghmhglimaaDoorW.PrintLast Go.Proofs.YtnmhoghmhglimaaDoorW.PrintMore

theorem namOf_ok (kind : Int) (s : ByteArray) (l : List S54) (h : (namOf kind s l).2.2.1 = true) : (bitsOf s).2.2 = true ∧ ∃ r, mapF kind s l = some r ∧ namOf kind s l = (r.1, r.2, true, true) := by
  unfold namOf at h ⊢
  by_cases hs : (bitsOf s).2.2 = true
  · rw [if_pos hs] at h ⊢
    cases hm : mapF kind s l with
    | none =>
      rw [hm] at h
      cases h
    | some r => exact ⟨hs, r, rfl, rfl⟩
  · rw [if_neg hs] at h
    cases h
theorem named_some (s : ByteArray) (hs : s.size ≤ 1048576) (l : List S54) (hl : ArgsOk l) (r : ByteArray × List S52) (h : mapF 1 s l = some r) : impl_Named.f s l = some (r.1, r.2, true) := by
  rw [impl_Named.f, impl_NamedOf.f, if_pos ⟨hs, by decide, by decide, (argsB_iff l).2 hl⟩, h]
  rfl
theorem mapF_size (s : ByteArray) (hs : s.size ≤ 1048576) (l : List S54) (r : ByteArray × List S52) (h : mapF 1 s l = some r) : r.1.size ≤ 2097152 := by
  unfold mapF at h
  cases hR : runC 1 s.data.toList false [] [] [] with
  | none =>
    rw [hR] at h
    cases h
  | some q =>
    rw [hR] at h
    obtain ⟨vs, h1, h2⟩ := Option.map_eq_some_iff.1 h
    subst h2
    have h3 := runC_out _ _ _ _ _ _ hR
    have h4 : s.data.toList.length = s.size := Array.length_toList
    show q.2.length ≤ _
    simp only [List.length_nil] at h3
    omega
theorem FnNamedTwo (a b : ByteArray) (l : List S54) : ∃ k, laws_FnNamedTwo.f k a b l = some true := by
  have j0T : Ev (fun k => laws_FnNamedTwo.j0 k a b l true) true := Ev.step (f := fun _ => some true) (fun k => by simp only [laws_FnNamedTwo.j0]; rw [if_pos trivial]) (Ev.now _)
  have j1T : Ev (fun k => laws_FnNamedTwo.j1 k a b l true) true := Ev.step (f := fun _ => some true) (fun k => by simp only [laws_FnNamedTwo.j1]; rw [if_pos trivial]) (Ev.now _)
  have j2T : Ev (fun k => laws_FnNamedTwo.j2 k a b l true) true := Ev.step (f := fun _ => some true) (fun k => by simp only [laws_FnNamedTwo.j2]; rw [if_pos trivial]) (Ev.now _)
  refine Ev.rounds (g := fun k => laws_FnNamedTwo.f k a b l) ?_
  by_cases h1 : (a.size : Int) > 2147483647
  · exact Ev.congr (fun k => by simp only [laws_FnNamedTwo.f]; rw [if_pos h1]) j0T
  by_cases h1b : (b.size : Int) > 2147483647
  · exact Ev.congr (fun k => by simp only [laws_FnNamedTwo.f]; rw [if_neg h1, if_pos h1b]) j0T
  by_cases h2 : (l.length : Int) > 2147483647
  · exact Ev.congr (fun k => by simp only [laws_FnNamedTwo.f]; rw [if_neg h1, if_neg h1b, decide_eq_true h2]) j0T
  refine Ev.congr (f := fun k => laws_FnNamedTwo.j0 k a b l false) (fun k => by simp only [laws_FnNamedTwo.f]; rw [if_neg h1, if_neg h1b, decide_eq_false h2]) ?_
  by_cases h3 : (a.size : Int) > 1000
  · refine Ev.step (fun k => ?_) j1T
    simp only [laws_FnNamedTwo.j0]
    rw [if_neg (by decide), if_pos h3]
  by_cases h3b : (b.size : Int) > 1000
  · refine Ev.step (fun k => ?_) j1T
    simp only [laws_FnNamedTwo.j0]
    rw [if_neg (by decide), if_neg h3, if_pos h3b]
  obtain ⟨t, hE, hb⟩ := args_is l (by omega)
  refine Ev.step (f := fun k => (spec_ArgsRight.f k l).bind fun t => laws_FnNamedTwo.j1 k a b l (!t)) (fun k => ?_) (Ev.bind hE ?_)
  · simp only [laws_FnNamedTwo.j0]
    rw [if_neg (by decide), if_neg h3, if_neg h3b]
  cases t with
  | false => exact j1T
  | true =>
    have hsa : a.size ≤ 1048576 := by omega
    have hsb : b.size ≤ 1048576 := by omega
    have hl := (hb rfl).1
    refine Ev.step (f := fun k => (spec_NamedOf.f k 1 a l).bind fun bt207 => ((spec_NamedOf.f k 1 b l).bind fun bt213 => (if bt207.2.2.2 = true then (if bt213.2.2.2 = true then (if bt207.2.2.1 = true then (laws_FnNamedTwo.j2 k a b l (!bt213.2.2.1)) else (laws_FnNamedTwo.j2 k a b l true)) else (laws_FnNamedTwo.j2 k a b l true)) else (laws_FnNamedTwo.j2 k a b l true)))) (fun k => ?_) (Ev.bind (namedOf_is 1 a hsa l (by omega)) (Ev.bind (namedOf_is 1 b hsb l (by omega)) ?_))
    · simp only [laws_FnNamedTwo.j1]
      rw [Bool.not_true, if_neg (by decide)]
    by_cases ga : (namOf 1 a l).2.2.2 = true
    · by_cases gb : (namOf 1 b l).2.2.2 = true
      · by_cases oa : (namOf 1 a l).2.2.1 = true
        · by_cases ob : (namOf 1 b l).2.2.1 = true
          · obtain ⟨sa, ra, ma, _⟩ := namOf_ok 1 a l oa
            obtain ⟨sb, rb, mb, _⟩ := namOf_ok 1 b l ob
            have mab := mapF_two a b l ra rb sa sb ma mb
            have hsab : (a ++ (⟨#[32]⟩ : ByteArray) ++ b).size = a.size + 1 + b.size := by simp [ByteArray.size_append]; rfl
            have fa := named_some a hsa l hl ra ma
            have fb := named_some b hsb l hl rb mb
            have fab := named_some _ (by omega) l hl _ mab
            have za := mapF_size a hsa l ra ma
            have zb := mapF_size b hsb l rb mb
            have hga := mapF_good ma hsa hl
            have hgb := mapF_good mb hsb hl
            have hd : ∀ x ∈ ra.2 ++ rb.2, deep 2 x := fun x hx => (List.mem_append.1 hx).elim (fun h => right_deep (hga.2 x h).1) (fun h => right_deep (hgb.2 x h).1)
            have q1 : a.size + 1 ≤ 9223372036854775807 := by omega
            have q2 : (a ++ (⟨#[32]⟩ : ByteArray)).size + b.size ≤ 9223372036854775807 := by
              have e32 : (⟨#[32]⟩ : ByteArray).size = 1 := rfl
              rw [ByteArray.size_append, e32]
              omega
            have q3 : ra.1.size + 1 ≤ 9223372036854775807 := by omega
            have e32 : (⟨#[32]⟩ : ByteArray).size = 1 := rfl
            have q4 : (ra.1 ++ (⟨#[32]⟩ : ByteArray)).size + rb.1.size ≤ 9223372036854775807 := by
              rw [ByteArray.size_append, e32]
              omega
            have q5 : ([] : List S52).length + ra.2.length < 2513169434916 := by
              have := hga.1
              simp only [List.length_nil]
              omega
            have q6 : ([] ++ ra.2).length + rb.2.length < 2513169434916 := by
              have := hga.1
              have := hgb.1
              simp only [List.nil_append]
              omega
            refine Ev.congr (f := fun k => laws_FnNamedTwo.j2 k a b l false) (fun k => by rw [if_pos ga, if_pos gb, if_pos oa, ob]; rfl) (Ev.step (f := fun _ => some true) (fun k => ?_) (Ev.now _))
            simp only [laws_FnNamedTwo.j2]
            rw [if_neg (by decide), fa, Option.bind_some, fb, Option.bind_some, if_pos q1, if_pos q2, fab, Option.bind_some, if_pos rfl, if_pos rfl, if_pos rfl, if_pos q3, if_pos q4, if_pos rfl, Option.bind_some, if_pos q5, Option.bind_some, if_pos q6, List.nil_append, equal_self _ hd, Option.bind_some]
          · refine Ev.congr (fun k => ?_) j2T
            rw [if_pos ga, if_pos gb, if_pos oa, Bool.eq_false_iff.2 ob]
            rfl
        · exact Ev.congr (fun k => by rw [if_pos ga, if_pos gb, if_neg oa]) j2T
      · exact Ev.congr (fun k => by rw [if_pos ga, if_neg gb]) j2T
    · exact Ev.congr (fun k => by rw [if_neg ga]) j2T
end Go.Proofs.YtnmhoghmhglimaaDoor.Pure
-- WRITTEN BY A PROGRAM OF THIS SESSION (wip/rowtexts.py). Not trusted: Lean checks it.
namespace Go.Proofs.YtnmhoghmhglimaaDoor.fnNamedTwo
open Go.ChangeShapes Go.WideShapes Go.ChangeAt Go.RowKit
open Go.ChangeMaps (open_string shut_string)
open Go.Proofs.YtnmhoghmhglimaaDoorW.PrintWords
set_option linter.unusedVariables false
/-- A list of texts, as an argument's cells hold it. -/
theorem texts_C {W : World} {a : Addr} {len c : Nat} {ss : List ByteArray} (hl : len ≤ c) (hm : c ≤ maxLen) (hz : ss.length = c) (hc : ∀ i, i < ss.length → W.cell? (a.add i) = some (.string (ss.getD i ByteArray.empty))) : Kd.C Kd.string W (some a) len (ss.take len) := by
  refine ⟨by rw [List.length_take]; omega, by simp only [maxLen] at hm; omega, fun _ => ⟨a, rfl, fun j p hj => ⟨[.string p], rfl, rfl, fun i u hu => ?_⟩⟩⟩
  obtain ⟨hj2, hj3⟩ := List.getElem?_eq_some_iff.1 hj
  have hj4 : j < ss.length := by rw [List.length_take] at hj2; omega
  have hp : ss.getD j ByteArray.empty = p := by
    rw [← hj3, List.getElem_take]
    simp [List.getD, hj4]
  cases i with
  | zero =>
    simp at hu
    subst hu
    rw [← hp]
    show W.cell? (a.add (j * 1 + 0)) = _
    rw [Nat.mul_one, Nat.add_zero]
    exact hc j hj4
  | succ i => simp at hu
theorem laidOut : laidOutB Tryd.prog = true := by kernel_rfl
theorem door_met (os : Os) (args : Array Value) : laidMetH Tryd.prog Rows.fnNamedTwoRow.laid ((World.doorLaid Tryd.prog 43 os).forCall (fun _ _ => 0) ⟨#[], args, []⟩).memory :=
  laidMetH_of_parts3 (fuel := 8) (laidMet_of_run' 8 (by kernel_rfl) (by kernel_rfl)) (by kernel_rfl) (by kernel_rfl)
theorem gTab : Tryd.prog.globalNamed "internal/strconv.uint64pow10" = some 2 := by kernel_rfl
theorem tab_of_laid {W : World} (h : laidMetH Tryd.prog Rows.fnNamedTwoRow.laid W) : H.Tab W := by
  have h2 := h.filter (fun x => x.1 == "internal/strconv.uint64pow10")
  have e : (Rows.fnNamedTwoRow.laid.filter fun x => x.1 == "internal/strconv.uint64pow10") = [("internal/strconv.uint64pow10", Lib.tabData .u64 Lib.pow10Tab)] := by kernel_rfl
  rw [e] at h2
  have h3 : laidMet Tryd.prog [("internal/strconv.uint64pow10", Lib.tabData .u64 Lib.pow10Tab)] W := h2
  exact Lib.tabIs_of_head (rest := []) gTab (t := 148) (e := 131) (n := 20) (by kernel_rfl) (by kernel_rfl) (by kernel_rfl) (by kernel_rfl) (by kernel_rfl) h3
theorem own : ownKnob Tryd.prog.godebug = none := by kernel_rfl
set_option maxRecDepth 100000 in
theorem lifted (os : Os) (started : os.Started) (H : Type) (enc : TypeId × Value → H) :
    ReturnsInHanded {} Tryd.checked os 13 .any (fun w args => (Rows.fnNamedTwoSpec.pre enc Tryd.prog Tryd.f13 [] false w args ∧ laidMetH Tryd.prog Rows.fnNamedTwoRow.laid w) ∧ sizedMet enc Tryd.prog Tryd.f13 (OpenSpec.ofChange Rows.fnNamedTwoSpec) false w args) (Rows.fnNamedTwoSpec.post enc Tryd.prog Tryd.f13 false true false false) := by
  refine returnsInHanded_of_change_and (C := Tryd.checked) (X := fun w _ => laidMetH Tryd.prog Rows.fnNamedTwoRow.laid w) (fun _ _ _ hh h => h.of_heap hh) own started (by kernel_rfl) Tryd.func13
    (ChangeSpec.witness_shaped (enc := enc) (C := Tryd.checked) (os := os) (X := fun w _ => laidMetH Tryd.prog Rows.fnNamedTwoRow.laid w) false (World.doorLaid Tryd.prog 43 os) #[.string ByteArray.empty, .string ByteArray.empty, .slice none 0 0] 8 rfl (World.shaped_of_RefB (by kernel_rfl) (by kernel_rfl)) (by kernel_rfl) (by kernel_rfl) (by kernel_rfl) (door_met os _)) ?_
  intro W base args ds gs before hval0 hW hcnd hsz0 hL _
  have hsz : (DataW.weightsEach Tryd.prog (Tryd.f13.params.toList ++ Rows.fnNamedTwoSpec.plain.varTypes Tryd.prog) (ds ++ gs)).all (· ≤ reachBytes) = true := hsz0
  have hval : ∀ (j : Nat) t v, Tryd.f13.params[j]? = some t → args[j]? = some v → Value.okWide Tryd.prog W .any base t v := hval0
  have hW' := hW
  obtain ⟨p, q, hA0, hV, rfl, hfz, hnd⟩ := hW
  have hA : DataW.TrodAll enc Tryd.prog W 0 (fun _ => true) true Tryd.f13.params.toList args.toList ds p := hA0
  rw [Tryd.params13] at hA hval hsz
  obtain ⟨v0, vs0, d0, ds0, p0, q0, hargs, rfl, rfl, h0, r0⟩ := trodAll_cons hA
  obtain ⟨v1, vs1, d1, ds1, p1, q1, rfl, rfl, rfl, h1, r1⟩ := trodAll_cons r0
  obtain ⟨v2, vs2, d2, ds2, p2, q2, rfl, rfl, rfl, h2, r2⟩ := trodAll_cons r1
  obtain ⟨rfl, rfl, rfl⟩ := trodAll_nil r2
  obtain rfl : args = #[v0, v1, v2] := by cases args; simp_all
  obtain ⟨rfl, rfl⟩ := trodVars_none hV
  obtain ⟨a0, rfl, rfl, rfl, y0⟩ := open_string Tryd.underlying9 (hval 0 9 v0 rfl rfl) h0
  obtain ⟨a1, rfl, rfl, rfl, y1⟩ := open_string Tryd.underlying9 (hval 1 9 v1 rfl rfl) h1
  obtain ⟨A2, n2, c2, rfl⟩ := okWide_slice Tryd.underlying40 (hval 2 40 v2 rfl rfl)
  have k2 := h2
  have lt2 : ∀ x ∈ p2, x.block < W.heap.size := by obtain ⟨m, hm⟩ := k2; exact DataW.trod_lt m _ _ _ hm
  obtain ⟨l2, e2, w2, u2⟩ : ∃ l : List (QN.S54), n2 = l.length ∧ Kd.C QN.k54 W A2 l.length l ∧ l.length ≤ c2 := by
    obtain ⟨fuel, hf⟩ := h2
    obtain ⟨l, A, c, hcs, hl, hC⟩ := Go.Proofs.YtnmhoghmhglimaaDoor.H.opens_args hf
    simp [Value.cells] at hcs
    obtain ⟨rfl, rfl, rfl⟩ := hcs
    exact ⟨l, rfl, hC, hl⟩
  subst e2
  clear hA0 hval0 hsz0 hsz
  obtain ⟨k, hk⟩ := Pure.FnNamedTwo a0 a1 l2 
  refine (QN.laws_FnNamedTwo.calls k a0 a1 A2 c2 l2 true W (tab_of_laid hL) w2 u2 hk).mono fun e W' ⟨he, bel⟩ => ?_
  subst he
  exact ⟨_, rfl, _, _, _, [], _, [], hW', trodAll_mk1 (shut_bool Tryd.underlying4 _), (trodAll_cons_mk (shut_string Tryd.underlying9 y0) (trodAll_cons_mk (shut_string Tryd.underlying9 y1) (trodAll_cons_mk (Below.trod laidOut (by kernel_rfl) (of_decide_eq_true (by kernel_rfl)) k2 bel lt2) trodAll_mk0))), rfl, bel.frame _, fun h => by cases h⟩
theorem lf : (Rows.fnNamedTwoRow.lifted == Tryd.pinned.checked.prog.liftsFinal) = true := beq_iff_eq.mpr Facts.liftsFinal.symm
theorem mk : (Tryd.pinned.checked.prog.make == some Rows.fnNamedTwoRow.make) = true := beq_iff_eq.mpr Facts.make
theorem joined : joinedFacts Tryd.pinned.checked.prog 13 Tryd.f13 Rows.fnNamedTwoSpec Rows.fnNamedTwoRow = true := by
  unfold joinedFacts
  rw [Facts.mayEnter, lf, mk]
  kernel_rfl
theorem over : Rows.fnNamedTwoRow.holds Tryd.pinned (OpenSpec.ofChange Rows.fnNamedTwoSpec) :=
  OpenClaim.holds_of_wide 13 Tryd.f13 rfl rfl rfl rfl rfl rfl rfl ⟨rfl, rfl, rfl, rfl, rfl⟩ rfl rfl rfl rfl rfl (by kernel_rfl) Tryd.func13 joined
    (of_decide_eq_true (by kernel_rfl)) (by unfold Func.isWrapper; first | (rw [if_pos (by decide +kernel)]; kernel_rfl) | (rw [if_neg (by decide +kernel)]; exact ⟨rfl, rfl⟩))
    (fun os started H enc _ => lifted os started H enc)
theorem proved : Rows.FnNamedTwoSaid := over
theorem plain (f : FuncId) (fn : Func) (hf : Tryd.pinned.checked.prog.funcNamed "given.example/pub-conveyance/laws.FnNamedTwo" = some f) (hfn : Tryd.pinned.checked.prog.funcs[f]? = some fn) :
    true = Tryd.pinned.checked.prog.looks [] ∧ ∀ (j : Nat) t, fn.params[j]? = some t → Tryd.pinned.checked.prog.wantsStandIn t = false := by
  obtain rfl : f = 13 := Option.some.inj ((show Tryd.prog.funcNamed "given.example/pub-conveyance/laws.FnNamedTwo" = some 13 by kernel_rfl).symm.trans hf) |>.symm
  obtain rfl : fn = Tryd.f13 := (Option.some.inj (Tryd.func13.symm.trans hfn)).symm
  refine ⟨by kernel_rfl, fun j t ht => ?_⟩
  rw [Tryd.params13] at ht
  have hm : t ∈ [9, 9, 40] := by simpa using Array.mem_of_getElem? ht
  have hall : ([9, 9, 40].all fun u => !Tryd.prog.wantsStandIn u) = true := by kernel_rfl
  exact (show Tryd.prog.wantsStandIn t = false by simpa using List.all_eq_true.1 hall t hm)
theorem card : Rows.FnNamedTwoCardSaid :=
  Claim7.holds_tied_plain_at .later [] _ _ _ _ proved (fun _ h => by cases h) (by kernel_rfl) (fun _ h => by cases h) fnNamedTwo_row_tie rfl ⟨rfl, rfl⟩ Facts.mainIs rfl plain (by kernel_rfl)
#print axioms card
end Go.Proofs.YtnmhoghmhglimaaDoor.fnNamedTwo
namespace Go.Proofs.YtnmhoghmhglimaaDoor
/-- The row, under a short name, for the claim. -/
theorem fnNamedTwo_holds : Rows.FnNamedTwoCardSaid := fnNamedTwo.card
end Go.Proofs.YtnmhoghmhglimaaDoor
