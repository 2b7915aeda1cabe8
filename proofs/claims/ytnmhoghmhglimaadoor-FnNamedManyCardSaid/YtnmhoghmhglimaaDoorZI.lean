/-
  MERGED BY A PROGRAM OF THIS SESSION (wip/pack.py): QN15.
-/
import Derived.Test.YtnmhoghmhglimaaDoorZB
import Derived.Test.YtnmhoghmhglimaaDoorZD
import Derived.Test.YtnmhoghmhglimaaDoorZE
import Derived.Test.YtnmhoghmhglimaaDoorZF
-- WRITTEN BY A PROGRAM OF THIS SESSION (wip/print2.py): the print, with contracts of this session's own let in. Not trusted: Lean checks it.
namespace Go.Proofs.YtnmhoghmhglimaaDoor.QN
open Go.RowKit Go.Proofs.YtnmhoghmhglimaaDoorW.PrintWords Go.Proofs.YtnmhoghmhglimaaDoorW.PrintLast Go.Proofs.YtnmhoghmhglimaaDoorW.PrintMore
attribute [local go_sem] max2_int min2_int max_two min_two max_three min_three max_four min_four   -- for this text's walks alone
set_option linter.unusedVariables false
set_option linter.unusedSimpArgs false

open Go.Proofs.YtnmhoghmhglimaaDoor.H
/-! ### laws_FnNamedManyOf: function 14 -/
mutual
def laws_FnNamedManyOf.j0 : Nat → Int → ByteArray → List (List (S54)) → Bool → Option (Bool)
  | 0, _, _, _, _ => none
  | k + 1, x0, x1, x2, x21 => if x21 = true then (some true) else (if (x1.size : Int) > 1000 then (laws_FnNamedManyOf.j1 k x0 x1 x2 true) else ((laws_rows9.f k x2).bind fun t265 => (laws_FnNamedManyOf.j1 k x0 x1 x2 (!t265))))
def laws_FnNamedManyOf.j1 : Nat → Int → ByteArray → List (List (S54)) → Bool → Option (Bool)
  | 0, _, _, _, _ => none
  | k + 1, x0, x1, x2, x29 => if x29 = true then (some true) else ((spec_NamedMany.f k x1 x2).bind fun bt266 => (if bt266.2.2.2 = true then ((laws_kind9.f x0).bind fun t272 => ((impl_NamedManyOf.f t272 x1 x2).bind fun bt273 => (if (bt273.2.2 == bt266.2.2.1) = true then (if bt266.2.2.1 = true then ((laws_kind9.f x0).bind fun t278 => ((spec_Rebound.f k t278 bt266.1).bind fun t279 => (if bt273.1.toList = t279.toList then ((spec_EqualValues.f bt266.2.1 bt273.2.1).bind fun t280 => (some t280)) else (some false)))) else (some true)) else (some false)))) else (some true)))
end
def laws_FnNamedManyOf.f (k : Nat) (a0 : Int) (a1 : ByteArray) (l2 : List (List (S54))) : Option (Bool) := if (a1.size : Int) > 2147483647 then (laws_FnNamedManyOf.j0 k a0 a1 l2 true) else (laws_FnNamedManyOf.j0 k a0 a1 l2 (decide ((l2.length : Int) > 2147483647)))
theorem laws_FnNamedManyOf.mono_l : ∀ k, (∀ y0 y1 y2 y3, LeO (laws_FnNamedManyOf.j0 k y0 y1 y2 y3) (laws_FnNamedManyOf.j0 (k + 1) y0 y1 y2 y3)) ∧ (∀ y0 y1 y2 y3, LeO (laws_FnNamedManyOf.j1 k y0 y1 y2 y3) (laws_FnNamedManyOf.j1 (k + 1) y0 y1 y2 y3))
  | 0 => ⟨fun _ _ _ _ r h => by simp [laws_FnNamedManyOf.j0] at h, fun _ _ _ _ r h => by simp [laws_FnNamedManyOf.j1] at h⟩
  | k + 1 => by
    obtain ⟨ih0, ih1⟩ := laws_FnNamedManyOf.mono_l k
    refine ⟨?_, ?_⟩
    · intro y0 y1 y2 y3
      unfold laws_FnNamedManyOf.j0
      repeat' first
      | (with_reducible exact ih0 _ _ _ _)
      | (with_reducible exact ih1 _ _ _ _)
      | (with_reducible exact laws_rows9.mono _ _)
      | (with_reducible exact spec_NamedMany.mono _ _ _)
      | (with_reducible exact spec_Rebound.mono _ _ _)
      | (with_reducible exact LeO.refl _)
      | (with_reducible exact LeO.none _)
      | (with_reducible refine LeO.ite ?_ ?_)
      | (with_reducible refine LeO.bind ?_ (fun _ => ?_))
      | exact ih0 _ _ _ _
      | exact ih1 _ _ _ _
      | exact laws_rows9.mono _ _
      | exact spec_NamedMany.mono _ _ _
      | exact spec_Rebound.mono _ _ _
      | exact LeO.none _
      | refine LeO.ite ?_ ?_
      | refine LeO.bind ?_ (fun _ => ?_)
    · intro y0 y1 y2 y3
      unfold laws_FnNamedManyOf.j1
      repeat' first
      | (with_reducible exact ih0 _ _ _ _)
      | (with_reducible exact ih1 _ _ _ _)
      | (with_reducible exact laws_rows9.mono _ _)
      | (with_reducible exact spec_NamedMany.mono _ _ _)
      | (with_reducible exact spec_Rebound.mono _ _ _)
      | (with_reducible exact LeO.refl _)
      | (with_reducible exact LeO.none _)
      | (with_reducible refine LeO.ite ?_ ?_)
      | (with_reducible refine LeO.bind ?_ (fun _ => ?_))
      | exact ih0 _ _ _ _
      | exact ih1 _ _ _ _
      | exact laws_rows9.mono _ _
      | exact spec_NamedMany.mono _ _ _
      | exact spec_Rebound.mono _ _ _
      | exact LeO.none _
      | refine LeO.ite ?_ ?_
      | refine LeO.bind ?_ (fun _ => ?_)
theorem laws_FnNamedManyOf.mono : ∀ a0 a1 a2 k, LeO (laws_FnNamedManyOf.f k a0 a1 a2) (laws_FnNamedManyOf.f (k + 1) a0 a1 a2) := by
  intro a0 a1 a2 k
  obtain ⟨ih0, ih1⟩ := laws_FnNamedManyOf.mono_l k
  unfold laws_FnNamedManyOf.f
  repeat' first
      | (with_reducible exact ih0 _ _ _ _)
      | (with_reducible exact ih1 _ _ _ _)
      | (with_reducible exact laws_rows9.mono _ _)
      | (with_reducible exact spec_NamedMany.mono _ _ _)
      | (with_reducible exact spec_Rebound.mono _ _ _)
      | (with_reducible exact LeO.refl _)
      | (with_reducible exact LeO.none _)
      | (with_reducible refine LeO.ite ?_ ?_)
      | (with_reducible refine LeO.bind ?_ (fun _ => ?_))
      | exact ih0 _ _ _ _
      | exact ih1 _ _ _ _
      | exact laws_rows9.mono _ _
      | exact spec_NamedMany.mono _ _ _
      | exact spec_Rebound.mono _ _ _
      | exact LeO.none _
      | refine LeO.ite ?_ ?_
      | refine LeO.bind ?_ (fun _ => ?_)
set_option maxHeartbeats 8000000 in
set_option maxRecDepth 100000 in
theorem laws_FnNamedManyOf.calls (k : Nat) (a0 : Int) (a1 : ByteArray) (A2 : Option Addr) (c2 : Nat) (l2 : List (List (S54))) (r : Bool) (w : World) (ht_ : Tab w) (hr2 : Kd.C (Kd.slice 54 k54) w A2 l2.length l2) (hc2 : l2.length ≤ c2) (h : laws_FnNamedManyOf.f k a0 a1 l2 = some r) :
    Calls Tryd.prog 14 #[.int .u8 a0, .string a1, .slice A2 l2.length c2] w fun e w' => e = .returned (.bool r) ∧ Below w.heap.size w w' := by
  have HR2 := Aside0.mk hr2
  have HC2 := Aside0.mk hc2
  clear hr2 hc2
  have HB := Aside0.mk (Below.refl w.heap.size w)
  have HT_ := Aside0.mk (tab_below ht_)
  clear ht_
  have H : (if (a1.size : Int) > 2147483647 then (laws_FnNamedManyOf.j0 k a0 a1 l2 true) else (laws_FnNamedManyOf.j0 k a0 a1 l2 (decide ((l2.length : Int) > 2147483647)))) = some r := h
  clear h
  have HC4 := Aside0.mk H
  clear H
  go_enter Tryd.func14, Tryd.ntmps14
  go_upto_region 1 with (fail)
  go_cut [21] (fun v21 wc => ∃ (kq : Nat) (x21_3 : Bool), v21 = .bool x21_3 ∧ Aside0 (laws_FnNamedManyOf.j0 kq a0 a1 l2 x21_3 = some r) ∧ Aside0 (kq ≤ k) ∧ Aside0 (Below w.heap.size w wc))
  case first =>
    have H := HC4.out
    clear HC4
    by_cases c5 : (a1.size : Int) > 2147483647
    · rw [if_pos c5] at H
      have c5b0 : decide (2147483647 < (a1.size : Int)) = true := decide_eq_true c5
      have c5b1 : decide (2147483647 < a1.size) = true := decide_eq_true (by omega)
      clear c5
      (first | rw [c5b0] | (simp only [i64_w, i32_w]; rw [c5b0]) | skip)
      have H' := Aside0.mk H
      clear H
      go_wp2
      go_meet
      case rel => exact ⟨_, (true), (by first | rfl | (simp; done) | (simp [*]; done)), H', ⟨by first | omega | exact Nat.le_refl _⟩, ⟨by repeat (first | (with_reducible first | exact HB.out | apply below_alloc | apply pw_below_drewN | apply below_drew1) | exact HB.out)⟩⟩
    · rw [if_neg c5] at H
      have c5b0 : decide (2147483647 < (a1.size : Int)) = false := decide_eq_false c5
      have c5b1 : decide (2147483647 < a1.size) = false := decide_eq_false (by omega)
      clear c5
      (first | rw [c5b0] | (simp only [i64_w, i32_w]; rw [c5b0]) | skip)
      have H' := Aside0.mk H
      clear H
      go_wp2
      go_meet
      case rel => exact ⟨_, (decide ((l2.length : Int) > 2147483647)), (by first | rfl | (simp; done) | (simp [*]; done)), H', ⟨by first | omega | exact Nat.le_refl _⟩, ⟨by repeat (first | (with_reducible first | exact HB.out | apply below_alloc | apply pw_below_drewN | apply below_drew1) | exact HB.out)⟩⟩
  case rest =>
    clear HC4
    try clear c1
    try clear c2
    try clear p2
    try clear c5
    try clear c5b0
    try clear c5b1
    obtain ⟨kq, x21_3, rfl, HA, HJ3, HB⟩ := hcut
    cases kq with
    | zero => exact absurd HA.out (by simp [laws_FnNamedManyOf.j0])
    | succ kj3 =>
      have H := HA.out
      clear HA
      simp only [laws_FnNamedManyOf.j0] at H
      by_cases c6 : x21_3 = true
      · subst c6
        have H1 : (some true) = some r := by rw [if_pos rfl] at H; exact H
        clear H
        have H := H1
        clear H1
        obtain rfl := Option.some.inj H
        go_wp2
        go_ret
        exact ⟨by first | rfl | (simp [errW_none, errW_some] <;> rfl) | (simp [*, errW_none, errW_some] <;> rfl), by repeat (first | (with_reducible first | exact HB.out | apply below_alloc | apply pw_below_drewN | apply below_drew1) | exact HB.out)⟩
      · replace c6 := Bool.eq_false_iff.mpr c6
        subst c6
        have H1 : (if (a1.size : Int) > 1000 then (laws_FnNamedManyOf.j1 kj3 a0 a1 l2 true) else ((laws_rows9.f kj3 l2).bind fun t265 => (laws_FnNamedManyOf.j1 kj3 a0 a1 l2 (!t265)))) = some r := by rw [if_neg (show ¬ (false = true) by decide)] at H; exact H
        clear H
        have H := H1
        clear H1
        have HC7 := Aside0.mk H
        clear H
        go_upto_region 3 with (fail)
        go_cut [29] (fun v29 wc => ∃ (kq : Nat) (x29_6 : Bool), v29 = .bool x29_6 ∧ Aside0 (laws_FnNamedManyOf.j1 kq a0 a1 l2 x29_6 = some r) ∧ Aside0 (kq ≤ kj3) ∧ Aside0 (Below w.heap.size w wc))
        case first =>
          have H := HC7.out
          clear HC7
          by_cases c8 : (a1.size : Int) > 1000
          · rw [if_pos c8] at H
            have c8b0 : decide (1000 < (a1.size : Int)) = true := decide_eq_true c8
            have c8b1 : decide (1000 < a1.size) = true := decide_eq_true (by omega)
            clear c8
            (first | rw [c8b0] | (simp only [i64_w, i32_w]; rw [c8b0]) | skip)
            have H' := Aside0.mk H
            clear H
            go_wp2
            go_meet
            case rel => exact ⟨_, (true), (by first | rfl | (simp; done) | (simp [*]; done)), H', ⟨by have := HJ3.out; first | omega | exact Nat.le_refl _⟩, ⟨by repeat (first | (with_reducible first | exact HB.out | apply below_alloc | apply pw_below_drewN | apply below_drew1) | exact HB.out)⟩⟩
          · rw [if_neg c8] at H
            have c8b0 : decide (1000 < (a1.size : Int)) = false := decide_eq_false c8
            have c8b1 : decide (1000 < a1.size) = false := decide_eq_false (by omega)
            clear c8
            (first | rw [c8b0] | (simp only [i64_w, i32_w]; rw [c8b0]) | skip)
            replace H := Option.bind_eq_some_iff.mp H
            obtain ⟨t265, A90, H⟩ := H
            replace H : (laws_FnNamedManyOf.j1 kj3 a0 a1 l2 (!t265)) = some r := H
            have A9 := Aside0.mk A90
            clear A90
            have H' := Aside0.mk H
            clear H
            go_wp2_with (first | (go_at_call 40; (with_reducible refine (laws_rows9.calls kj3 _ _ l2 t265 _ ?side1 ?side2 A9.out).mono ?_); (case side1 => repeat (first | exact (Kd.C_below HR2.out HB.out) | (with_reducible refine Kd.C_alloc ?_ _) | (with_reducible refine Kd.C_drewN ?_ _) | (with_reducible refine Kd.C_drew ?_))); (case side2 => exact HC2.out); rintro e w10 ⟨rfl, hb⟩; have n0_ := Aside0.mk (below_step (by repeat (first | (with_reducible first | exact HB.out | apply below_alloc | apply pw_below_drewN | apply below_drew1) | exact HB.out)) hb); clear HB; have HB := n0_; clear n0_; (try clear hb); (try clear hb2); (try clear hk); (try clear hi)))
            go_meet
            case rel => exact ⟨_, (!t265), (by first | rfl | (simp; done) | (simp [*]; done)), H', ⟨by have := HJ3.out; first | omega | exact Nat.le_refl _⟩, ⟨by repeat (first | (with_reducible first | exact HB.out | apply below_alloc | apply pw_below_drewN | apply below_drew1) | exact HB.out)⟩⟩
        case rest =>
          clear HC7
          try clear c1
          try clear c2
          try clear p2
          try clear c5
          try clear c5b0
          try clear c5b1
          try clear c6
          try clear c8
          try clear c8b0
          try clear c8b1
          try clear p2
          obtain ⟨kq, x29_6, rfl, HA, HJ6, HB⟩ := hcut
          cases kq with
          | zero => exact absurd HA.out (by simp [laws_FnNamedManyOf.j1])
          | succ kj6 =>
            have H := HA.out
            clear HA
            simp only [laws_FnNamedManyOf.j1] at H
            by_cases c11 : x29_6 = true
            · subst c11
              have H1 : (some true) = some r := by rw [if_pos rfl] at H; exact H
              clear H
              have H := H1
              clear H1
              obtain rfl := Option.some.inj H
              go_wp2
              go_ret
              exact ⟨by first | rfl | (simp [errW_none, errW_some] <;> rfl) | (simp [*, errW_none, errW_some] <;> rfl), by repeat (first | (with_reducible first | exact HB.out | apply below_alloc | apply pw_below_drewN | apply below_drew1) | exact HB.out)⟩
            · replace c11 := Bool.eq_false_iff.mpr c11
              subst c11
              have H1 : ((spec_NamedMany.f kj6 a1 l2).bind fun bt266 => (if bt266.2.2.2 = true then ((laws_kind9.f a0).bind fun t272 => ((impl_NamedManyOf.f t272 a1 l2).bind fun bt273 => (if (bt273.2.2 == bt266.2.2.1) = true then (if bt266.2.2.1 = true then ((laws_kind9.f a0).bind fun t278 => ((spec_Rebound.f kj6 t278 bt266.1).bind fun t279 => (if bt273.1.toList = t279.toList then ((spec_EqualValues.f bt266.2.1 bt273.2.1).bind fun t280 => (some t280)) else (some false)))) else (some true)) else (some false)))) else (some true))) = some r := by rw [if_neg (show ¬ (false = true) by decide)] at H; exact H
              clear H
              have H := H1
              clear H1
              replace H := Option.bind_eq_some_iff.mp H
              obtain ⟨⟨t266, t267, t270, t271⟩, A120, H⟩ := H
              replace H : (if t271 = true then ((laws_kind9.f a0).bind fun t272 => ((impl_NamedManyOf.f t272 a1 l2).bind fun bt273 => (if (bt273.2.2 == t270) = true then (if t270 = true then ((laws_kind9.f a0).bind fun t278 => ((spec_Rebound.f kj6 t278 t266).bind fun t279 => (if bt273.1.toList = t279.toList then ((spec_EqualValues.f t267 bt273.2.1).bind fun t280 => (some t280)) else (some false)))) else (some true)) else (some false)))) else (some true)) = some r := H
              have A12 := Aside0.mk A120
              clear A120
              by_cases c13 : t271 = true
              · subst c13
                have H1 : ((laws_kind9.f a0).bind fun t272 => ((impl_NamedManyOf.f t272 a1 l2).bind fun bt273 => (if (bt273.2.2 == t270) = true then (if t270 = true then ((laws_kind9.f a0).bind fun t278 => ((spec_Rebound.f kj6 t278 t266).bind fun t279 => (if bt273.1.toList = t279.toList then ((spec_EqualValues.f t267 bt273.2.1).bind fun t280 => (some t280)) else (some false)))) else (some true)) else (some false)))) = some r := by rw [if_pos rfl] at H; exact H
                clear H
                have H := H1
                clear H1
                replace H := Option.bind_eq_some_iff.mp H
                obtain ⟨t272, A140, H⟩ := H
                replace H : ((impl_NamedManyOf.f t272 a1 l2).bind fun bt273 => (if (bt273.2.2 == t270) = true then (if t270 = true then ((laws_kind9.f a0).bind fun t278 => ((spec_Rebound.f kj6 t278 t266).bind fun t279 => (if bt273.1.toList = t279.toList then ((spec_EqualValues.f t267 bt273.2.1).bind fun t280 => (some t280)) else (some false)))) else (some true)) else (some false))) = some r := H
                have A14 := Aside0.mk A140
                clear A140
                replace H := Option.bind_eq_some_iff.mp H
                obtain ⟨⟨t273, t274, t275⟩, A150, H⟩ := H
                replace H : (if (t275 == t270) = true then (if t270 = true then ((laws_kind9.f a0).bind fun t278 => ((spec_Rebound.f kj6 t278 t266).bind fun t279 => (if t273.toList = t279.toList then ((spec_EqualValues.f t267 t274).bind fun t280 => (some t280)) else (some false)))) else (some true)) else (some false)) = some r := H
                have A15 := Aside0.mk A150
                clear A150
                by_cases c16 : (t275 == t270) = true
                · rw [if_pos c16] at H
                  have c16b0 : (t275 == t270) = true := c16
                  (try (have c16b1 : decide (t275 = t270) = true := by simpa using c16))
                  (try (have c16b2 : (t275 == t270) = true := by simpa using c16))
                  clear c16
                  by_cases c17 : t270 = true
                  · subst c17
                    have H1 : ((laws_kind9.f a0).bind fun t278 => ((spec_Rebound.f kj6 t278 t266).bind fun t279 => (if t273.toList = t279.toList then ((spec_EqualValues.f t267 t274).bind fun t280 => (some t280)) else (some false)))) = some r := by rw [if_pos rfl] at H; exact H
                    clear H
                    have H := H1
                    clear H1
                    replace H := Option.bind_eq_some_iff.mp H
                    obtain ⟨t278, A180, H⟩ := H
                    replace H : ((spec_Rebound.f kj6 t278 t266).bind fun t279 => (if t273.toList = t279.toList then ((spec_EqualValues.f t267 t274).bind fun t280 => (some t280)) else (some false))) = some r := H
                    have A18 := Aside0.mk A180
                    clear A180
                    replace H := Option.bind_eq_some_iff.mp H
                    obtain ⟨t279, A190, H⟩ := H
                    replace H : (if t273.toList = t279.toList then ((spec_EqualValues.f t267 t274).bind fun t280 => (some t280)) else (some false)) = some r := H
                    have A19 := Aside0.mk A190
                    clear A190
                    by_cases c20 : t273.toList = t279.toList
                    · rw [if_pos c20] at H
                      have c20b0 : (t273.toList == t279.toList) = true := beq_iff_eq.mpr c20
                      have c20b1 : (t273.toList != t279.toList) = false := bne_eq_false_iff_eq.mpr c20
                      clear c20
                      replace H := Option.bind_eq_some_iff.mp H
                      obtain ⟨t280, A210, H⟩ := H
                      replace H : (some t280) = some r := H
                      have A21 := Aside0.mk A210
                      clear A210
                      obtain rfl := Option.some.inj H
                      go_wp2_with (first | ((with_reducible refine gate_callee (f := 41) rfl ?_); refine goesL_ (some 33) rfl rfl Tryd.func41 (by kernel_rfl) rfl #[.string a1, .slice A2 l2.length c2] rfl (by (try simp only [List.map_toArray, List.map_cons, List.map_nil]); first | done | rfl | (simp only [List.length_drop, List.length_take]; rfl)) ?_; (with_reducible refine (spec_NamedMany.calls kj6 a1 (fun k_ => k_ < w.heap.size) _ _ l2 t266 t267 true true _ ?side1 A12.out).mono ?_); (case side1 => exact Kd.V_mk HC2.out (Kd.F_below (Kd.C_F (Kd.heap_slice 54 k54_heap) HR2.out) (by repeat (first | (with_reducible first | exact HB.out | apply below_alloc | apply pw_below_drewN | apply below_drew1) | exact HB.out)))); rintro e w22 ⟨v268, rfl, ho0, hb⟩; refine ⟨_, rfl, ?_⟩; have n0_ := Aside0.mk (Kd.N_lower (Kd.N_mono (ok' := fun k_ => True) ho0 (fun k_ hk_ => trivial)) (below_size (by repeat (first | (with_reducible first | exact HB.out | apply below_alloc | apply pw_below_drewN | apply below_drew1) | exact HB.out)))); have n1_ := Aside0.mk (below_step (by repeat (first | (with_reducible first | exact HB.out | apply below_alloc | apply pw_below_drewN | apply below_drew1) | exact HB.out)) hb); clear HB; have HO269 := n0_; have HB := n1_; clear n0_ n1_; (try clear hb); (try clear hb2); (try clear hk); (try clear hi); (try clear ho0)) | ((with_reducible refine gate_callee (f := 24) rfl ?_); refine goesL_ (some 42) rfl rfl Tryd.func24 (by kernel_rfl) rfl #[.int .u8 a0] rfl (by (try simp only [List.map_toArray, List.map_cons, List.map_nil]); first | done | rfl | (simp only [List.length_drop, List.length_take]; rfl)) ?_; (with_reducible refine (laws_kind9.calls a0 t272 _ A14.out).mono ?_); rintro e w' ⟨rfl, ⟨nd, rfl⟩⟩; refine ⟨_, rfl, ?_⟩) | ((with_reducible refine gate_callee (f := 42) rfl ?_); refine goesL_ (some 45) rfl rfl Tryd.func42 (by kernel_rfl) rfl #[.int .i64 t272, .string a1, .slice A2 l2.length c2] rfl (by (try simp only [List.map_toArray, List.map_cons, List.map_nil]); first | done | rfl | (simp only [List.length_drop, List.length_take]; rfl)) ?_; (with_reducible refine (impl_NamedManyOf.calls t272 a1 _ _ l2 t273 t274 t275 _ (tab_at HT_.out (by repeat (first | (with_reducible first | exact HB.out | apply below_alloc | apply pw_below_drewN | apply below_drew1) | exact HB.out))) ?side1 ?side2 A15.out).mono ?_); (case side1 => repeat (first | exact (Kd.C_below HR2.out (by repeat (first | (with_reducible first | exact HB.out | apply below_alloc | apply pw_below_drewN | apply below_drew1) | exact HB.out))) | (with_reducible refine Kd.C_alloc ?_ _) | (with_reducible refine Kd.C_drewN ?_ _) | (with_reducible refine Kd.C_drew ?_))); (case side2 => exact HC2.out); rintro e w23 ⟨v276, rfl, ho0, hb⟩; refine ⟨_, rfl, ?_⟩; have n0_ := Aside0.mk (Kd.N_elder' (by (with_reducible repeat (first | apply Kd.N_alloc | apply Kd.N_drewN | apply Kd.N_drew)); exact HO269.out) (Kd.N_base (Kd.R_N ho0)) hb); have n1_ := Aside0.mk (Kd.N_lower (Kd.N_mono (ok' := fun k_ => some k_ ≠ (v268 : Value).ownBlock) (Kd.R_N (Kd.R_bound ho0)) (fun k_ hk_ => (Kd.fresh' (Kd.N_lt (by (with_reducible repeat (first | apply Kd.N_alloc | apply Kd.N_drewN | apply Kd.N_drew)); exact HO269.out)) k_ hk_.2.1))) (below_size (by repeat (first | (with_reducible first | exact HB.out | apply below_alloc | apply pw_below_drewN | apply below_drew1) | exact HB.out)))); have n2_ := Aside0.mk (below_step (by repeat (first | (with_reducible first | exact HB.out | apply below_alloc | apply pw_below_drewN | apply below_drew1) | exact HB.out)) hb); clear HO269; clear HB; have HO269 := n0_; have HO277 := n1_; have HB := n2_; clear n0_ n1_ n2_; (try clear hb); (try clear hb2); (try clear hk); (try clear hi); (try clear ho0)) | (go_at_call 24; (with_reducible refine (laws_kind9.calls a0 t278 _ A18.out).mono ?_); rintro e w' ⟨rfl, ⟨nd, rfl⟩⟩) | (go_at_call 25; (with_reducible refine (spec_Rebound.calls kj6 t278 t266 t279 _ A19.out).mono ?_); rintro e w24 ⟨rfl, hb⟩; have n0_ := Aside0.mk (Kd.N_below (by (with_reducible repeat (first | apply Kd.N_alloc | apply Kd.N_drewN | apply Kd.N_drew)); exact HO269.out) hb); have n1_ := Aside0.mk (Kd.N_below (by (with_reducible repeat (first | apply Kd.N_alloc | apply Kd.N_drewN | apply Kd.N_drew)); exact HO277.out) hb); have n2_ := Aside0.mk (below_step (by repeat (first | (with_reducible first | exact HB.out | apply below_alloc | apply pw_below_drewN | apply below_drew1) | exact HB.out)) hb); clear HO269; clear HO277; clear HB; have HO269 := n0_; have HO277 := n1_; have HB := n2_; clear n0_ n1_ n2_; (try clear hb); (try clear hb2); (try clear hk); (try clear hi); obtain ⟨Ao25, co25, eo25⟩ := Kd.N_slice HO269.out; subst eo25; obtain ⟨Ao26, co26, eo26⟩ := Kd.N_slice HO277.out; subst eo26) | (go_at_call 37; (with_reducible refine (spec_EqualValues.calls _ _ t267 _ _ t274 t280 _ ?side1 ?side2 ?side3 ?side4 A21.out).mono ?_); (case side1 => repeat (first | exact (Kd.N_reads' HO269.out).2.2 | (with_reducible refine Kd.C_alloc ?_ _) | (with_reducible refine Kd.C_drewN ?_ _) | (with_reducible refine Kd.C_drew ?_))); (case side2 => exact (Kd.N_reads' HO269.out).2.1); (case side3 => repeat (first | exact (Kd.N_reads' HO277.out).2.2 | (with_reducible refine Kd.C_alloc ?_ _) | (with_reducible refine Kd.C_drewN ?_ _) | (with_reducible refine Kd.C_drew ?_))); (case side4 => exact (Kd.N_reads' HO277.out).2.1); rintro e w27 ⟨rfl, hb⟩; have n0_ := Aside0.mk (Kd.N_below (by (with_reducible repeat (first | apply Kd.N_alloc | apply Kd.N_drewN | apply Kd.N_drew)); exact HO269.out) hb); have n1_ := Aside0.mk (Kd.N_below (by (with_reducible repeat (first | apply Kd.N_alloc | apply Kd.N_drewN | apply Kd.N_drew)); exact HO277.out) hb); have n2_ := Aside0.mk (below_step (by repeat (first | (with_reducible first | exact HB.out | apply below_alloc | apply pw_below_drewN | apply below_drew1) | exact HB.out)) hb); clear HO269; clear HO277; clear HB; have HO269 := n0_; have HO277 := n1_; have HB := n2_; clear n0_ n1_ n2_; (try clear hb); (try clear hb2); (try clear hk); (try clear hi)))
                      go_ret
                      exact ⟨by first | rfl | (simp [errW_none, errW_some] <;> rfl) | (simp [*, errW_none, errW_some] <;> rfl), by repeat (first | (with_reducible first | exact HB.out | apply below_alloc | apply pw_below_drewN | apply below_drew1) | exact HB.out)⟩
                    · rw [if_neg c20] at H
                      have c20b0 : (t273.toList == t279.toList) = false := beq_eq_false_iff_ne.mpr c20
                      have c20b1 : (t273.toList != t279.toList) = true := bne_iff_ne.mpr c20
                      obtain rfl := Option.some.inj H
                      go_wp2_with (first | ((with_reducible refine gate_callee (f := 41) rfl ?_); refine goesL_ (some 33) rfl rfl Tryd.func41 (by kernel_rfl) rfl #[.string a1, .slice A2 l2.length c2] rfl (by (try simp only [List.map_toArray, List.map_cons, List.map_nil]); first | done | rfl | (simp only [List.length_drop, List.length_take]; rfl)) ?_; (with_reducible refine (spec_NamedMany.calls kj6 a1 (fun k_ => k_ < w.heap.size) _ _ l2 t266 t267 true true _ ?side1 A12.out).mono ?_); (case side1 => exact Kd.V_mk HC2.out (Kd.F_below (Kd.C_F (Kd.heap_slice 54 k54_heap) HR2.out) (by repeat (first | (with_reducible first | exact HB.out | apply below_alloc | apply pw_below_drewN | apply below_drew1) | exact HB.out)))); rintro e w28 ⟨v268, rfl, ho0, hb⟩; refine ⟨_, rfl, ?_⟩; have n0_ := Aside0.mk (Kd.N_lower (Kd.N_mono (ok' := fun k_ => True) ho0 (fun k_ hk_ => trivial)) (below_size (by repeat (first | (with_reducible first | exact HB.out | apply below_alloc | apply pw_below_drewN | apply below_drew1) | exact HB.out)))); have n1_ := Aside0.mk (below_step (by repeat (first | (with_reducible first | exact HB.out | apply below_alloc | apply pw_below_drewN | apply below_drew1) | exact HB.out)) hb); clear HB; have HO269 := n0_; have HB := n1_; clear n0_ n1_; (try clear hb); (try clear hb2); (try clear hk); (try clear hi); (try clear ho0)) | ((with_reducible refine gate_callee (f := 24) rfl ?_); refine goesL_ (some 42) rfl rfl Tryd.func24 (by kernel_rfl) rfl #[.int .u8 a0] rfl (by (try simp only [List.map_toArray, List.map_cons, List.map_nil]); first | done | rfl | (simp only [List.length_drop, List.length_take]; rfl)) ?_; (with_reducible refine (laws_kind9.calls a0 t272 _ A14.out).mono ?_); rintro e w' ⟨rfl, ⟨nd, rfl⟩⟩; refine ⟨_, rfl, ?_⟩) | ((with_reducible refine gate_callee (f := 42) rfl ?_); refine goesL_ (some 45) rfl rfl Tryd.func42 (by kernel_rfl) rfl #[.int .i64 t272, .string a1, .slice A2 l2.length c2] rfl (by (try simp only [List.map_toArray, List.map_cons, List.map_nil]); first | done | rfl | (simp only [List.length_drop, List.length_take]; rfl)) ?_; (with_reducible refine (impl_NamedManyOf.calls t272 a1 _ _ l2 t273 t274 t275 _ (tab_at HT_.out (by repeat (first | (with_reducible first | exact HB.out | apply below_alloc | apply pw_below_drewN | apply below_drew1) | exact HB.out))) ?side1 ?side2 A15.out).mono ?_); (case side1 => repeat (first | exact (Kd.C_below HR2.out (by repeat (first | (with_reducible first | exact HB.out | apply below_alloc | apply pw_below_drewN | apply below_drew1) | exact HB.out))) | (with_reducible refine Kd.C_alloc ?_ _) | (with_reducible refine Kd.C_drewN ?_ _) | (with_reducible refine Kd.C_drew ?_))); (case side2 => exact HC2.out); rintro e w29 ⟨v276, rfl, ho0, hb⟩; refine ⟨_, rfl, ?_⟩; have n0_ := Aside0.mk (Kd.N_elder' (by (with_reducible repeat (first | apply Kd.N_alloc | apply Kd.N_drewN | apply Kd.N_drew)); exact HO269.out) (Kd.N_base (Kd.R_N ho0)) hb); have n1_ := Aside0.mk (Kd.N_lower (Kd.N_mono (ok' := fun k_ => some k_ ≠ (v268 : Value).ownBlock) (Kd.R_N (Kd.R_bound ho0)) (fun k_ hk_ => (Kd.fresh' (Kd.N_lt (by (with_reducible repeat (first | apply Kd.N_alloc | apply Kd.N_drewN | apply Kd.N_drew)); exact HO269.out)) k_ hk_.2.1))) (below_size (by repeat (first | (with_reducible first | exact HB.out | apply below_alloc | apply pw_below_drewN | apply below_drew1) | exact HB.out)))); have n2_ := Aside0.mk (below_step (by repeat (first | (with_reducible first | exact HB.out | apply below_alloc | apply pw_below_drewN | apply below_drew1) | exact HB.out)) hb); clear HO269; clear HB; have HO269 := n0_; have HO277 := n1_; have HB := n2_; clear n0_ n1_ n2_; (try clear hb); (try clear hb2); (try clear hk); (try clear hi); (try clear ho0)) | (go_at_call 24; (with_reducible refine (laws_kind9.calls a0 t278 _ A18.out).mono ?_); rintro e w' ⟨rfl, ⟨nd, rfl⟩⟩) | (go_at_call 25; (with_reducible refine (spec_Rebound.calls kj6 t278 t266 t279 _ A19.out).mono ?_); rintro e w30 ⟨rfl, hb⟩; have n0_ := Aside0.mk (Kd.N_below (by (with_reducible repeat (first | apply Kd.N_alloc | apply Kd.N_drewN | apply Kd.N_drew)); exact HO269.out) hb); have n1_ := Aside0.mk (Kd.N_below (by (with_reducible repeat (first | apply Kd.N_alloc | apply Kd.N_drewN | apply Kd.N_drew)); exact HO277.out) hb); have n2_ := Aside0.mk (below_step (by repeat (first | (with_reducible first | exact HB.out | apply below_alloc | apply pw_below_drewN | apply below_drew1) | exact HB.out)) hb); clear HO269; clear HO277; clear HB; have HO269 := n0_; have HO277 := n1_; have HB := n2_; clear n0_ n1_ n2_; (try clear hb); (try clear hb2); (try clear hk); (try clear hi)))
                      go_ret
                      exact ⟨by first | rfl | (simp [errW_none, errW_some] <;> rfl) | (simp [*, errW_none, errW_some] <;> rfl), by repeat (first | (with_reducible first | exact HB.out | apply below_alloc | apply pw_below_drewN | apply below_drew1) | exact HB.out)⟩
                  · replace c17 := Bool.eq_false_iff.mpr c17
                    subst c17
                    have H1 : (some true) = some r := by rw [if_neg (show ¬ (false = true) by decide)] at H; exact H
                    clear H
                    have H := H1
                    clear H1
                    obtain rfl := Option.some.inj H
                    go_wp2_with (first | ((with_reducible refine gate_callee (f := 41) rfl ?_); refine goesL_ (some 33) rfl rfl Tryd.func41 (by kernel_rfl) rfl #[.string a1, .slice A2 l2.length c2] rfl (by (try simp only [List.map_toArray, List.map_cons, List.map_nil]); first | done | rfl | (simp only [List.length_drop, List.length_take]; rfl)) ?_; (with_reducible refine (spec_NamedMany.calls kj6 a1 (fun k_ => k_ < w.heap.size) _ _ l2 t266 t267 false true _ ?side1 A12.out).mono ?_); (case side1 => exact Kd.V_mk HC2.out (Kd.F_below (Kd.C_F (Kd.heap_slice 54 k54_heap) HR2.out) (by repeat (first | (with_reducible first | exact HB.out | apply below_alloc | apply pw_below_drewN | apply below_drew1) | exact HB.out)))); rintro e w31 ⟨v268, rfl, ho0, hb⟩; refine ⟨_, rfl, ?_⟩; have n0_ := Aside0.mk (Kd.N_lower (Kd.N_mono (ok' := fun k_ => True) ho0 (fun k_ hk_ => trivial)) (below_size (by repeat (first | (with_reducible first | exact HB.out | apply below_alloc | apply pw_below_drewN | apply below_drew1) | exact HB.out)))); have n1_ := Aside0.mk (below_step (by repeat (first | (with_reducible first | exact HB.out | apply below_alloc | apply pw_below_drewN | apply below_drew1) | exact HB.out)) hb); clear HB; have HO269 := n0_; have HB := n1_; clear n0_ n1_; (try clear hb); (try clear hb2); (try clear hk); (try clear hi); (try clear ho0)) | ((with_reducible refine gate_callee (f := 24) rfl ?_); refine goesL_ (some 42) rfl rfl Tryd.func24 (by kernel_rfl) rfl #[.int .u8 a0] rfl (by (try simp only [List.map_toArray, List.map_cons, List.map_nil]); first | done | rfl | (simp only [List.length_drop, List.length_take]; rfl)) ?_; (with_reducible refine (laws_kind9.calls a0 t272 _ A14.out).mono ?_); rintro e w' ⟨rfl, ⟨nd, rfl⟩⟩; refine ⟨_, rfl, ?_⟩) | ((with_reducible refine gate_callee (f := 42) rfl ?_); refine goesL_ (some 45) rfl rfl Tryd.func42 (by kernel_rfl) rfl #[.int .i64 t272, .string a1, .slice A2 l2.length c2] rfl (by (try simp only [List.map_toArray, List.map_cons, List.map_nil]); first | done | rfl | (simp only [List.length_drop, List.length_take]; rfl)) ?_; (with_reducible refine (impl_NamedManyOf.calls t272 a1 _ _ l2 t273 t274 t275 _ (tab_at HT_.out (by repeat (first | (with_reducible first | exact HB.out | apply below_alloc | apply pw_below_drewN | apply below_drew1) | exact HB.out))) ?side1 ?side2 A15.out).mono ?_); (case side1 => repeat (first | exact (Kd.C_below HR2.out (by repeat (first | (with_reducible first | exact HB.out | apply below_alloc | apply pw_below_drewN | apply below_drew1) | exact HB.out))) | (with_reducible refine Kd.C_alloc ?_ _) | (with_reducible refine Kd.C_drewN ?_ _) | (with_reducible refine Kd.C_drew ?_))); (case side2 => exact HC2.out); rintro e w32 ⟨v276, rfl, ho0, hb⟩; refine ⟨_, rfl, ?_⟩; have n0_ := Aside0.mk (Kd.N_elder' (by (with_reducible repeat (first | apply Kd.N_alloc | apply Kd.N_drewN | apply Kd.N_drew)); exact HO269.out) (Kd.N_base (Kd.R_N ho0)) hb); have n1_ := Aside0.mk (Kd.N_lower (Kd.N_mono (ok' := fun k_ => some k_ ≠ (v268 : Value).ownBlock) (Kd.R_N (Kd.R_bound ho0)) (fun k_ hk_ => (Kd.fresh' (Kd.N_lt (by (with_reducible repeat (first | apply Kd.N_alloc | apply Kd.N_drewN | apply Kd.N_drew)); exact HO269.out)) k_ hk_.2.1))) (below_size (by repeat (first | (with_reducible first | exact HB.out | apply below_alloc | apply pw_below_drewN | apply below_drew1) | exact HB.out)))); have n2_ := Aside0.mk (below_step (by repeat (first | (with_reducible first | exact HB.out | apply below_alloc | apply pw_below_drewN | apply below_drew1) | exact HB.out)) hb); clear HO269; clear HB; have HO269 := n0_; have HO277 := n1_; have HB := n2_; clear n0_ n1_ n2_; (try clear hb); (try clear hb2); (try clear hk); (try clear hi); (try clear ho0)))
                    go_ret
                    exact ⟨by first | rfl | (simp [errW_none, errW_some] <;> rfl) | (simp [*, errW_none, errW_some] <;> rfl), by repeat (first | (with_reducible first | exact HB.out | apply below_alloc | apply pw_below_drewN | apply below_drew1) | exact HB.out)⟩
                · rw [if_neg c16] at H
                  have c16b0 : (t275 == t270) = false := by simpa using c16
                  (try (have c16b1 : decide (t275 = t270) = false := by simpa using c16))
                  (try (have c16b2 : (t275 == t270) = false := by simpa using c16))
                  (try (have c16b3 : ¬ (t275 = t270) := by simpa using c16))
                  clear c16
                  obtain rfl := Option.some.inj H
                  go_wp2_with (first | ((with_reducible refine gate_callee (f := 41) rfl ?_); refine goesL_ (some 33) rfl rfl Tryd.func41 (by kernel_rfl) rfl #[.string a1, .slice A2 l2.length c2] rfl (by (try simp only [List.map_toArray, List.map_cons, List.map_nil]); first | done | rfl | (simp only [List.length_drop, List.length_take]; rfl)) ?_; (with_reducible refine (spec_NamedMany.calls kj6 a1 (fun k_ => k_ < w.heap.size) _ _ l2 t266 t267 t270 true _ ?side1 A12.out).mono ?_); (case side1 => exact Kd.V_mk HC2.out (Kd.F_below (Kd.C_F (Kd.heap_slice 54 k54_heap) HR2.out) (by repeat (first | (with_reducible first | exact HB.out | apply below_alloc | apply pw_below_drewN | apply below_drew1) | exact HB.out)))); rintro e w33 ⟨v268, rfl, ho0, hb⟩; refine ⟨_, rfl, ?_⟩; have n0_ := Aside0.mk (Kd.N_lower (Kd.N_mono (ok' := fun k_ => True) ho0 (fun k_ hk_ => trivial)) (below_size (by repeat (first | (with_reducible first | exact HB.out | apply below_alloc | apply pw_below_drewN | apply below_drew1) | exact HB.out)))); have n1_ := Aside0.mk (below_step (by repeat (first | (with_reducible first | exact HB.out | apply below_alloc | apply pw_below_drewN | apply below_drew1) | exact HB.out)) hb); clear HB; have HO269 := n0_; have HB := n1_; clear n0_ n1_; (try clear hb); (try clear hb2); (try clear hk); (try clear hi); (try clear ho0)) | ((with_reducible refine gate_callee (f := 24) rfl ?_); refine goesL_ (some 42) rfl rfl Tryd.func24 (by kernel_rfl) rfl #[.int .u8 a0] rfl (by (try simp only [List.map_toArray, List.map_cons, List.map_nil]); first | done | rfl | (simp only [List.length_drop, List.length_take]; rfl)) ?_; (with_reducible refine (laws_kind9.calls a0 t272 _ A14.out).mono ?_); rintro e w' ⟨rfl, ⟨nd, rfl⟩⟩; refine ⟨_, rfl, ?_⟩) | ((with_reducible refine gate_callee (f := 42) rfl ?_); refine goesL_ (some 45) rfl rfl Tryd.func42 (by kernel_rfl) rfl #[.int .i64 t272, .string a1, .slice A2 l2.length c2] rfl (by (try simp only [List.map_toArray, List.map_cons, List.map_nil]); first | done | rfl | (simp only [List.length_drop, List.length_take]; rfl)) ?_; (with_reducible refine (impl_NamedManyOf.calls t272 a1 _ _ l2 t273 t274 t275 _ (tab_at HT_.out (by repeat (first | (with_reducible first | exact HB.out | apply below_alloc | apply pw_below_drewN | apply below_drew1) | exact HB.out))) ?side1 ?side2 A15.out).mono ?_); (case side1 => repeat (first | exact (Kd.C_below HR2.out (by repeat (first | (with_reducible first | exact HB.out | apply below_alloc | apply pw_below_drewN | apply below_drew1) | exact HB.out))) | (with_reducible refine Kd.C_alloc ?_ _) | (with_reducible refine Kd.C_drewN ?_ _) | (with_reducible refine Kd.C_drew ?_))); (case side2 => exact HC2.out); rintro e w34 ⟨v276, rfl, ho0, hb⟩; refine ⟨_, rfl, ?_⟩; have n0_ := Aside0.mk (Kd.N_elder' (by (with_reducible repeat (first | apply Kd.N_alloc | apply Kd.N_drewN | apply Kd.N_drew)); exact HO269.out) (Kd.N_base (Kd.R_N ho0)) hb); have n1_ := Aside0.mk (Kd.N_lower (Kd.N_mono (ok' := fun k_ => some k_ ≠ (v268 : Value).ownBlock) (Kd.R_N (Kd.R_bound ho0)) (fun k_ hk_ => (Kd.fresh' (Kd.N_lt (by (with_reducible repeat (first | apply Kd.N_alloc | apply Kd.N_drewN | apply Kd.N_drew)); exact HO269.out)) k_ hk_.2.1))) (below_size (by repeat (first | (with_reducible first | exact HB.out | apply below_alloc | apply pw_below_drewN | apply below_drew1) | exact HB.out)))); have n2_ := Aside0.mk (below_step (by repeat (first | (with_reducible first | exact HB.out | apply below_alloc | apply pw_below_drewN | apply below_drew1) | exact HB.out)) hb); clear HO269; clear HB; have HO269 := n0_; have HO277 := n1_; have HB := n2_; clear n0_ n1_ n2_; (try clear hb); (try clear hb2); (try clear hk); (try clear hi); (try clear ho0)))
                  go_ret
                  exact ⟨by first | rfl | (simp [errW_none, errW_some] <;> rfl) | (simp [*, errW_none, errW_some] <;> rfl), by repeat (first | (with_reducible first | exact HB.out | apply below_alloc | apply pw_below_drewN | apply below_drew1) | exact HB.out)⟩
              · replace c13 := Bool.eq_false_iff.mpr c13
                subst c13
                have H1 : (some true) = some r := by rw [if_neg (show ¬ (false = true) by decide)] at H; exact H
                clear H
                have H := H1
                clear H1
                obtain rfl := Option.some.inj H
                go_wp2_with (first | ((with_reducible refine gate_callee (f := 41) rfl ?_); refine goesL_ (some 33) rfl rfl Tryd.func41 (by kernel_rfl) rfl #[.string a1, .slice A2 l2.length c2] rfl (by (try simp only [List.map_toArray, List.map_cons, List.map_nil]); first | done | rfl | (simp only [List.length_drop, List.length_take]; rfl)) ?_; (with_reducible refine (spec_NamedMany.calls kj6 a1 (fun k_ => k_ < w.heap.size) _ _ l2 t266 t267 t270 false _ ?side1 A12.out).mono ?_); (case side1 => exact Kd.V_mk HC2.out (Kd.F_below (Kd.C_F (Kd.heap_slice 54 k54_heap) HR2.out) (by repeat (first | (with_reducible first | exact HB.out | apply below_alloc | apply pw_below_drewN | apply below_drew1) | exact HB.out)))); rintro e w35 ⟨v268, rfl, ho0, hb⟩; refine ⟨_, rfl, ?_⟩; have n0_ := Aside0.mk (Kd.N_lower (Kd.N_mono (ok' := fun k_ => True) ho0 (fun k_ hk_ => trivial)) (below_size (by repeat (first | (with_reducible first | exact HB.out | apply below_alloc | apply pw_below_drewN | apply below_drew1) | exact HB.out)))); have n1_ := Aside0.mk (below_step (by repeat (first | (with_reducible first | exact HB.out | apply below_alloc | apply pw_below_drewN | apply below_drew1) | exact HB.out)) hb); clear HB; have HO269 := n0_; have HB := n1_; clear n0_ n1_; (try clear hb); (try clear hb2); (try clear hk); (try clear hi); (try clear ho0)))
                go_ret
                exact ⟨by first | rfl | (simp [errW_none, errW_some] <;> rfl) | (simp [*, errW_none, errW_some] <;> rfl), by repeat (first | (with_reducible first | exact HB.out | apply below_alloc | apply pw_below_drewN | apply below_drew1) | exact HB.out)⟩

/-! ### impl_NamedMany: function 43 -/
def impl_NamedMany.f (a0 : ByteArray) (l1 : List (List (S54))) : Option (ByteArray × (List (S52)) × Bool) := (impl_NamedManyOf.f 1 a0 l1).bind fun bt281 => (some (bt281.1, bt281.2.1, bt281.2.2))
set_option maxHeartbeats 8000000 in
set_option maxRecDepth 100000 in
theorem impl_NamedMany.calls (a0 : ByteArray) (A1 : Option Addr) (c1 : Nat) (l1 : List (List (S54))) (r1 : ByteArray) (r2 : List (S52)) (r3 : Bool) (w : World) (ht_ : Tab w) (hr1 : Kd.C (Kd.slice 54 k54) w A1 l1.length l1) (hc1 : l1.length ≤ c1) (h : impl_NamedMany.f a0 l1 = some (r1, r2, r3)) :
    Calls Tryd.prog 43 #[.string a0, .slice A1 l1.length c1] w fun e w' => ∃ v1_ : Value, e = .returned (.tuple #[.string r1, v1_, .bool r3]) ∧ Kd.R k52 52 w' w.heap.size (fun _ => True) v1_ r2 ∧ Below w.heap.size w w' := by
  have HR1 := Aside0.mk hr1
  have HC1 := Aside0.mk hc1
  clear hr1 hc1
  have HB := Aside0.mk (Below.refl w.heap.size w)
  have HT_ := Aside0.mk (tab_below ht_)
  clear ht_
  have H : ((impl_NamedManyOf.f 1 a0 l1).bind fun bt281 => (some (bt281.1, bt281.2.1, bt281.2.2))) = some (r1, r2, r3) := h
  clear h
  replace H := Option.bind_eq_some_iff.mp H
  obtain ⟨⟨t281, t282, t283⟩, A30, H⟩ := H
  replace H : (some (t281, t282, t283)) = some (r1, r2, r3) := H
  have A3 := Aside0.mk A30
  clear A30
  simp only [Option.some.injEq, Prod.mk.injEq] at H
  obtain ⟨rfl, rfl, rfl⟩ := H
  go_enter Tryd.func43, Tryd.ntmps43
  go_wp2_with (first | ((with_reducible refine gate_callee (f := 42) rfl ?_); refine goesL_ (some 9) rfl rfl Tryd.func42 (by kernel_rfl) rfl #[.int .i64 1, .string a0, .slice A1 l1.length c1] rfl (by (try simp only [List.map_toArray, List.map_cons, List.map_nil]); first | done | rfl | (simp only [List.length_drop, List.length_take]; rfl)) ?_; (with_reducible refine (impl_NamedManyOf.calls 1 a0 _ _ l1 t281 t282 t283 _ (tab_at HT_.out (by repeat (first | (with_reducible first | exact HB.out | apply below_alloc | apply pw_below_drewN | apply below_drew1) | exact HB.out))) ?side1 ?side2 A3.out).mono ?_); (case side1 => repeat (first | exact HR1.out | (with_reducible refine Kd.C_alloc ?_ _) | (with_reducible refine Kd.C_drewN ?_ _) | (with_reducible refine Kd.C_drew ?_))); (case side2 => exact HC1.out); rintro e w4 ⟨v284, rfl, ho0, hb⟩; refine ⟨_, rfl, ?_⟩; have n0_ := Aside0.mk (Kd.R_lower ho0 (below_size (by repeat (first | (with_reducible first | exact HB.out | apply below_alloc | apply pw_below_drewN | apply below_drew1) | exact HB.out)))); have n1_ := Aside0.mk (below_step (by repeat (first | (with_reducible first | exact HB.out | apply below_alloc | apply pw_below_drewN | apply below_drew1) | exact HB.out)) hb); clear HB; have HO285 := n0_; have HB := n1_; clear n0_ n1_; (try clear hb); (try clear hb2); (try clear hk); (try clear hi); (try clear ho0)))
  go_ret3
  exact ⟨_, by first | rfl | (simp [errW_none, errW_some] <;> rfl) | (simp [*, errW_none, errW_some] <;> rfl), by (with_reducible repeat (first | apply Kd.R_alloc | apply Kd.R_drewN | apply Kd.R_drew)); exact HO285.out, by repeat (first | (with_reducible first | exact HB.out | apply below_alloc | apply pw_below_drewN | apply below_drew1) | exact HB.out)⟩

end Go.Proofs.YtnmhoghmhglimaaDoor.QN
