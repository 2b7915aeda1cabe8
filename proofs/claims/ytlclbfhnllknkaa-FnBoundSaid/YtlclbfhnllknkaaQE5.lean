-- WRITTEN BY A PROGRAM OF THIS SESSION (wip/print2.py): the print, with contracts of this session's own let in. Not trusted: Lean checks it.
import Derived.Test.YtlclbfhnllknkaaQE0
import Derived.Test.YtlclbfhnllknkaaQE1
import Derived.Test.YtlclbfhnllknkaaQE3
import Derived.Test.YtlclbfhnllknkaaQE4
import Derived.Test.YtlclbfhnllknkaaHBound
import Derived.Test.YtlclbfhnllknkaaHEqual
namespace Go.Proofs.Ytlclbfhnllknkaa.QE
open Go.RowKit Go.Proofs.YtlclbfhnllknkaaW.PrintWords Go.Proofs.YtlclbfhnllknkaaW.PrintLast Go.Proofs.YtlclbfhnllknkaaW.PrintMore
attribute [local go_sem] max2_int min2_int max_two min_two max_three min_three max_four min_four   -- for this text's walks alone
set_option linter.unusedVariables false
set_option linter.unusedSimpArgs false

open Go.Proofs.Ytlclbfhnllknkaa.H
/-! ### laws_FnBound: function 3 -/
mutual
def laws_FnBound.j0 : Nat → List ByteArray → List (S41) → Bool → Option (Bool)
  | 0, _, _, _ => none
  | k + 1, x0, x1, x16 => if x16 = true then (some true) else (if (x0.length : Int) > 50 then (laws_FnBound.j1 k x0 x1 true) else ((spec_ArgsRight.f k x1).bind fun t120 => (laws_FnBound.j1 k x0 x1 (!t120))))
def laws_FnBound.j1 : Nat → List ByteArray → List (S41) → Bool → Option (Bool)
  | 0, _, _, _ => none
  | k + 1, x0, x1, x24 => if x24 = true then (some true) else ((spec_ValuesOf.f k x0 x1).bind fun bt121 => ((impl_Bound.f x0 x1).bind fun bt125 => (if (bt125.2 == bt121.2) = true then (if bt121.2 = true then ((spec_EqualValues.f bt125.1 bt121.1).bind fun t129 => (some t129)) else (some true)) else (some false))))
end
def laws_FnBound.f (k : Nat) (l0 : List ByteArray) (l1 : List (S41)) : Option (Bool) := (laws_zzFits1.f k l0).bind fun t119 => (if t119 = true then (laws_FnBound.j0 k l0 l1 (decide ((l1.length : Int) > 2147483647))) else (laws_FnBound.j0 k l0 l1 true))
theorem laws_FnBound.mono_l : ∀ k, (∀ y0 y1 y2, LeO (laws_FnBound.j0 k y0 y1 y2) (laws_FnBound.j0 (k + 1) y0 y1 y2)) ∧ (∀ y0 y1 y2, LeO (laws_FnBound.j1 k y0 y1 y2) (laws_FnBound.j1 (k + 1) y0 y1 y2))
  | 0 => ⟨fun _ _ _ r h => by simp [laws_FnBound.j0] at h, fun _ _ _ r h => by simp [laws_FnBound.j1] at h⟩
  | k + 1 => by
    obtain ⟨ih0, ih1⟩ := laws_FnBound.mono_l k
    refine ⟨?_, ?_⟩
    · intro y0 y1 y2
      unfold laws_FnBound.j0
      repeat' first
      | (with_reducible exact ih0 _ _ _)
      | (with_reducible exact ih1 _ _ _)
      | (with_reducible exact laws_zzFits1.mono _ _)
      | (with_reducible exact spec_ArgsRight.mono _ _)
      | (with_reducible exact spec_ValuesOf.mono _ _ _)
      | (with_reducible exact LeO.refl _)
      | (with_reducible exact LeO.none _)
      | (with_reducible refine LeO.ite ?_ ?_)
      | (with_reducible refine LeO.bind ?_ (fun _ => ?_))
      | exact ih0 _ _ _
      | exact ih1 _ _ _
      | exact laws_zzFits1.mono _ _
      | exact spec_ArgsRight.mono _ _
      | exact spec_ValuesOf.mono _ _ _
      | exact LeO.none _
      | refine LeO.ite ?_ ?_
      | refine LeO.bind ?_ (fun _ => ?_)
    · intro y0 y1 y2
      unfold laws_FnBound.j1
      repeat' first
      | (with_reducible exact ih0 _ _ _)
      | (with_reducible exact ih1 _ _ _)
      | (with_reducible exact laws_zzFits1.mono _ _)
      | (with_reducible exact spec_ArgsRight.mono _ _)
      | (with_reducible exact spec_ValuesOf.mono _ _ _)
      | (with_reducible exact LeO.refl _)
      | (with_reducible exact LeO.none _)
      | (with_reducible refine LeO.ite ?_ ?_)
      | (with_reducible refine LeO.bind ?_ (fun _ => ?_))
      | exact ih0 _ _ _
      | exact ih1 _ _ _
      | exact laws_zzFits1.mono _ _
      | exact spec_ArgsRight.mono _ _
      | exact spec_ValuesOf.mono _ _ _
      | exact LeO.none _
      | refine LeO.ite ?_ ?_
      | refine LeO.bind ?_ (fun _ => ?_)
theorem laws_FnBound.mono : ∀ a0 a1 k, LeO (laws_FnBound.f k a0 a1) (laws_FnBound.f (k + 1) a0 a1) := by
  intro a0 a1 k
  obtain ⟨ih0, ih1⟩ := laws_FnBound.mono_l k
  unfold laws_FnBound.f
  repeat' first
      | (with_reducible exact ih0 _ _ _)
      | (with_reducible exact ih1 _ _ _)
      | (with_reducible exact laws_zzFits1.mono _ _)
      | (with_reducible exact spec_ArgsRight.mono _ _)
      | (with_reducible exact spec_ValuesOf.mono _ _ _)
      | (with_reducible exact LeO.refl _)
      | (with_reducible exact LeO.none _)
      | (with_reducible refine LeO.ite ?_ ?_)
      | (with_reducible refine LeO.bind ?_ (fun _ => ?_))
      | exact ih0 _ _ _
      | exact ih1 _ _ _
      | exact laws_zzFits1.mono _ _
      | exact spec_ArgsRight.mono _ _
      | exact spec_ValuesOf.mono _ _ _
      | exact LeO.none _
      | refine LeO.ite ?_ ?_
      | refine LeO.bind ?_ (fun _ => ?_)
set_option maxHeartbeats 8000000 in
set_option maxRecDepth 100000 in
theorem laws_FnBound.calls (k : Nat) (A0 : Option Addr) (c0 : Nat) (l0 : List ByteArray) (A1 : Option Addr) (c1 : Nat) (l1 : List (S41)) (r : Bool) (w : World) (hr0 : Kd.C Kd.string w A0 l0.length l0) (hc0 : l0.length ≤ c0) (hr1 : Kd.C k41 w A1 l1.length l1) (hc1 : l1.length ≤ c1) (h : laws_FnBound.f k l0 l1 = some r) :
    Calls Try.prog 3 #[.slice A0 l0.length c0, .slice A1 l1.length c1] w fun e w' => e = .returned (.bool r) ∧ Below w.heap.size w w' := by
  have HR0 := Aside0.mk hr0
  have HC0 := Aside0.mk hc0
  clear hr0 hc0
  have HR1 := Aside0.mk hr1
  have HC1 := Aside0.mk hc1
  clear hr1 hc1
  have HB := Aside0.mk (Below.refl w.heap.size w)
  have H : ((laws_zzFits1.f k l0).bind fun t119 => (if t119 = true then (laws_FnBound.j0 k l0 l1 (decide ((l1.length : Int) > 2147483647))) else (laws_FnBound.j0 k l0 l1 true))) = some r := h
  clear h
  have HC3 := Aside0.mk H
  clear H
  go_enter Try.func3, Try.ntmps3
  go_upto_region 1 with (fail)
  go_cut [16] (fun v16 wc => ∃ (kq : Nat) (x16_2 : Bool), v16 = .bool x16_2 ∧ Aside0 (laws_FnBound.j0 kq l0 l1 x16_2 = some r) ∧ Aside0 (kq ≤ k) ∧ Aside0 (Below w.heap.size w wc))
  case first =>
    have H := HC3.out
    clear HC3
    replace H := Option.bind_eq_some_iff.mp H
    obtain ⟨t119, A40, H⟩ := H
    replace H : (if t119 = true then (laws_FnBound.j0 k l0 l1 (decide ((l1.length : Int) > 2147483647))) else (laws_FnBound.j0 k l0 l1 true)) = some r := H
    have A4 := Aside0.mk A40
    clear A40
    by_cases c5 : t119 = true
    · subst c5
      have H1 : (laws_FnBound.j0 k l0 l1 (decide ((l1.length : Int) > 2147483647))) = some r := by rw [if_pos rfl] at H; exact H
      clear H
      have H := H1
      clear H1
      have H' := Aside0.mk H
      clear H
      go_wp2_with (first | ((with_reducible refine gate_callee (f := 7) rfl ?_); refine goesL_ (some 10) rfl rfl Try.func7 (by kernel_rfl) rfl #[.slice A0 l0.length c0] rfl (by (try simp only [List.map_toArray, List.map_cons, List.map_nil]); first | done | rfl | (simp only [List.length_drop, List.length_take]; rfl)) ?_; (with_reducible refine (laws_zzFits1.calls k _ _ l0 true _ ?side1 ?side2 A4.out).mono ?_); (case side1 => repeat (first | exact (Kd.C_below HR0.out HB.out) | (with_reducible refine Kd.C_alloc ?_ _) | (with_reducible refine Kd.C_drewN ?_ _) | (with_reducible refine Kd.C_drew ?_))); (case side2 => exact HC0.out); rintro e w' ⟨rfl, ⟨nd, rfl⟩⟩; refine ⟨_, rfl, ?_⟩))
      go_meet
      case rel => exact ⟨_, (decide ((l1.length : Int) > 2147483647)), (by first | rfl | (simp; done) | (simp [*]; done)), H', ⟨by first | omega | exact Nat.le_refl _⟩, ⟨by repeat (first | (with_reducible first | exact HB.out | apply below_alloc | apply pw_below_drewN | apply below_drew1) | exact HB.out)⟩⟩
    · replace c5 := Bool.eq_false_iff.mpr c5
      subst c5
      have H1 : (laws_FnBound.j0 k l0 l1 true) = some r := by rw [if_neg (show ¬ (false = true) by decide)] at H; exact H
      clear H
      have H := H1
      clear H1
      have H' := Aside0.mk H
      clear H
      go_wp2_with (first | ((with_reducible refine gate_callee (f := 7) rfl ?_); refine goesL_ (some 10) rfl rfl Try.func7 (by kernel_rfl) rfl #[.slice A0 l0.length c0] rfl (by (try simp only [List.map_toArray, List.map_cons, List.map_nil]); first | done | rfl | (simp only [List.length_drop, List.length_take]; rfl)) ?_; (with_reducible refine (laws_zzFits1.calls k _ _ l0 false _ ?side1 ?side2 A4.out).mono ?_); (case side1 => repeat (first | exact (Kd.C_below HR0.out HB.out) | (with_reducible refine Kd.C_alloc ?_ _) | (with_reducible refine Kd.C_drewN ?_ _) | (with_reducible refine Kd.C_drew ?_))); (case side2 => exact HC0.out); rintro e w' ⟨rfl, ⟨nd, rfl⟩⟩; refine ⟨_, rfl, ?_⟩))
      go_meet
      case rel => exact ⟨_, (true), (by first | rfl | (simp; done) | (simp [*]; done)), H', ⟨by first | omega | exact Nat.le_refl _⟩, ⟨by repeat (first | (with_reducible first | exact HB.out | apply below_alloc | apply pw_below_drewN | apply below_drew1) | exact HB.out)⟩⟩
  case rest =>
    clear HC3
    try clear c1
    try clear p2
    try clear c3
    try clear c5
    obtain ⟨kq, x16_2, rfl, HA, HJ2, HB⟩ := hcut
    cases kq with
    | zero => exact absurd HA.out (by simp [laws_FnBound.j0])
    | succ kj2 =>
      have H := HA.out
      clear HA
      simp only [laws_FnBound.j0] at H
      by_cases c6 : x16_2 = true
      · subst c6
        have H1 : (some true) = some r := by rw [if_pos rfl] at H; exact H
        clear H
        have H := H1
        clear H1
        obtain rfl := Option.some.inj H
        go_wp2
        go_ret
        exact ⟨by first | rfl | (simp [errW_none, errW_some] <;> rfl) | (simp [*, errW_none, errW_some] <;> rfl), by repeat (first | (with_reducible first | exact HB.out | apply below_alloc | apply pw_below_drewN | apply below_drew1) | exact HB.out)⟩
      · replace c6 := Bool.eq_false_iff.mpr c6
        subst c6
        have H1 : (if (l0.length : Int) > 50 then (laws_FnBound.j1 kj2 l0 l1 true) else ((spec_ArgsRight.f kj2 l1).bind fun t120 => (laws_FnBound.j1 kj2 l0 l1 (!t120)))) = some r := by rw [if_neg (show ¬ (false = true) by decide)] at H; exact H
        clear H
        have H := H1
        clear H1
        have HC7 := Aside0.mk H
        clear H
        go_upto_region 3 with (fail)
        go_cut [24] (fun v24 wc => ∃ (kq : Nat) (x24_6 : Bool), v24 = .bool x24_6 ∧ Aside0 (laws_FnBound.j1 kq l0 l1 x24_6 = some r) ∧ Aside0 (kq ≤ kj2) ∧ Aside0 (Below w.heap.size w wc))
        case first =>
          have H := HC7.out
          clear HC7
          by_cases c8 : (l0.length : Int) > 50
          · rw [if_pos c8] at H
            have c8b0 : decide (50 < (l0.length : Int)) = true := decide_eq_true c8
            have c8b1 : decide (50 < l0.length) = true := decide_eq_true (by omega)
            clear c8
            (first | rw [c8b0] | (simp only [i64_w, i32_w]; rw [c8b0]) | skip)
            have H' := Aside0.mk H
            clear H
            go_wp2
            go_meet
            case rel => exact ⟨_, (true), (by first | rfl | (simp; done) | (simp [*]; done)), H', ⟨by have := HJ2.out; first | omega | exact Nat.le_refl _⟩, ⟨by repeat (first | (with_reducible first | exact HB.out | apply below_alloc | apply pw_below_drewN | apply below_drew1) | exact HB.out)⟩⟩
          · rw [if_neg c8] at H
            have c8b0 : decide (50 < (l0.length : Int)) = false := decide_eq_false c8
            have c8b1 : decide (50 < l0.length) = false := decide_eq_false (by omega)
            clear c8
            (first | rw [c8b0] | (simp only [i64_w, i32_w]; rw [c8b0]) | skip)
            replace H := Option.bind_eq_some_iff.mp H
            obtain ⟨t120, A90, H⟩ := H
            replace H : (laws_FnBound.j1 kj2 l0 l1 (!t120)) = some r := H
            have A9 := Aside0.mk A90
            clear A90
            have H' := Aside0.mk H
            clear H
            go_wp2_with (first | (go_at_call 8; (with_reducible refine (spec_ArgsRight.calls kj2 _ _ l1 t120 _ ?side1 ?side2 A9.out).mono ?_); (case side1 => repeat (first | exact (Kd.C_below HR1.out HB.out) | (with_reducible refine Kd.C_alloc ?_ _) | (with_reducible refine Kd.C_drewN ?_ _) | (with_reducible refine Kd.C_drew ?_))); (case side2 => exact HC1.out); rintro e w10 ⟨rfl, hb⟩; have n0_ := Aside0.mk (below_step (by repeat (first | (with_reducible first | exact HB.out | apply below_alloc | apply pw_below_drewN | apply below_drew1) | exact HB.out)) hb); clear HB; have HB := n0_; clear n0_; (try clear hb); (try clear hb2); (try clear hk); (try clear hi)))
            go_meet
            case rel => exact ⟨_, (!t120), (by first | rfl | (simp; done) | (simp [*]; done)), H', ⟨by have := HJ2.out; first | omega | exact Nat.le_refl _⟩, ⟨by repeat (first | (with_reducible first | exact HB.out | apply below_alloc | apply pw_below_drewN | apply below_drew1) | exact HB.out)⟩⟩
        case rest =>
          clear HC7
          try clear c1
          try clear p2
          try clear c3
          try clear c5
          try clear c6
          try clear c7
          try clear c8
          try clear c8b0
          try clear c8b1
          try clear p2
          obtain ⟨kq, x24_6, rfl, HA, HJ6, HB⟩ := hcut
          cases kq with
          | zero => exact absurd HA.out (by simp [laws_FnBound.j1])
          | succ kj6 =>
            have H := HA.out
            clear HA
            simp only [laws_FnBound.j1] at H
            by_cases c11 : x24_6 = true
            · subst c11
              have H1 : (some true) = some r := by rw [if_pos rfl] at H; exact H
              clear H
              have H := H1
              clear H1
              obtain rfl := Option.some.inj H
              go_wp2
              go_ret
              exact ⟨by first | rfl | (simp [errW_none, errW_some] <;> rfl) | (simp [*, errW_none, errW_some] <;> rfl), by repeat (first | (with_reducible first | exact HB.out | apply below_alloc | apply pw_below_drewN | apply below_drew1) | exact HB.out)⟩
            · replace c11 := Bool.eq_false_iff.mpr c11
              subst c11
              have H1 : ((spec_ValuesOf.f kj6 l0 l1).bind fun bt121 => ((impl_Bound.f l0 l1).bind fun bt125 => (if (bt125.2 == bt121.2) = true then (if bt121.2 = true then ((spec_EqualValues.f bt125.1 bt121.1).bind fun t129 => (some t129)) else (some true)) else (some false)))) = some r := by rw [if_neg (show ¬ (false = true) by decide)] at H; exact H
              clear H
              have H := H1
              clear H1
              replace H := Option.bind_eq_some_iff.mp H
              obtain ⟨⟨t121, t124⟩, A120, H⟩ := H
              replace H : ((impl_Bound.f l0 l1).bind fun bt125 => (if (bt125.2 == t124) = true then (if t124 = true then ((spec_EqualValues.f bt125.1 t121).bind fun t129 => (some t129)) else (some true)) else (some false))) = some r := H
              have A12 := Aside0.mk A120
              clear A120
              replace H := Option.bind_eq_some_iff.mp H
              obtain ⟨⟨t125, t126⟩, A130, H⟩ := H
              replace H : (if (t126 == t124) = true then (if t124 = true then ((spec_EqualValues.f t125 t121).bind fun t129 => (some t129)) else (some true)) else (some false)) = some r := H
              have A13 := Aside0.mk A130
              clear A130
              by_cases c14 : (t126 == t124) = true
              · rw [if_pos c14] at H
                have c14b0 : (t126 == t124) = true := c14
                (try (have c14b1 : decide (t126 = t124) = true := by simpa using c14))
                (try (have c14b2 : (t126 == t124) = true := by simpa using c14))
                clear c14
                by_cases c15 : t124 = true
                · subst c15
                  have H1 : ((spec_EqualValues.f t125 t121).bind fun t129 => (some t129)) = some r := by rw [if_pos rfl] at H; exact H
                  clear H
                  have H := H1
                  clear H1
                  replace H := Option.bind_eq_some_iff.mp H
                  obtain ⟨t129, A160, H⟩ := H
                  replace H : (some t129) = some r := H
                  have A16 := Aside0.mk A160
                  clear A160
                  obtain rfl := Option.some.inj H
                  go_wp2_with (first | ((with_reducible refine gate_callee (f := 9) rfl ?_); refine goesL_ (some 28) rfl rfl Try.func9 (by kernel_rfl) rfl #[.slice A0 l0.length c0, .slice A1 l1.length c1] rfl (by (try simp only [List.map_toArray, List.map_cons, List.map_nil]); first | done | rfl | (simp only [List.length_drop, List.length_take]; rfl)) ?_; (with_reducible refine (spec_ValuesOf.calls kj6 _ _ l0 (fun k_ => k_ < w.heap.size) _ _ l1 t121 true _ ?side1 ?side2 ?side3 A12.out).mono ?_); (case side1 => repeat (first | exact (Kd.C_below HR0.out HB.out) | (with_reducible refine Kd.C_alloc ?_ _) | (with_reducible refine Kd.C_drewN ?_ _) | (with_reducible refine Kd.C_drew ?_))); (case side2 => exact HC0.out); (case side3 => exact Kd.V_mk HC1.out (Kd.F_below (Kd.C_F k41_heap HR1.out) (by repeat (first | (with_reducible first | exact HB.out | apply below_alloc | apply pw_below_drewN | apply below_drew1) | exact HB.out)))); rintro e w17 ⟨v122, rfl, ho0, hb⟩; refine ⟨_, rfl, ?_⟩; have n0_ := Aside0.mk (Kd.N_lower (Kd.N_mono (ok' := fun k_ => True) ho0 (fun k_ hk_ => trivial)) (below_size (by repeat (first | (with_reducible first | exact HB.out | apply below_alloc | apply pw_below_drewN | apply below_drew1) | exact HB.out)))); have n1_ := Aside0.mk (below_step (by repeat (first | (with_reducible first | exact HB.out | apply below_alloc | apply pw_below_drewN | apply below_drew1) | exact HB.out)) hb); clear HB; have HO123 := n0_; have HB := n1_; clear n0_ n1_; (try clear hb); (try clear hb2); (try clear hk); (try clear hi); (try clear ho0)) | ((with_reducible refine gate_callee (f := 10) rfl ?_); refine goesL_ (some 34) rfl rfl Try.func10 (by kernel_rfl) rfl #[.slice A0 l0.length c0, .slice A1 l1.length c1] rfl (by (try simp only [List.map_toArray, List.map_cons, List.map_nil]); first | done | rfl | (simp only [List.length_drop, List.length_take]; rfl)) ?_; (with_reducible refine (impl_Bound.calls _ _ l0 _ _ l1 t125 t126 _ ?side1 ?side2 ?side3 ?side4 A13.out).mono ?_); (case side1 => repeat (first | exact (Kd.C_below HR0.out HB.out) | (with_reducible refine Kd.C_alloc ?_ _) | (with_reducible refine Kd.C_drewN ?_ _) | (with_reducible refine Kd.C_drew ?_))); (case side2 => exact HC0.out); (case side3 => repeat (first | exact (Kd.C_below HR1.out HB.out) | (with_reducible refine Kd.C_alloc ?_ _) | (with_reducible refine Kd.C_drewN ?_ _) | (with_reducible refine Kd.C_drew ?_))); (case side4 => exact HC1.out); rintro e w18 ⟨v127, rfl, ho0, hb⟩; refine ⟨_, rfl, ?_⟩; have n0_ := Aside0.mk (Kd.N_elder' (by (with_reducible repeat (first | apply Kd.N_alloc | apply Kd.N_drewN | apply Kd.N_drew)); exact HO123.out) (Kd.N_base (Kd.R_N ho0)) hb); have n1_ := Aside0.mk (Kd.N_lower (Kd.N_mono (ok' := fun k_ => some k_ ≠ (v122 : Value).ownBlock) (Kd.R_N (Kd.R_bound ho0)) (fun k_ hk_ => (Kd.fresh' (Kd.N_lt (by (with_reducible repeat (first | apply Kd.N_alloc | apply Kd.N_drewN | apply Kd.N_drew)); exact HO123.out)) k_ hk_.2.1))) (below_size (by repeat (first | (with_reducible first | exact HB.out | apply below_alloc | apply pw_below_drewN | apply below_drew1) | exact HB.out)))); have n2_ := Aside0.mk (below_step (by repeat (first | (with_reducible first | exact HB.out | apply below_alloc | apply pw_below_drewN | apply below_drew1) | exact HB.out)) hb); clear HO123; clear HB; have HO123 := n0_; have HO128 := n1_; have HB := n2_; clear n0_ n1_ n2_; (try clear hb); (try clear hb2); (try clear hk); (try clear hi); (try clear ho0); obtain ⟨Ao19, co19, eo19⟩ := Kd.N_slice HO128.out; subst eo19; obtain ⟨Ao20, co20, eo20⟩ := Kd.N_slice HO123.out; subst eo20) | (go_at_call 11; (with_reducible refine (spec_EqualValues.calls _ _ t125 _ _ t121 t129 _ ?side1 ?side2 ?side3 ?side4 A16.out).mono ?_); (case side1 => repeat (first | exact (Kd.N_reads' HO128.out).2.2 | (with_reducible refine Kd.C_alloc ?_ _) | (with_reducible refine Kd.C_drewN ?_ _) | (with_reducible refine Kd.C_drew ?_))); (case side2 => exact (Kd.N_reads' HO128.out).2.1); (case side3 => repeat (first | exact (Kd.N_reads' HO123.out).2.2 | (with_reducible refine Kd.C_alloc ?_ _) | (with_reducible refine Kd.C_drewN ?_ _) | (with_reducible refine Kd.C_drew ?_))); (case side4 => exact (Kd.N_reads' HO123.out).2.1); rintro e w21 ⟨rfl, hb⟩; have n0_ := Aside0.mk (Kd.N_below (by (with_reducible repeat (first | apply Kd.N_alloc | apply Kd.N_drewN | apply Kd.N_drew)); exact HO123.out) hb); have n1_ := Aside0.mk (Kd.N_below (by (with_reducible repeat (first | apply Kd.N_alloc | apply Kd.N_drewN | apply Kd.N_drew)); exact HO128.out) hb); have n2_ := Aside0.mk (below_step (by repeat (first | (with_reducible first | exact HB.out | apply below_alloc | apply pw_below_drewN | apply below_drew1) | exact HB.out)) hb); clear HO123; clear HO128; clear HB; have HO123 := n0_; have HO128 := n1_; have HB := n2_; clear n0_ n1_ n2_; (try clear hb); (try clear hb2); (try clear hk); (try clear hi)))
                  go_ret
                  exact ⟨by first | rfl | (simp [errW_none, errW_some] <;> rfl) | (simp [*, errW_none, errW_some] <;> rfl), by repeat (first | (with_reducible first | exact HB.out | apply below_alloc | apply pw_below_drewN | apply below_drew1) | exact HB.out)⟩
                · replace c15 := Bool.eq_false_iff.mpr c15
                  subst c15
                  have H1 : (some true) = some r := by rw [if_neg (show ¬ (false = true) by decide)] at H; exact H
                  clear H
                  have H := H1
                  clear H1
                  obtain rfl := Option.some.inj H
                  go_wp2_with (first | ((with_reducible refine gate_callee (f := 9) rfl ?_); refine goesL_ (some 28) rfl rfl Try.func9 (by kernel_rfl) rfl #[.slice A0 l0.length c0, .slice A1 l1.length c1] rfl (by (try simp only [List.map_toArray, List.map_cons, List.map_nil]); first | done | rfl | (simp only [List.length_drop, List.length_take]; rfl)) ?_; (with_reducible refine (spec_ValuesOf.calls kj6 _ _ l0 (fun k_ => k_ < w.heap.size) _ _ l1 t121 false _ ?side1 ?side2 ?side3 A12.out).mono ?_); (case side1 => repeat (first | exact (Kd.C_below HR0.out HB.out) | (with_reducible refine Kd.C_alloc ?_ _) | (with_reducible refine Kd.C_drewN ?_ _) | (with_reducible refine Kd.C_drew ?_))); (case side2 => exact HC0.out); (case side3 => exact Kd.V_mk HC1.out (Kd.F_below (Kd.C_F k41_heap HR1.out) (by repeat (first | (with_reducible first | exact HB.out | apply below_alloc | apply pw_below_drewN | apply below_drew1) | exact HB.out)))); rintro e w22 ⟨v122, rfl, ho0, hb⟩; refine ⟨_, rfl, ?_⟩; have n0_ := Aside0.mk (Kd.N_lower (Kd.N_mono (ok' := fun k_ => True) ho0 (fun k_ hk_ => trivial)) (below_size (by repeat (first | (with_reducible first | exact HB.out | apply below_alloc | apply pw_below_drewN | apply below_drew1) | exact HB.out)))); have n1_ := Aside0.mk (below_step (by repeat (first | (with_reducible first | exact HB.out | apply below_alloc | apply pw_below_drewN | apply below_drew1) | exact HB.out)) hb); clear HB; have HO123 := n0_; have HB := n1_; clear n0_ n1_; (try clear hb); (try clear hb2); (try clear hk); (try clear hi); (try clear ho0)) | ((with_reducible refine gate_callee (f := 10) rfl ?_); refine goesL_ (some 34) rfl rfl Try.func10 (by kernel_rfl) rfl #[.slice A0 l0.length c0, .slice A1 l1.length c1] rfl (by (try simp only [List.map_toArray, List.map_cons, List.map_nil]); first | done | rfl | (simp only [List.length_drop, List.length_take]; rfl)) ?_; (with_reducible refine (impl_Bound.calls _ _ l0 _ _ l1 t125 t126 _ ?side1 ?side2 ?side3 ?side4 A13.out).mono ?_); (case side1 => repeat (first | exact (Kd.C_below HR0.out HB.out) | (with_reducible refine Kd.C_alloc ?_ _) | (with_reducible refine Kd.C_drewN ?_ _) | (with_reducible refine Kd.C_drew ?_))); (case side2 => exact HC0.out); (case side3 => repeat (first | exact (Kd.C_below HR1.out HB.out) | (with_reducible refine Kd.C_alloc ?_ _) | (with_reducible refine Kd.C_drewN ?_ _) | (with_reducible refine Kd.C_drew ?_))); (case side4 => exact HC1.out); rintro e w23 ⟨v127, rfl, ho0, hb⟩; refine ⟨_, rfl, ?_⟩; have n0_ := Aside0.mk (Kd.N_elder' (by (with_reducible repeat (first | apply Kd.N_alloc | apply Kd.N_drewN | apply Kd.N_drew)); exact HO123.out) (Kd.N_base (Kd.R_N ho0)) hb); have n1_ := Aside0.mk (Kd.N_lower (Kd.N_mono (ok' := fun k_ => some k_ ≠ (v122 : Value).ownBlock) (Kd.R_N (Kd.R_bound ho0)) (fun k_ hk_ => (Kd.fresh' (Kd.N_lt (by (with_reducible repeat (first | apply Kd.N_alloc | apply Kd.N_drewN | apply Kd.N_drew)); exact HO123.out)) k_ hk_.2.1))) (below_size (by repeat (first | (with_reducible first | exact HB.out | apply below_alloc | apply pw_below_drewN | apply below_drew1) | exact HB.out)))); have n2_ := Aside0.mk (below_step (by repeat (first | (with_reducible first | exact HB.out | apply below_alloc | apply pw_below_drewN | apply below_drew1) | exact HB.out)) hb); clear HO123; clear HB; have HO123 := n0_; have HO128 := n1_; have HB := n2_; clear n0_ n1_ n2_; (try clear hb); (try clear hb2); (try clear hk); (try clear hi); (try clear ho0)))
                  go_ret
                  exact ⟨by first | rfl | (simp [errW_none, errW_some] <;> rfl) | (simp [*, errW_none, errW_some] <;> rfl), by repeat (first | (with_reducible first | exact HB.out | apply below_alloc | apply pw_below_drewN | apply below_drew1) | exact HB.out)⟩
              · rw [if_neg c14] at H
                have c14b0 : (t126 == t124) = false := by simpa using c14
                (try (have c14b1 : decide (t126 = t124) = false := by simpa using c14))
                (try (have c14b2 : (t126 == t124) = false := by simpa using c14))
                (try (have c14b3 : ¬ (t126 = t124) := by simpa using c14))
                clear c14
                obtain rfl := Option.some.inj H
                go_wp2_with (first | ((with_reducible refine gate_callee (f := 9) rfl ?_); refine goesL_ (some 28) rfl rfl Try.func9 (by kernel_rfl) rfl #[.slice A0 l0.length c0, .slice A1 l1.length c1] rfl (by (try simp only [List.map_toArray, List.map_cons, List.map_nil]); first | done | rfl | (simp only [List.length_drop, List.length_take]; rfl)) ?_; (with_reducible refine (spec_ValuesOf.calls kj6 _ _ l0 (fun k_ => k_ < w.heap.size) _ _ l1 t121 t124 _ ?side1 ?side2 ?side3 A12.out).mono ?_); (case side1 => repeat (first | exact (Kd.C_below HR0.out HB.out) | (with_reducible refine Kd.C_alloc ?_ _) | (with_reducible refine Kd.C_drewN ?_ _) | (with_reducible refine Kd.C_drew ?_))); (case side2 => exact HC0.out); (case side3 => exact Kd.V_mk HC1.out (Kd.F_below (Kd.C_F k41_heap HR1.out) (by repeat (first | (with_reducible first | exact HB.out | apply below_alloc | apply pw_below_drewN | apply below_drew1) | exact HB.out)))); rintro e w24 ⟨v122, rfl, ho0, hb⟩; refine ⟨_, rfl, ?_⟩; have n0_ := Aside0.mk (Kd.N_lower (Kd.N_mono (ok' := fun k_ => True) ho0 (fun k_ hk_ => trivial)) (below_size (by repeat (first | (with_reducible first | exact HB.out | apply below_alloc | apply pw_below_drewN | apply below_drew1) | exact HB.out)))); have n1_ := Aside0.mk (below_step (by repeat (first | (with_reducible first | exact HB.out | apply below_alloc | apply pw_below_drewN | apply below_drew1) | exact HB.out)) hb); clear HB; have HO123 := n0_; have HB := n1_; clear n0_ n1_; (try clear hb); (try clear hb2); (try clear hk); (try clear hi); (try clear ho0)) | ((with_reducible refine gate_callee (f := 10) rfl ?_); refine goesL_ (some 34) rfl rfl Try.func10 (by kernel_rfl) rfl #[.slice A0 l0.length c0, .slice A1 l1.length c1] rfl (by (try simp only [List.map_toArray, List.map_cons, List.map_nil]); first | done | rfl | (simp only [List.length_drop, List.length_take]; rfl)) ?_; (with_reducible refine (impl_Bound.calls _ _ l0 _ _ l1 t125 t126 _ ?side1 ?side2 ?side3 ?side4 A13.out).mono ?_); (case side1 => repeat (first | exact (Kd.C_below HR0.out HB.out) | (with_reducible refine Kd.C_alloc ?_ _) | (with_reducible refine Kd.C_drewN ?_ _) | (with_reducible refine Kd.C_drew ?_))); (case side2 => exact HC0.out); (case side3 => repeat (first | exact (Kd.C_below HR1.out HB.out) | (with_reducible refine Kd.C_alloc ?_ _) | (with_reducible refine Kd.C_drewN ?_ _) | (with_reducible refine Kd.C_drew ?_))); (case side4 => exact HC1.out); rintro e w25 ⟨v127, rfl, ho0, hb⟩; refine ⟨_, rfl, ?_⟩; have n0_ := Aside0.mk (Kd.N_elder' (by (with_reducible repeat (first | apply Kd.N_alloc | apply Kd.N_drewN | apply Kd.N_drew)); exact HO123.out) (Kd.N_base (Kd.R_N ho0)) hb); have n1_ := Aside0.mk (Kd.N_lower (Kd.N_mono (ok' := fun k_ => some k_ ≠ (v122 : Value).ownBlock) (Kd.R_N (Kd.R_bound ho0)) (fun k_ hk_ => (Kd.fresh' (Kd.N_lt (by (with_reducible repeat (first | apply Kd.N_alloc | apply Kd.N_drewN | apply Kd.N_drew)); exact HO123.out)) k_ hk_.2.1))) (below_size (by repeat (first | (with_reducible first | exact HB.out | apply below_alloc | apply pw_below_drewN | apply below_drew1) | exact HB.out)))); have n2_ := Aside0.mk (below_step (by repeat (first | (with_reducible first | exact HB.out | apply below_alloc | apply pw_below_drewN | apply below_drew1) | exact HB.out)) hb); clear HO123; clear HB; have HO123 := n0_; have HO128 := n1_; have HB := n2_; clear n0_ n1_ n2_; (try clear hb); (try clear hb2); (try clear hk); (try clear hi); (try clear ho0)))
                go_ret
                exact ⟨by first | rfl | (simp [errW_none, errW_some] <;> rfl) | (simp [*, errW_none, errW_some] <;> rfl), by repeat (first | (with_reducible first | exact HB.out | apply below_alloc | apply pw_below_drewN | apply below_drew1) | exact HB.out)⟩

end Go.Proofs.Ytlclbfhnllknkaa.QE
