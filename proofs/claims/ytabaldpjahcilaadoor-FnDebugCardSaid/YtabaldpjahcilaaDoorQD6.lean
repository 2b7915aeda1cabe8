-- WRITTEN BY A PROGRAM OF THIS SESSION (wip/print2.py): the print, with contracts of this session's own let in. Not trusted: Lean checks it.
import Derived.Test.YtabaldpjahcilaaDoorHRow
import Derived.Test.YtabaldpjahcilaaDoorQD0
import Derived.Test.YtabaldpjahcilaaDoorQD3
import Derived.Test.YtabaldpjahcilaaDoorQD4
import Derived.Test.YtabaldpjahcilaaDoorQD5
import Derived.Test.YtabaldpjahcilaaDoorHDebug
namespace Go.Proofs.YtabaldpjahcilaaDoor.QD
open Go.RowKit Go.Proofs.YtabaldpjahcilaaDoorW.PrintWords Go.Proofs.YtabaldpjahcilaaDoorW.PrintLast Go.Proofs.YtabaldpjahcilaaDoorW.PrintMore
attribute [local go_sem] max2_int min2_int max_two min_two max_three min_three max_four min_four   -- for this text's walks alone
set_option linter.unusedVariables false
set_option linter.unusedSimpArgs false

open Go.Proofs.YtabaldpjahcilaaDoor.H
/-! ### laws_FnDebug: function 3 -/
mutual
def laws_FnDebug.j0 : Nat → ByteArray → List (S27) → Bool → Option (Bool)
  | 0, _, _, _ => none
  | k + 1, x0, x1, x12 => if x12 = true then (some true) else (if (x0.size : Int) > 1000 then (laws_FnDebug.j1 k x0 x1 true) else ((laws_single9.f k x1).bind fun t124 => (if t124 = true then ((spec_Marks.f k x0).bind fun t125 => (laws_FnDebug.j1 k x0 x1 (t125 != (x1.length : Int)))) else (laws_FnDebug.j1 k x0 x1 true))))
def laws_FnDebug.j1 : Nat → ByteArray → List (S27) → Bool → Option (Bool)
  | 0, _, _, _ => none
  | k + 1, x0, x1, x27 => if x27 = true then (some true) else ((impl_Debug.f x0 x1).bind fun t126 => ((spec_Debug.f k x0 x1).bind fun t127 => (if t126.toList = t127.toList then ((impl_Debug.f (⟨#[63]⟩ : ByteArray) (([(⟨1, 7, (⟨#[]⟩ : ByteArray), ([] : List (S27))⟩ : S27)] : List (S27)))).bind fun t131 => (some (t131.toList == ([39, 55, 39] : List UInt8)))) else (some false))))
end
def laws_FnDebug.f (k : Nat) (a0 : ByteArray) (l1 : List (S27)) : Option (Bool) := if (a0.size : Int) > 2147483647 then (laws_FnDebug.j0 k a0 l1 true) else (laws_FnDebug.j0 k a0 l1 (decide ((l1.length : Int) > 2147483647)))
theorem laws_FnDebug.mono_l : ∀ k, (∀ y0 y1 y2, LeO (laws_FnDebug.j0 k y0 y1 y2) (laws_FnDebug.j0 (k + 1) y0 y1 y2)) ∧ (∀ y0 y1 y2, LeO (laws_FnDebug.j1 k y0 y1 y2) (laws_FnDebug.j1 (k + 1) y0 y1 y2))
  | 0 => ⟨fun _ _ _ r h => by simp [laws_FnDebug.j0] at h, fun _ _ _ r h => by simp [laws_FnDebug.j1] at h⟩
  | k + 1 => by
    obtain ⟨ih0, ih1⟩ := laws_FnDebug.mono_l k
    refine ⟨?_, ?_⟩
    · intro y0 y1 y2
      unfold laws_FnDebug.j0
      repeat' first
      | (with_reducible exact ih0 _ _ _)
      | (with_reducible exact ih1 _ _ _)
      | (with_reducible exact laws_single9.mono _ _)
      | (with_reducible exact spec_Debug.mono _ _ _)
      | (with_reducible exact spec_Marks.mono _ _)
      | (with_reducible exact LeO.refl _)
      | (with_reducible exact LeO.none _)
      | (with_reducible refine LeO.ite ?_ ?_)
      | (with_reducible refine LeO.bind ?_ (fun _ => ?_))
      | exact ih0 _ _ _
      | exact ih1 _ _ _
      | exact laws_single9.mono _ _
      | exact spec_Debug.mono _ _ _
      | exact spec_Marks.mono _ _
      | exact LeO.none _
      | refine LeO.ite ?_ ?_
      | refine LeO.bind ?_ (fun _ => ?_)
    · intro y0 y1 y2
      unfold laws_FnDebug.j1
      repeat' first
      | (with_reducible exact ih0 _ _ _)
      | (with_reducible exact ih1 _ _ _)
      | (with_reducible exact laws_single9.mono _ _)
      | (with_reducible exact spec_Debug.mono _ _ _)
      | (with_reducible exact spec_Marks.mono _ _)
      | (with_reducible exact LeO.refl _)
      | (with_reducible exact LeO.none _)
      | (with_reducible refine LeO.ite ?_ ?_)
      | (with_reducible refine LeO.bind ?_ (fun _ => ?_))
      | exact ih0 _ _ _
      | exact ih1 _ _ _
      | exact laws_single9.mono _ _
      | exact spec_Debug.mono _ _ _
      | exact spec_Marks.mono _ _
      | exact LeO.none _
      | refine LeO.ite ?_ ?_
      | refine LeO.bind ?_ (fun _ => ?_)
theorem laws_FnDebug.mono : ∀ a0 a1 k, LeO (laws_FnDebug.f k a0 a1) (laws_FnDebug.f (k + 1) a0 a1) := by
  intro a0 a1 k
  obtain ⟨ih0, ih1⟩ := laws_FnDebug.mono_l k
  unfold laws_FnDebug.f
  repeat' first
      | (with_reducible exact ih0 _ _ _)
      | (with_reducible exact ih1 _ _ _)
      | (with_reducible exact laws_single9.mono _ _)
      | (with_reducible exact spec_Debug.mono _ _ _)
      | (with_reducible exact spec_Marks.mono _ _)
      | (with_reducible exact LeO.refl _)
      | (with_reducible exact LeO.none _)
      | (with_reducible refine LeO.ite ?_ ?_)
      | (with_reducible refine LeO.bind ?_ (fun _ => ?_))
      | exact ih0 _ _ _
      | exact ih1 _ _ _
      | exact laws_single9.mono _ _
      | exact spec_Debug.mono _ _ _
      | exact spec_Marks.mono _ _
      | exact LeO.none _
      | refine LeO.ite ?_ ?_
      | refine LeO.bind ?_ (fun _ => ?_)
set_option maxHeartbeats 8000000 in
set_option maxRecDepth 100000 in
theorem laws_FnDebug.calls (k : Nat) (a0 : ByteArray) (A1 : Option Addr) (c1 : Nat) (l1 : List (S27)) (r : Bool) (w : World) (ht_ : Tab w) (hr1 : Kd.C k27 w A1 l1.length l1) (hc1 : l1.length ≤ c1) (h : laws_FnDebug.f k a0 l1 = some r) :
    Calls Tryd.prog 3 #[.string a0, .slice A1 l1.length c1] w fun e w' => e = .returned (.bool r) ∧ Below w.heap.size w w' := by
  have hu27 := Tryd.underlying27
  have HR1 := Aside0.mk hr1
  have HC1 := Aside0.mk hc1
  clear hr1 hc1
  have HB := Aside0.mk (Below.refl w.heap.size w)
  have HT_ := Aside0.mk (tab_below ht_)
  clear ht_
  have H : (if (a0.size : Int) > 2147483647 then (laws_FnDebug.j0 k a0 l1 true) else (laws_FnDebug.j0 k a0 l1 (decide ((l1.length : Int) > 2147483647)))) = some r := h
  clear h
  have HC3 := Aside0.mk H
  clear H
  go_enter Tryd.func3, Tryd.ntmps3
  go_upto_region 1 with (fail)
  go_cut [12] (fun v12 wc => ∃ (kq : Nat) (x12_2 : Bool), v12 = .bool x12_2 ∧ Aside0 (laws_FnDebug.j0 kq a0 l1 x12_2 = some r) ∧ Aside0 (kq ≤ k) ∧ Aside0 (Below w.heap.size w wc))
  case first =>
    have H := HC3.out
    clear HC3
    by_cases c4 : (a0.size : Int) > 2147483647
    · rw [if_pos c4] at H
      have c4b0 : decide (2147483647 < (a0.size : Int)) = true := decide_eq_true c4
      have c4b1 : decide (2147483647 < a0.size) = true := decide_eq_true (by omega)
      clear c4
      (first | rw [c4b0] | (simp only [i64_w, i32_w]; rw [c4b0]) | skip)
      have H' := Aside0.mk H
      clear H
      go_wp2
      go_meet
      case rel => exact ⟨_, (true), (by first | rfl | (simp; done) | (simp [*]; done)), H', ⟨by first | omega | exact Nat.le_refl _⟩, ⟨by repeat (first | (with_reducible first | exact HB.out | apply below_alloc | apply pw_below_drewN | apply below_drew1) | exact HB.out)⟩⟩
    · rw [if_neg c4] at H
      have c4b0 : decide (2147483647 < (a0.size : Int)) = false := decide_eq_false c4
      have c4b1 : decide (2147483647 < a0.size) = false := decide_eq_false (by omega)
      clear c4
      (first | rw [c4b0] | (simp only [i64_w, i32_w]; rw [c4b0]) | skip)
      have H' := Aside0.mk H
      clear H
      go_wp2
      go_meet
      case rel => exact ⟨_, (decide ((l1.length : Int) > 2147483647)), (by first | rfl | (simp; done) | (simp [*]; done)), H', ⟨by first | omega | exact Nat.le_refl _⟩, ⟨by repeat (first | (with_reducible first | exact HB.out | apply below_alloc | apply pw_below_drewN | apply below_drew1) | exact HB.out)⟩⟩
  case rest =>
    clear HC3
    try clear c1
    try clear p2
    try clear c3
    try clear c4
    try clear c4b0
    try clear c4b1
    obtain ⟨kq, x12_2, rfl, HA, HJ2, HB⟩ := hcut
    cases kq with
    | zero => exact absurd HA.out (by simp [laws_FnDebug.j0])
    | succ kj2 =>
      have H := HA.out
      clear HA
      simp only [laws_FnDebug.j0] at H
      by_cases c5 : x12_2 = true
      · subst c5
        have H1 : (some true) = some r := by rw [if_pos rfl] at H; exact H
        clear H
        have H := H1
        clear H1
        obtain rfl := Option.some.inj H
        go_wp2
        go_ret
        exact ⟨by first | rfl | (simp [errW_none, errW_some] <;> rfl) | (simp [*, errW_none, errW_some] <;> rfl), by repeat (first | (with_reducible first | exact HB.out | apply below_alloc | apply pw_below_drewN | apply below_drew1) | exact HB.out)⟩
      · replace c5 := Bool.eq_false_iff.mpr c5
        subst c5
        have H1 : (if (a0.size : Int) > 1000 then (laws_FnDebug.j1 kj2 a0 l1 true) else ((laws_single9.f kj2 l1).bind fun t124 => (if t124 = true then ((spec_Marks.f kj2 a0).bind fun t125 => (laws_FnDebug.j1 kj2 a0 l1 (t125 != (l1.length : Int)))) else (laws_FnDebug.j1 kj2 a0 l1 true)))) = some r := by rw [if_neg (show ¬ (false = true) by decide)] at H; exact H
        clear H
        have H := H1
        clear H1
        have HC6 := Aside0.mk H
        clear H
        go_upto_region 3 with (fail)
        go_cut [27] (fun v27 wc => ∃ (kq : Nat) (x27_5 : Bool), v27 = .bool x27_5 ∧ Aside0 (laws_FnDebug.j1 kq a0 l1 x27_5 = some r) ∧ Aside0 (kq ≤ kj2) ∧ Aside0 (Below w.heap.size w wc))
        case first =>
          have H := HC6.out
          clear HC6
          by_cases c7 : (a0.size : Int) > 1000
          · rw [if_pos c7] at H
            have c7b0 : decide (1000 < (a0.size : Int)) = true := decide_eq_true c7
            have c7b1 : decide (1000 < a0.size) = true := decide_eq_true (by omega)
            clear c7
            (first | rw [c7b0] | (simp only [i64_w, i32_w]; rw [c7b0]) | skip)
            have H' := Aside0.mk H
            clear H
            go_wp2
            go_meet
            case rel => exact ⟨_, (true), (by first | rfl | (simp; done) | (simp [*]; done)), H', ⟨by have := HJ2.out; first | omega | exact Nat.le_refl _⟩, ⟨by repeat (first | (with_reducible first | exact HB.out | apply below_alloc | apply pw_below_drewN | apply below_drew1) | exact HB.out)⟩⟩
          · rw [if_neg c7] at H
            have c7b0 : decide (1000 < (a0.size : Int)) = false := decide_eq_false c7
            have c7b1 : decide (1000 < a0.size) = false := decide_eq_false (by omega)
            clear c7
            (first | rw [c7b0] | (simp only [i64_w, i32_w]; rw [c7b0]) | skip)
            replace H := Option.bind_eq_some_iff.mp H
            obtain ⟨t124, A80, H⟩ := H
            replace H : (if t124 = true then ((spec_Marks.f kj2 a0).bind fun t125 => (laws_FnDebug.j1 kj2 a0 l1 (t125 != (l1.length : Int)))) else (laws_FnDebug.j1 kj2 a0 l1 true)) = some r := H
            have A8 := Aside0.mk A80
            clear A80
            by_cases c9 : t124 = true
            · subst c9
              have H1 : ((spec_Marks.f kj2 a0).bind fun t125 => (laws_FnDebug.j1 kj2 a0 l1 (t125 != (l1.length : Int)))) = some r := by rw [if_pos rfl] at H; exact H
              clear H
              have H := H1
              clear H1
              replace H := Option.bind_eq_some_iff.mp H
              obtain ⟨t125, A100, H⟩ := H
              replace H : (laws_FnDebug.j1 kj2 a0 l1 (t125 != (l1.length : Int))) = some r := H
              have A10 := Aside0.mk A100
              clear A100
              have H' := Aside0.mk H
              clear H
              go_wp2_with (first | (go_at_call 6; (with_reducible refine (laws_single9.calls kj2 _ _ l1 true _ ?side1 ?side2 A8.out).mono ?_); (case side1 => repeat (first | exact (Kd.C_below HR1.out HB.out) | (with_reducible refine Kd.C_alloc ?_ _) | (with_reducible refine Kd.C_drewN ?_ _) | (with_reducible refine Kd.C_drew ?_))); (case side2 => exact HC1.out); rintro e w11 ⟨rfl, hb⟩; have n0_ := Aside0.mk (below_step (by repeat (first | (with_reducible first | exact HB.out | apply below_alloc | apply pw_below_drewN | apply below_drew1) | exact HB.out)) hb); clear HB; have HB := n0_; clear n0_; (try clear hb); (try clear hb2); (try clear hk); (try clear hi)) | (go_at_call 7; (with_reducible refine (spec_Marks.calls kj2 a0 t125 _ A10.out).mono ?_); rintro e w' ⟨rfl, ⟨nd, rfl⟩⟩))
              go_meet
              case rel => exact ⟨_, ((t125 != (l1.length : Int))), (by first | rfl | (simp; done) | (simp [*]; done)), H', ⟨by have := HJ2.out; first | omega | exact Nat.le_refl _⟩, ⟨by repeat (first | (with_reducible first | exact HB.out | apply below_alloc | apply pw_below_drewN | apply below_drew1) | exact HB.out)⟩⟩
            · replace c9 := Bool.eq_false_iff.mpr c9
              subst c9
              have H1 : (laws_FnDebug.j1 kj2 a0 l1 true) = some r := by rw [if_neg (show ¬ (false = true) by decide)] at H; exact H
              clear H
              have H := H1
              clear H1
              have H' := Aside0.mk H
              clear H
              go_wp2_with (first | (go_at_call 6; (with_reducible refine (laws_single9.calls kj2 _ _ l1 false _ ?side1 ?side2 A8.out).mono ?_); (case side1 => repeat (first | exact (Kd.C_below HR1.out HB.out) | (with_reducible refine Kd.C_alloc ?_ _) | (with_reducible refine Kd.C_drewN ?_ _) | (with_reducible refine Kd.C_drew ?_))); (case side2 => exact HC1.out); rintro e w12 ⟨rfl, hb⟩; have n0_ := Aside0.mk (below_step (by repeat (first | (with_reducible first | exact HB.out | apply below_alloc | apply pw_below_drewN | apply below_drew1) | exact HB.out)) hb); clear HB; have HB := n0_; clear n0_; (try clear hb); (try clear hb2); (try clear hk); (try clear hi)))
              go_meet
              case rel => exact ⟨_, (true), (by first | rfl | (simp; done) | (simp [*]; done)), H', ⟨by have := HJ2.out; first | omega | exact Nat.le_refl _⟩, ⟨by repeat (first | (with_reducible first | exact HB.out | apply below_alloc | apply pw_below_drewN | apply below_drew1) | exact HB.out)⟩⟩
        case rest =>
          clear HC6
          try clear c1
          try clear p2
          try clear c3
          try clear c4
          try clear c4b0
          try clear c4b1
          try clear c5
          try clear c7
          try clear c7b0
          try clear c7b1
          try clear c9
          try clear p2
          obtain ⟨kq, x27_5, rfl, HA, HJ5, HB⟩ := hcut
          cases kq with
          | zero => exact absurd HA.out (by simp [laws_FnDebug.j1])
          | succ kj5 =>
            have H := HA.out
            clear HA
            simp only [laws_FnDebug.j1] at H
            by_cases c13 : x27_5 = true
            · subst c13
              have H1 : (some true) = some r := by rw [if_pos rfl] at H; exact H
              clear H
              have H := H1
              clear H1
              obtain rfl := Option.some.inj H
              go_wp2
              go_ret
              exact ⟨by first | rfl | (simp [errW_none, errW_some] <;> rfl) | (simp [*, errW_none, errW_some] <;> rfl), by repeat (first | (with_reducible first | exact HB.out | apply below_alloc | apply pw_below_drewN | apply below_drew1) | exact HB.out)⟩
            · replace c13 := Bool.eq_false_iff.mpr c13
              subst c13
              have H1 : ((impl_Debug.f a0 l1).bind fun t126 => ((spec_Debug.f kj5 a0 l1).bind fun t127 => (if t126.toList = t127.toList then ((impl_Debug.f (⟨#[63]⟩ : ByteArray) (([(⟨1, 7, (⟨#[]⟩ : ByteArray), ([] : List (S27))⟩ : S27)] : List (S27)))).bind fun t131 => (some (t131.toList == ([39, 55, 39] : List UInt8)))) else (some false)))) = some r := by rw [if_neg (show ¬ (false = true) by decide)] at H; exact H
              clear H
              have H := H1
              clear H1
              replace H := Option.bind_eq_some_iff.mp H
              obtain ⟨t126, A140, H⟩ := H
              replace H : ((spec_Debug.f kj5 a0 l1).bind fun t127 => (if t126.toList = t127.toList then ((impl_Debug.f (⟨#[63]⟩ : ByteArray) (([(⟨1, 7, (⟨#[]⟩ : ByteArray), ([] : List (S27))⟩ : S27)] : List (S27)))).bind fun t131 => (some (t131.toList == ([39, 55, 39] : List UInt8)))) else (some false))) = some r := H
              have A14 := Aside0.mk A140
              clear A140
              replace H := Option.bind_eq_some_iff.mp H
              obtain ⟨t127, A150, H⟩ := H
              replace H : (if t126.toList = t127.toList then ((impl_Debug.f (⟨#[63]⟩ : ByteArray) (([(⟨1, 7, (⟨#[]⟩ : ByteArray), ([] : List (S27))⟩ : S27)] : List (S27)))).bind fun t131 => (some (t131.toList == ([39, 55, 39] : List UInt8)))) else (some false)) = some r := H
              have A15 := Aside0.mk A150
              clear A150
              by_cases c16 : t126.toList = t127.toList
              · rw [if_pos c16] at H
                have c16b0 : (t126.toList == t127.toList) = true := beq_iff_eq.mpr c16
                have c16b1 : (t126.toList != t127.toList) = false := bne_eq_false_iff_eq.mpr c16
                clear c16
                obtain ⟨y128, hy128⟩ : ∃ y_ : List (S27), y_ = (([(⟨1, 7, (⟨#[]⟩ : ByteArray), ([] : List (S27))⟩ : S27)] : List (S27))) := ⟨_, rfl⟩
                replace H : ((impl_Debug.f (⟨#[63]⟩ : ByteArray) y128).bind fun t131 => (some (t131.toList == ([39, 55, 39] : List UInt8)))) = some r := by first | (rw [hy128]; with_reducible exact H) | (have H2_ := (Option.bind_some _ _).symm.trans H; rw [hy128]; with_reducible exact H2_) | (have H2_ := (Option.bind_some _ _).symm.trans H; with_reducible exact H2_) | with_reducible exact H | (rw [hy128]; exact H) | exact H
                have Ny128 := Aside0.mk hy128
                clear hy128
                replace H := Option.bind_eq_some_iff.mp H
                obtain ⟨t131, A170, H⟩ := H
                replace H : (some (t131.toList == ([39, 55, 39] : List UInt8))) = some r := H
                have A17 := Aside0.mk A170
                clear A170
                obtain rfl := Option.some.inj H
                go_wp2_with (first | ((with_reducible refine gate_callee (f := 8) rfl ?_); refine goesL_ (some 30) rfl rfl Tryd.func8 (by kernel_rfl) rfl #[.string a0, .slice A1 l1.length c1] rfl (by (try simp only [List.map_toArray, List.map_cons, List.map_nil]); first | done | rfl | (simp only [List.length_drop, List.length_take]; rfl)) ?_; (with_reducible refine (impl_Debug.calls a0 _ _ l1 t126 _ (tab_at HT_.out (by repeat (first | (with_reducible first | exact HB.out | apply below_alloc | apply pw_below_drewN | apply below_drew1) | exact HB.out))) ?side1 ?side2 A14.out).mono ?_); (case side1 => repeat (first | exact (Kd.C_below HR1.out HB.out) | (with_reducible refine Kd.C_alloc ?_ _) | (with_reducible refine Kd.C_drewN ?_ _) | (with_reducible refine Kd.C_drew ?_))); (case side2 => exact HC1.out); rintro e w18 ⟨rfl, hb⟩; refine ⟨_, rfl, ?_⟩; have n0_ := Aside0.mk (below_step (by repeat (first | (with_reducible first | exact HB.out | apply below_alloc | apply pw_below_drewN | apply below_drew1) | exact HB.out)) hb); clear HB; have HB := n0_; clear n0_; (try clear hb); (try clear hb2); (try clear hk); (try clear hi)) | ((with_reducible refine gate_callee (f := 9) rfl ?_); refine goesL_ (some 33) rfl rfl Tryd.func9 (by kernel_rfl) rfl #[.string a0, .slice A1 l1.length c1] rfl (by (try simp only [List.map_toArray, List.map_cons, List.map_nil]); first | done | rfl | (simp only [List.length_drop, List.length_take]; rfl)) ?_; (with_reducible refine (spec_Debug.calls kj5 a0 _ _ l1 t127 _ ?side1 ?side2 A15.out).mono ?_); (case side1 => repeat (first | exact (Kd.C_below HR1.out HB.out) | (with_reducible refine Kd.C_alloc ?_ _) | (with_reducible refine Kd.C_drewN ?_ _) | (with_reducible refine Kd.C_drew ?_))); (case side2 => exact HC1.out); rintro e w19 ⟨rfl, hb⟩; refine ⟨_, rfl, ?_⟩; have n0_ := Aside0.mk (below_step (by repeat (first | (with_reducible first | exact HB.out | apply below_alloc | apply pw_below_drewN | apply below_drew1) | exact HB.out)) hb); clear HB; have HB := n0_; clear n0_; (try clear hb); (try clear hb2); (try clear hk); (try clear hi)) | ((with_reducible refine gate_dst (N := 37) rfl ?_); (try (refine gate_guard (by rfl) ?_; dsimp only)); refine Kd.R_lit k27 _ 27 ?hg (N := 37) ?hd (xs := ([(⟨1, 7, (⟨#[]⟩ : ByteArray), ([] : List (S27))⟩ : S27)] : List (S27))) (inner := [.int .i64 1, .int .i64 7, .string (⟨#[]⟩ : ByteArray), .slice none 0 0]) (ok := fun _ => True) (okp := fun _ => True) ?hr ?hp (fun _ hk => hk) trivial (Below.refl _ _) (Nat.le_refl _) (by simp) ?_; (case hd => rfl); (case hg => rfl); (case hr => first | (go_simp; done) | (go_simp; rfl)); (case hp => exact (Reps.c4 (show Kd.M k27 _ _ _ (⟨1, 7, (⟨#[]⟩ : ByteArray), ([] : List (S27))⟩ : S27) [.int .i64 1, .int .i64 7, .string (⟨#[]⟩ : ByteArray), .slice none 0 0] from (k27_mkM _ _ _ (⟨1, 7, (⟨#[]⟩ : ByteArray), ([] : List (S27))⟩ : S27) (Kd.R_nil _ _ _ _ _))) (Reps.none _ _))); intro v129 w20 ho21 hb hg_ hnew_; clear hg_ hnew_; (first | rw [← Ny128.out] at ho21 | (simp only [Int.reduceToNat] at ho21; rw [← Ny128.out] at ho21)); have n0_ := Aside0.mk (Kd.R_lower ho21 (below_size (by repeat (first | (with_reducible first | exact HB.out | apply below_alloc | apply pw_below_drewN | apply below_drew1) | exact HB.out)))); have n1_ := Aside0.mk (below_step (by repeat (first | (with_reducible first | exact HB.out | apply below_alloc | apply pw_below_drewN | apply below_drew1) | exact HB.out)) hb); clear HB; have HO130 := n0_; have HB := n1_; clear n0_ n1_; clear hb ho21; obtain ⟨Ao22, co22, eo22⟩ := Kd.R_slice HO130.out; subst eo22) | (go_at_call 8; (with_reducible refine (impl_Debug.calls (⟨#[63]⟩ : ByteArray) _ _ y128 t131 _ (tab_at HT_.out (by repeat (first | (with_reducible first | exact HB.out | apply below_alloc | apply pw_below_drewN | apply below_drew1) | exact HB.out))) ?side1 ?side2 A17.out).mono ?_); (case side1 => repeat (first | exact (Kd.R_reads' HO130.out).2.2 | (with_reducible refine Kd.C_alloc ?_ _) | (with_reducible refine Kd.C_drewN ?_ _) | (with_reducible refine Kd.C_drew ?_))); (case side2 => exact (Kd.R_reads' HO130.out).2.1); rintro e w23 ⟨rfl, hb⟩; have n0_ := Aside0.mk (Kd.R_below (by (with_reducible repeat (first | apply Kd.R_alloc | apply Kd.R_drewN | apply Kd.R_drew)); exact HO130.out) hb); have n1_ := Aside0.mk (below_step (by repeat (first | (with_reducible first | exact HB.out | apply below_alloc | apply pw_below_drewN | apply below_drew1) | exact HB.out)) hb); clear HO130; clear HB; have HO130 := n0_; have HB := n1_; clear n0_ n1_; (try clear hb); (try clear hb2); (try clear hk); (try clear hi)))
                go_ret
                exact ⟨by first | rfl | (simp [errW_none, errW_some] <;> rfl) | (simp [*, errW_none, errW_some] <;> rfl), by repeat (first | (with_reducible first | exact HB.out | apply below_alloc | apply pw_below_drewN | apply below_drew1) | exact HB.out)⟩
              · rw [if_neg c16] at H
                have c16b0 : (t126.toList == t127.toList) = false := beq_eq_false_iff_ne.mpr c16
                have c16b1 : (t126.toList != t127.toList) = true := bne_iff_ne.mpr c16
                obtain rfl := Option.some.inj H
                go_wp2_with (first | ((with_reducible refine gate_callee (f := 8) rfl ?_); refine goesL_ (some 30) rfl rfl Tryd.func8 (by kernel_rfl) rfl #[.string a0, .slice A1 l1.length c1] rfl (by (try simp only [List.map_toArray, List.map_cons, List.map_nil]); first | done | rfl | (simp only [List.length_drop, List.length_take]; rfl)) ?_; (with_reducible refine (impl_Debug.calls a0 _ _ l1 t126 _ (tab_at HT_.out (by repeat (first | (with_reducible first | exact HB.out | apply below_alloc | apply pw_below_drewN | apply below_drew1) | exact HB.out))) ?side1 ?side2 A14.out).mono ?_); (case side1 => repeat (first | exact (Kd.C_below HR1.out HB.out) | (with_reducible refine Kd.C_alloc ?_ _) | (with_reducible refine Kd.C_drewN ?_ _) | (with_reducible refine Kd.C_drew ?_))); (case side2 => exact HC1.out); rintro e w24 ⟨rfl, hb⟩; refine ⟨_, rfl, ?_⟩; have n0_ := Aside0.mk (below_step (by repeat (first | (with_reducible first | exact HB.out | apply below_alloc | apply pw_below_drewN | apply below_drew1) | exact HB.out)) hb); clear HB; have HB := n0_; clear n0_; (try clear hb); (try clear hb2); (try clear hk); (try clear hi)) | ((with_reducible refine gate_callee (f := 9) rfl ?_); refine goesL_ (some 33) rfl rfl Tryd.func9 (by kernel_rfl) rfl #[.string a0, .slice A1 l1.length c1] rfl (by (try simp only [List.map_toArray, List.map_cons, List.map_nil]); first | done | rfl | (simp only [List.length_drop, List.length_take]; rfl)) ?_; (with_reducible refine (spec_Debug.calls kj5 a0 _ _ l1 t127 _ ?side1 ?side2 A15.out).mono ?_); (case side1 => repeat (first | exact (Kd.C_below HR1.out HB.out) | (with_reducible refine Kd.C_alloc ?_ _) | (with_reducible refine Kd.C_drewN ?_ _) | (with_reducible refine Kd.C_drew ?_))); (case side2 => exact HC1.out); rintro e w25 ⟨rfl, hb⟩; refine ⟨_, rfl, ?_⟩; have n0_ := Aside0.mk (below_step (by repeat (first | (with_reducible first | exact HB.out | apply below_alloc | apply pw_below_drewN | apply below_drew1) | exact HB.out)) hb); clear HB; have HB := n0_; clear n0_; (try clear hb); (try clear hb2); (try clear hk); (try clear hi)))
                go_ret
                exact ⟨by first | rfl | (simp [errW_none, errW_some] <;> rfl) | (simp [*, errW_none, errW_some] <;> rfl), by repeat (first | (with_reducible first | exact HB.out | apply below_alloc | apply pw_below_drewN | apply below_drew1) | exact HB.out)⟩

end Go.Proofs.YtabaldpjahcilaaDoor.QD
