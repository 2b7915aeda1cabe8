-- WRITTEN BY A PROGRAM OF THIS SESSION (wip/print2.py): the print, with contracts of this session's own let in. Not trusted: Lean checks it.
import Derived.Test.YtnmhoghmhglimaaDoorHRow
import Derived.Test.YtnmhoghmhglimaaDoorQC0
import Derived.Test.YtnmhoghmhglimaaDoorQC1
import Derived.Test.YtnmhoghmhglimaaDoorQC4
import Derived.Test.YtnmhoghmhglimaaDoorQC5
import Derived.Test.YtnmhoghmhglimaaDoorQC10
import Derived.Test.YtnmhoghmhglimaaDoorHCompI
namespace Go.Proofs.YtnmhoghmhglimaaDoor.QC
open Go.RowKit Go.Proofs.YtnmhoghmhglimaaDoorW.PrintWords Go.Proofs.YtnmhoghmhglimaaDoorW.PrintLast Go.Proofs.YtnmhoghmhglimaaDoorW.PrintMore
attribute [local go_sem] max2_int min2_int max_two min_two max_three min_three max_four min_four   -- for this text's walks alone
set_option linter.unusedVariables false
set_option linter.unusedSimpArgs false

open Go.Proofs.YtnmhoghmhglimaaDoor.H
/-! ### laws_FnCompiledKinds: function 9 -/
def laws_FnCompiledKinds.j0 : Nat → ByteArray → Int → Bool → Option (Bool)
  | 0, _, _, _ => none
  | k + 1, x0, x1, x30 => if x30 = true then (some true) else ((spec_Compiled.f k 1 x0).bind fun bt202 => (if bt202.2.2.2 = true then ((impl_Compiled.f 1 x0).bind fun bt208 => ((laws_kind9.f x1).bind fun t213 => ((impl_Compiled.f t213 x0).bind fun bt214 => (if (bt208.2.2 == bt214.2.2) = true then (if bt208.2.2 = true then ((laws_kind9.f x1).bind fun t219 => ((impl_Rebound.f t219 bt208.1).bind fun t220 => (if t220.toList = bt214.1.toList then ((laws_sameTexts9.f k bt208.2.1 bt214.2.1).bind fun t221 => (if t221 = true then ((impl_Rebound.f 4 (⟨#[63]⟩ : ByteArray)).bind fun t222 => (some (t222.toList == ([64, 112, 49] : List UInt8)))) else (some false))) else (some false)))) else ((impl_Rebound.f 4 (⟨#[63]⟩ : ByteArray)).bind fun t223 => (some (t223.toList == ([64, 112, 49] : List UInt8))))) else (some false))))) else (some true)))
def laws_FnCompiledKinds.f (k : Nat) (a0 : ByteArray) (a1 : Int) : Option (Bool) := if (a0.size : Int) > 2147483647 then (some true) else (if (a0.size : Int) > 1000 then (laws_FnCompiledKinds.j0 k a0 a1 true) else ((laws_kind9.f a1).bind fun t200 => (if t200 = 3 then (laws_FnCompiledKinds.j0 k a0 a1 true) else ((laws_marks9.f k a0).bind fun t201 => (laws_FnCompiledKinds.j0 k a0 a1 (decide (t201 > 0)))))))
theorem laws_FnCompiledKinds.mono_l : ∀ k, (∀ y0 y1 y2, LeO (laws_FnCompiledKinds.j0 k y0 y1 y2) (laws_FnCompiledKinds.j0 (k + 1) y0 y1 y2))
  | 0 => fun _ _ _ r h => by simp [laws_FnCompiledKinds.j0] at h
  | k + 1 => by
    have ih0 := laws_FnCompiledKinds.mono_l k
    · intro y0 y1 y2
      unfold laws_FnCompiledKinds.j0
      repeat' first
      | (with_reducible exact ih0 _ _ _)
      | (with_reducible exact laws_marks9.mono _ _)
      | (with_reducible exact laws_sameTexts9.mono _ _ _)
      | (with_reducible exact spec_Compiled.mono _ _ _)
      | (with_reducible exact LeO.refl _)
      | (with_reducible exact LeO.none _)
      | (with_reducible refine LeO.ite ?_ ?_)
      | (with_reducible refine LeO.bind ?_ (fun _ => ?_))
      | exact ih0 _ _ _
      | exact laws_marks9.mono _ _
      | exact laws_sameTexts9.mono _ _ _
      | exact spec_Compiled.mono _ _ _
      | exact LeO.none _
      | refine LeO.ite ?_ ?_
      | refine LeO.bind ?_ (fun _ => ?_)
theorem laws_FnCompiledKinds.mono : ∀ a0 a1 k, LeO (laws_FnCompiledKinds.f k a0 a1) (laws_FnCompiledKinds.f (k + 1) a0 a1) := by
  intro a0 a1 k
  have ih0 := laws_FnCompiledKinds.mono_l k
  unfold laws_FnCompiledKinds.f
  repeat' first
      | (with_reducible exact ih0 _ _ _)
      | (with_reducible exact laws_marks9.mono _ _)
      | (with_reducible exact laws_sameTexts9.mono _ _ _)
      | (with_reducible exact spec_Compiled.mono _ _ _)
      | (with_reducible exact LeO.refl _)
      | (with_reducible exact LeO.none _)
      | (with_reducible refine LeO.ite ?_ ?_)
      | (with_reducible refine LeO.bind ?_ (fun _ => ?_))
      | exact ih0 _ _ _
      | exact laws_marks9.mono _ _
      | exact laws_sameTexts9.mono _ _ _
      | exact spec_Compiled.mono _ _ _
      | exact LeO.none _
      | refine LeO.ite ?_ ?_
      | refine LeO.bind ?_ (fun _ => ?_)
set_option maxHeartbeats 8000000 in
set_option maxRecDepth 100000 in
theorem laws_FnCompiledKinds.calls (k : Nat) (a0 : ByteArray) (a1 : Int) (r : Bool) (w : World) (ht_ : Tab w) (h : laws_FnCompiledKinds.f k a0 a1 = some r) :
    Calls Tryd.prog 9 #[.string a0, .int .u8 a1] w fun e w' => e = .returned (.bool r) ∧ Below w.heap.size w w' := by
  have HB := Aside0.mk (Below.refl w.heap.size w)
  have HT_ := Aside0.mk (tab_below ht_)
  clear ht_
  have H : (if (a0.size : Int) > 2147483647 then (some true) else (if (a0.size : Int) > 1000 then (laws_FnCompiledKinds.j0 k a0 a1 true) else ((laws_kind9.f a1).bind fun t200 => (if t200 = 3 then (laws_FnCompiledKinds.j0 k a0 a1 true) else ((laws_marks9.f k a0).bind fun t201 => (laws_FnCompiledKinds.j0 k a0 a1 (decide (t201 > 0)))))))) = some r := h
  clear h
  by_cases c3 : (a0.size : Int) > 2147483647
  · rw [if_pos c3] at H
    have c3b0 : decide (2147483647 < (a0.size : Int)) = true := decide_eq_true c3
    have c3b1 : decide (2147483647 < a0.size) = true := decide_eq_true (by omega)
    clear c3
    obtain rfl := Option.some.inj H
    go_enter Tryd.func9, Tryd.ntmps9
    go_wp2
    go_ret
    exact ⟨by first | rfl | (simp [errW_none, errW_some] <;> rfl) | (simp [*, errW_none, errW_some] <;> rfl), by repeat (first | (with_reducible first | exact HB.out | apply below_alloc | apply pw_below_drewN | apply below_drew1) | exact HB.out)⟩
  · rw [if_neg c3] at H
    have c3b0 : decide (2147483647 < (a0.size : Int)) = false := decide_eq_false c3
    have c3b1 : decide (2147483647 < a0.size) = false := decide_eq_false (by omega)
    clear c3
    have HC4 := Aside0.mk H
    clear H
    go_enter Tryd.func9, Tryd.ntmps9
    go_upto_region 3 with (fail)
    go_cut [30] (fun v30 wc => ∃ (kq : Nat) (x30_3 : Bool), v30 = .bool x30_3 ∧ Aside0 (laws_FnCompiledKinds.j0 kq a0 a1 x30_3 = some r) ∧ Aside0 (kq ≤ k) ∧ Aside0 (Below w.heap.size w wc))
    case first =>
      have H := HC4.out
      clear HC4
      by_cases c5 : (a0.size : Int) > 1000
      · rw [if_pos c5] at H
        have c5b0 : decide (1000 < (a0.size : Int)) = true := decide_eq_true c5
        have c5b1 : decide (1000 < a0.size) = true := decide_eq_true (by omega)
        clear c5
        (first | rw [c5b0] | (simp only [i64_w, i32_w]; rw [c5b0]) | skip)
        have H' := Aside0.mk H
        clear H
        go_wp2
        go_meet
        case rel => exact ⟨_, (true), (by first | rfl | (simp; done) | (simp [*]; done)), H', ⟨by first | omega | exact Nat.le_refl _⟩, ⟨by repeat (first | (with_reducible first | exact HB.out | apply below_alloc | apply pw_below_drewN | apply below_drew1) | exact HB.out)⟩⟩
      · rw [if_neg c5] at H
        have c5b0 : decide (1000 < (a0.size : Int)) = false := decide_eq_false c5
        have c5b1 : decide (1000 < a0.size) = false := decide_eq_false (by omega)
        clear c5
        (first | rw [c5b0] | (simp only [i64_w, i32_w]; rw [c5b0]) | skip)
        replace H := Option.bind_eq_some_iff.mp H
        obtain ⟨t200, A60, H⟩ := H
        replace H : (if t200 = 3 then (laws_FnCompiledKinds.j0 k a0 a1 true) else ((laws_marks9.f k a0).bind fun t201 => (laws_FnCompiledKinds.j0 k a0 a1 (decide (t201 > 0))))) = some r := H
        have A6 := Aside0.mk A60
        clear A60
        by_cases c7 : t200 = 3
        · rw [if_pos c7] at H
          have c7b0 : (t200 == 3) = true := beq_iff_eq.mpr c7
          have c7b1 : (t200 != 3) = false := bne_eq_false_iff_eq.mpr c7
          clear c7
          have H' := Aside0.mk H
          clear H
          go_wp2_with (first | (go_at_call 24; (with_reducible refine (laws_kind9.calls a1 t200 _ A6.out).mono ?_); rintro e w' ⟨rfl, ⟨nd, rfl⟩⟩))
          go_meet
          case rel => exact ⟨_, (true), (by first | rfl | (simp; done) | (simp [*]; done)), H', ⟨by first | omega | exact Nat.le_refl _⟩, ⟨by repeat (first | (with_reducible first | exact HB.out | apply below_alloc | apply pw_below_drewN | apply below_drew1) | exact HB.out)⟩⟩
        · rw [if_neg c7] at H
          have c7b0 : (t200 == 3) = false := beq_eq_false_iff_ne.mpr c7
          have c7b1 : (t200 != 3) = true := bne_iff_ne.mpr c7
          replace H := Option.bind_eq_some_iff.mp H
          obtain ⟨t201, A80, H⟩ := H
          replace H : (laws_FnCompiledKinds.j0 k a0 a1 (decide (t201 > 0))) = some r := H
          have A8 := Aside0.mk A80
          clear A80
          have H' := Aside0.mk H
          clear H
          go_wp2_with (first | (go_at_call 24; (with_reducible refine (laws_kind9.calls a1 t200 _ A6.out).mono ?_); rintro e w' ⟨rfl, ⟨nd, rfl⟩⟩) | (go_at_call 33; (with_reducible refine (laws_marks9.calls k a0 t201 _ A8.out).mono ?_); rintro e w' ⟨rfl, ⟨nd, rfl⟩⟩))
          go_meet
          case rel => exact ⟨_, (decide (t201 > 0)), (by first | rfl | (simp; done) | (simp [*]; done)), H', ⟨by first | omega | exact Nat.le_refl _⟩, ⟨by repeat (first | (with_reducible first | exact HB.out | apply below_alloc | apply pw_below_drewN | apply below_drew1) | exact HB.out)⟩⟩
    case rest =>
      clear HC4
      try clear p2
      try clear c3
      try clear c3b0
      try clear c3b1
      try clear c5
      try clear c5b0
      try clear c5b1
      try clear c7
      try clear c7b0
      try clear c7b1
      obtain ⟨kq, x30_3, rfl, HA, HJ3, HB⟩ := hcut
      cases kq with
      | zero => exact absurd HA.out (by simp [laws_FnCompiledKinds.j0])
      | succ kj3 =>
        have H := HA.out
        clear HA
        simp only [laws_FnCompiledKinds.j0] at H
        by_cases c9 : x30_3 = true
        · subst c9
          have H1 : (some true) = some r := by rw [if_pos rfl] at H; exact H
          clear H
          have H := H1
          clear H1
          obtain rfl := Option.some.inj H
          go_wp2
          go_ret
          exact ⟨by first | rfl | (simp [errW_none, errW_some] <;> rfl) | (simp [*, errW_none, errW_some] <;> rfl), by repeat (first | (with_reducible first | exact HB.out | apply below_alloc | apply pw_below_drewN | apply below_drew1) | exact HB.out)⟩
        · replace c9 := Bool.eq_false_iff.mpr c9
          subst c9
          have H1 : ((spec_Compiled.f kj3 1 a0).bind fun bt202 => (if bt202.2.2.2 = true then ((impl_Compiled.f 1 a0).bind fun bt208 => ((laws_kind9.f a1).bind fun t213 => ((impl_Compiled.f t213 a0).bind fun bt214 => (if (bt208.2.2 == bt214.2.2) = true then (if bt208.2.2 = true then ((laws_kind9.f a1).bind fun t219 => ((impl_Rebound.f t219 bt208.1).bind fun t220 => (if t220.toList = bt214.1.toList then ((laws_sameTexts9.f kj3 bt208.2.1 bt214.2.1).bind fun t221 => (if t221 = true then ((impl_Rebound.f 4 (⟨#[63]⟩ : ByteArray)).bind fun t222 => (some (t222.toList == ([64, 112, 49] : List UInt8)))) else (some false))) else (some false)))) else ((impl_Rebound.f 4 (⟨#[63]⟩ : ByteArray)).bind fun t223 => (some (t223.toList == ([64, 112, 49] : List UInt8))))) else (some false))))) else (some true))) = some r := by rw [if_neg (show ¬ (false = true) by decide)] at H; exact H
          clear H
          have H := H1
          clear H1
          replace H := Option.bind_eq_some_iff.mp H
          obtain ⟨⟨t202, t203, t204, t205⟩, A100, H⟩ := H
          replace H : (if t205 = true then ((impl_Compiled.f 1 a0).bind fun bt208 => ((laws_kind9.f a1).bind fun t213 => ((impl_Compiled.f t213 a0).bind fun bt214 => (if (bt208.2.2 == bt214.2.2) = true then (if bt208.2.2 = true then ((laws_kind9.f a1).bind fun t219 => ((impl_Rebound.f t219 bt208.1).bind fun t220 => (if t220.toList = bt214.1.toList then ((laws_sameTexts9.f kj3 bt208.2.1 bt214.2.1).bind fun t221 => (if t221 = true then ((impl_Rebound.f 4 (⟨#[63]⟩ : ByteArray)).bind fun t222 => (some (t222.toList == ([64, 112, 49] : List UInt8)))) else (some false))) else (some false)))) else ((impl_Rebound.f 4 (⟨#[63]⟩ : ByteArray)).bind fun t223 => (some (t223.toList == ([64, 112, 49] : List UInt8))))) else (some false))))) else (some true)) = some r := H
          have A10 := Aside0.mk A100
          clear A100
          by_cases c11 : t205 = true
          · subst c11
            have H1 : ((impl_Compiled.f 1 a0).bind fun bt208 => ((laws_kind9.f a1).bind fun t213 => ((impl_Compiled.f t213 a0).bind fun bt214 => (if (bt208.2.2 == bt214.2.2) = true then (if bt208.2.2 = true then ((laws_kind9.f a1).bind fun t219 => ((impl_Rebound.f t219 bt208.1).bind fun t220 => (if t220.toList = bt214.1.toList then ((laws_sameTexts9.f kj3 bt208.2.1 bt214.2.1).bind fun t221 => (if t221 = true then ((impl_Rebound.f 4 (⟨#[63]⟩ : ByteArray)).bind fun t222 => (some (t222.toList == ([64, 112, 49] : List UInt8)))) else (some false))) else (some false)))) else ((impl_Rebound.f 4 (⟨#[63]⟩ : ByteArray)).bind fun t223 => (some (t223.toList == ([64, 112, 49] : List UInt8))))) else (some false))))) = some r := by rw [if_pos rfl] at H; exact H
            clear H
            have H := H1
            clear H1
            replace H := Option.bind_eq_some_iff.mp H
            obtain ⟨⟨t208, t209, t210⟩, A120, H⟩ := H
            replace H : ((laws_kind9.f a1).bind fun t213 => ((impl_Compiled.f t213 a0).bind fun bt214 => (if (t210 == bt214.2.2) = true then (if t210 = true then ((laws_kind9.f a1).bind fun t219 => ((impl_Rebound.f t219 t208).bind fun t220 => (if t220.toList = bt214.1.toList then ((laws_sameTexts9.f kj3 t209 bt214.2.1).bind fun t221 => (if t221 = true then ((impl_Rebound.f 4 (⟨#[63]⟩ : ByteArray)).bind fun t222 => (some (t222.toList == ([64, 112, 49] : List UInt8)))) else (some false))) else (some false)))) else ((impl_Rebound.f 4 (⟨#[63]⟩ : ByteArray)).bind fun t223 => (some (t223.toList == ([64, 112, 49] : List UInt8))))) else (some false)))) = some r := H
            have A12 := Aside0.mk A120
            clear A120
            replace H := Option.bind_eq_some_iff.mp H
            obtain ⟨t213, A130, H⟩ := H
            replace H : ((impl_Compiled.f t213 a0).bind fun bt214 => (if (t210 == bt214.2.2) = true then (if t210 = true then ((laws_kind9.f a1).bind fun t219 => ((impl_Rebound.f t219 t208).bind fun t220 => (if t220.toList = bt214.1.toList then ((laws_sameTexts9.f kj3 t209 bt214.2.1).bind fun t221 => (if t221 = true then ((impl_Rebound.f 4 (⟨#[63]⟩ : ByteArray)).bind fun t222 => (some (t222.toList == ([64, 112, 49] : List UInt8)))) else (some false))) else (some false)))) else ((impl_Rebound.f 4 (⟨#[63]⟩ : ByteArray)).bind fun t223 => (some (t223.toList == ([64, 112, 49] : List UInt8))))) else (some false))) = some r := H
            have A13 := Aside0.mk A130
            clear A130
            replace H := Option.bind_eq_some_iff.mp H
            obtain ⟨⟨t214, t215, t216⟩, A140, H⟩ := H
            replace H : (if (t210 == t216) = true then (if t210 = true then ((laws_kind9.f a1).bind fun t219 => ((impl_Rebound.f t219 t208).bind fun t220 => (if t220.toList = t214.toList then ((laws_sameTexts9.f kj3 t209 t215).bind fun t221 => (if t221 = true then ((impl_Rebound.f 4 (⟨#[63]⟩ : ByteArray)).bind fun t222 => (some (t222.toList == ([64, 112, 49] : List UInt8)))) else (some false))) else (some false)))) else ((impl_Rebound.f 4 (⟨#[63]⟩ : ByteArray)).bind fun t223 => (some (t223.toList == ([64, 112, 49] : List UInt8))))) else (some false)) = some r := H
            have A14 := Aside0.mk A140
            clear A140
            by_cases c15 : (t210 == t216) = true
            · rw [if_pos c15] at H
              have c15b0 : (t210 == t216) = true := c15
              (try (have c15b1 : decide (t210 = t216) = true := by simpa using c15))
              (try (have c15b2 : (t210 == t216) = true := by simpa using c15))
              clear c15
              by_cases c16 : t210 = true
              · subst c16
                have H1 : ((laws_kind9.f a1).bind fun t219 => ((impl_Rebound.f t219 t208).bind fun t220 => (if t220.toList = t214.toList then ((laws_sameTexts9.f kj3 t209 t215).bind fun t221 => (if t221 = true then ((impl_Rebound.f 4 (⟨#[63]⟩ : ByteArray)).bind fun t222 => (some (t222.toList == ([64, 112, 49] : List UInt8)))) else (some false))) else (some false)))) = some r := by rw [if_pos rfl] at H; exact H
                clear H
                have H := H1
                clear H1
                replace H := Option.bind_eq_some_iff.mp H
                obtain ⟨t219, A170, H⟩ := H
                replace H : ((impl_Rebound.f t219 t208).bind fun t220 => (if t220.toList = t214.toList then ((laws_sameTexts9.f kj3 t209 t215).bind fun t221 => (if t221 = true then ((impl_Rebound.f 4 (⟨#[63]⟩ : ByteArray)).bind fun t222 => (some (t222.toList == ([64, 112, 49] : List UInt8)))) else (some false))) else (some false))) = some r := H
                have A17 := Aside0.mk A170
                clear A170
                replace H := Option.bind_eq_some_iff.mp H
                obtain ⟨t220, A180, H⟩ := H
                replace H : (if t220.toList = t214.toList then ((laws_sameTexts9.f kj3 t209 t215).bind fun t221 => (if t221 = true then ((impl_Rebound.f 4 (⟨#[63]⟩ : ByteArray)).bind fun t222 => (some (t222.toList == ([64, 112, 49] : List UInt8)))) else (some false))) else (some false)) = some r := H
                have A18 := Aside0.mk A180
                clear A180
                by_cases c19 : t220.toList = t214.toList
                · rw [if_pos c19] at H
                  have c19b0 : (t220.toList == t214.toList) = true := beq_iff_eq.mpr c19
                  have c19b1 : (t220.toList != t214.toList) = false := bne_eq_false_iff_eq.mpr c19
                  clear c19
                  replace H := Option.bind_eq_some_iff.mp H
                  obtain ⟨t221, A200, H⟩ := H
                  replace H : (if t221 = true then ((impl_Rebound.f 4 (⟨#[63]⟩ : ByteArray)).bind fun t222 => (some (t222.toList == ([64, 112, 49] : List UInt8)))) else (some false)) = some r := H
                  have A20 := Aside0.mk A200
                  clear A200
                  by_cases c21 : t221 = true
                  · subst c21
                    have H1 : ((impl_Rebound.f 4 (⟨#[63]⟩ : ByteArray)).bind fun t222 => (some (t222.toList == ([64, 112, 49] : List UInt8)))) = some r := by rw [if_pos rfl] at H; exact H
                    clear H
                    have H := H1
                    clear H1
                    replace H := Option.bind_eq_some_iff.mp H
                    obtain ⟨t222, A220, H⟩ := H
                    replace H : (some (t222.toList == ([64, 112, 49] : List UInt8))) = some r := H
                    have A22 := Aside0.mk A220
                    clear A220
                    obtain rfl := Option.some.inj H
                    go_wp2_with (first | ((with_reducible refine gate_callee (f := 26) rfl ?_); refine goesL_ (some 33) rfl rfl Tryd.func26 (by kernel_rfl) rfl #[.int .i64 1, .string a0] rfl (by (try simp only [List.map_toArray, List.map_cons, List.map_nil]); first | done | rfl | (simp only [List.length_drop, List.length_take]; rfl)) ?_; (with_reducible refine (spec_Compiled.calls kj3 1 a0 t202 t203 t204 true _ A10.out).mono ?_); rintro e w23 ⟨v206, rfl, ho0, hb⟩; refine ⟨_, rfl, ?_⟩; have n0_ := Aside0.mk (Kd.R_lower ho0 (below_size (by repeat (first | (with_reducible first | exact HB.out | apply below_alloc | apply pw_below_drewN | apply below_drew1) | exact HB.out)))); have n1_ := Aside0.mk (below_step (by repeat (first | (with_reducible first | exact HB.out | apply below_alloc | apply pw_below_drewN | apply below_drew1) | exact HB.out)) hb); clear HB; have HO207 := n0_; have HB := n1_; clear n0_ n1_; (try clear hb); (try clear hb2); (try clear hk); (try clear hi); (try clear ho0)) | ((with_reducible refine gate_callee (f := 27) rfl ?_); refine goesL_ (some 42) rfl rfl Tryd.func27 (by kernel_rfl) rfl #[.int .i64 1, .string a0] rfl (by (try simp only [List.map_toArray, List.map_cons, List.map_nil]); first | done | rfl | (simp only [List.length_drop, List.length_take]; rfl)) ?_; (with_reducible refine (impl_Compiled.calls 1 a0 t208 t209 true _ (tab_at HT_.out (by repeat (first | (with_reducible first | exact HB.out | apply below_alloc | apply pw_below_drewN | apply below_drew1) | exact HB.out))) A12.out).mono ?_); rintro e w24 ⟨v211, rfl, ho0, hb⟩; refine ⟨_, rfl, ?_⟩; have n0_ := Aside0.mk (Kd.R_elder' (by (with_reducible repeat (first | apply Kd.R_alloc | apply Kd.R_drewN | apply Kd.R_drew)); exact HO207.out) (Kd.R_base ho0) hb); have n1_ := Aside0.mk (Kd.R_lower (Kd.R_new' ho0 (Kd.R_lt (by (with_reducible repeat (first | apply Kd.R_alloc | apply Kd.R_drewN | apply Kd.R_drew)); exact HO207.out))) (below_size (by repeat (first | (with_reducible first | exact HB.out | apply below_alloc | apply pw_below_drewN | apply below_drew1) | exact HB.out)))); have n2_ := Aside0.mk (below_step (by repeat (first | (with_reducible first | exact HB.out | apply below_alloc | apply pw_below_drewN | apply below_drew1) | exact HB.out)) hb); clear HO207; clear HB; have HO207 := n0_; have HO212 := n1_; have HB := n2_; clear n0_ n1_ n2_; (try clear hb); (try clear hb2); (try clear hk); (try clear hi); (try clear ho0)) | ((with_reducible refine gate_callee (f := 24) rfl ?_); refine goesL_ (some 48) rfl rfl Tryd.func24 (by kernel_rfl) rfl #[.int .u8 a1] rfl (by (try simp only [List.map_toArray, List.map_cons, List.map_nil]); first | done | rfl | (simp only [List.length_drop, List.length_take]; rfl)) ?_; (with_reducible refine (laws_kind9.calls a1 t213 _ A13.out).mono ?_); rintro e w' ⟨rfl, ⟨nd, rfl⟩⟩; refine ⟨_, rfl, ?_⟩) | ((with_reducible refine gate_callee (f := 27) rfl ?_); refine goesL_ (some 50) rfl rfl Tryd.func27 (by kernel_rfl) rfl #[.int .i64 t213, .string a0] rfl (by (try simp only [List.map_toArray, List.map_cons, List.map_nil]); first | done | rfl | (simp only [List.length_drop, List.length_take]; rfl)) ?_; (with_reducible refine (impl_Compiled.calls t213 a0 t214 t215 t216 _ (tab_at HT_.out (by repeat (first | (with_reducible first | exact HB.out | apply below_alloc | apply pw_below_drewN | apply below_drew1) | exact HB.out))) A14.out).mono ?_); rintro e w25 ⟨v217, rfl, ho0, hb⟩; refine ⟨_, rfl, ?_⟩; have n0_ := Aside0.mk (Kd.R_elder' (by (with_reducible repeat (first | apply Kd.R_alloc | apply Kd.R_drewN | apply Kd.R_drew)); exact HO207.out) (Kd.R_base ho0) hb); have n1_ := Aside0.mk (Kd.R_elder' (by (with_reducible repeat (first | apply Kd.R_alloc | apply Kd.R_drewN | apply Kd.R_drew)); exact HO212.out) (Kd.R_base ho0) hb); have n2_ := Aside0.mk (Kd.R_lower (Kd.R_new' (Kd.R_new' ho0 (Kd.R_lt (by (with_reducible repeat (first | apply Kd.R_alloc | apply Kd.R_drewN | apply Kd.R_drew)); exact HO207.out))) (Kd.R_lt (by (with_reducible repeat (first | apply Kd.R_alloc | apply Kd.R_drewN | apply Kd.R_drew)); exact HO212.out))) (below_size (by repeat (first | (with_reducible first | exact HB.out | apply below_alloc | apply pw_below_drewN | apply below_drew1) | exact HB.out)))); have n3_ := Aside0.mk (below_step (by repeat (first | (with_reducible first | exact HB.out | apply below_alloc | apply pw_below_drewN | apply below_drew1) | exact HB.out)) hb); clear HO207; clear HO212; clear HB; have HO207 := n0_; have HO212 := n1_; have HO218 := n2_; have HB := n3_; clear n0_ n1_ n2_ n3_; (try clear hb); (try clear hb2); (try clear hk); (try clear hi); (try clear ho0)) | (go_at_call 24; (with_reducible refine (laws_kind9.calls a1 t219 _ A17.out).mono ?_); rintro e w' ⟨rfl, ⟨nd, rfl⟩⟩) | (go_at_call 23; (with_reducible refine (impl_Rebound.calls t219 t208 t220 _ (tab_at HT_.out (by repeat (first | (with_reducible first | exact HB.out | apply below_alloc | apply pw_below_drewN | apply below_drew1) | exact HB.out))) A18.out).mono ?_); rintro e w26 ⟨rfl, hb⟩; have n0_ := Aside0.mk (Kd.R_below (by (with_reducible repeat (first | apply Kd.R_alloc | apply Kd.R_drewN | apply Kd.R_drew)); exact HO207.out) hb); have n1_ := Aside0.mk (Kd.R_below (by (with_reducible repeat (first | apply Kd.R_alloc | apply Kd.R_drewN | apply Kd.R_drew)); exact HO212.out) hb); have n2_ := Aside0.mk (Kd.R_below (by (with_reducible repeat (first | apply Kd.R_alloc | apply Kd.R_drewN | apply Kd.R_drew)); exact HO218.out) hb); have n3_ := Aside0.mk (below_step (by repeat (first | (with_reducible first | exact HB.out | apply below_alloc | apply pw_below_drewN | apply below_drew1) | exact HB.out)) hb); clear HO207; clear HO212; clear HO218; clear HB; have HO207 := n0_; have HO212 := n1_; have HO218 := n2_; have HB := n3_; clear n0_ n1_ n2_ n3_; (try clear hb); (try clear hb2); (try clear hk); (try clear hi); obtain ⟨Ao27, co27, eo27⟩ := Kd.R_slice HO212.out; subst eo27; obtain ⟨Ao28, co28, eo28⟩ := Kd.R_slice HO218.out; subst eo28) | (go_at_call 28; (with_reducible refine (laws_sameTexts9.calls kj3 _ _ t209 _ _ t215 true _ ?side1 ?side2 ?side3 ?side4 A20.out).mono ?_); (case side1 => repeat (first | exact (Kd.R_reads' HO212.out).2.2 | (with_reducible refine Kd.C_alloc ?_ _) | (with_reducible refine Kd.C_drewN ?_ _) | (with_reducible refine Kd.C_drew ?_))); (case side2 => exact (Kd.R_reads' HO212.out).2.1); (case side3 => repeat (first | exact (Kd.R_reads' HO218.out).2.2 | (with_reducible refine Kd.C_alloc ?_ _) | (with_reducible refine Kd.C_drewN ?_ _) | (with_reducible refine Kd.C_drew ?_))); (case side4 => exact (Kd.R_reads' HO218.out).2.1); rintro e w' ⟨rfl, ⟨nd, rfl⟩⟩) | (go_at_call 23; (with_reducible refine (impl_Rebound.calls 4 (⟨#[63]⟩ : ByteArray) t222 _ (tab_at HT_.out (by repeat (first | (with_reducible first | exact HB.out | apply below_alloc | apply pw_below_drewN | apply below_drew1) | exact HB.out))) A22.out).mono ?_); rintro e w29 ⟨rfl, hb⟩; have n0_ := Aside0.mk (Kd.R_below (by (with_reducible repeat (first | apply Kd.R_alloc | apply Kd.R_drewN | apply Kd.R_drew)); exact HO207.out) hb); have n1_ := Aside0.mk (Kd.R_below (by (with_reducible repeat (first | apply Kd.R_alloc | apply Kd.R_drewN | apply Kd.R_drew)); exact HO212.out) hb); have n2_ := Aside0.mk (Kd.R_below (by (with_reducible repeat (first | apply Kd.R_alloc | apply Kd.R_drewN | apply Kd.R_drew)); exact HO218.out) hb); have n3_ := Aside0.mk (below_step (by repeat (first | (with_reducible first | exact HB.out | apply below_alloc | apply pw_below_drewN | apply below_drew1) | exact HB.out)) hb); clear HO207; clear HO212; clear HO218; clear HB; have HO207 := n0_; have HO212 := n1_; have HO218 := n2_; have HB := n3_; clear n0_ n1_ n2_ n3_; (try clear hb); (try clear hb2); (try clear hk); (try clear hi)))
                    go_ret
                    exact ⟨by first | rfl | (simp [errW_none, errW_some] <;> rfl) | (simp [*, errW_none, errW_some] <;> rfl), by repeat (first | (with_reducible first | exact HB.out | apply below_alloc | apply pw_below_drewN | apply below_drew1) | exact HB.out)⟩
                  · replace c21 := Bool.eq_false_iff.mpr c21
                    subst c21
                    have H1 : (some false) = some r := by rw [if_neg (show ¬ (false = true) by decide)] at H; exact H
                    clear H
                    have H := H1
                    clear H1
                    obtain rfl := Option.some.inj H
                    go_wp2_with (first | ((with_reducible refine gate_callee (f := 26) rfl ?_); refine goesL_ (some 33) rfl rfl Tryd.func26 (by kernel_rfl) rfl #[.int .i64 1, .string a0] rfl (by (try simp only [List.map_toArray, List.map_cons, List.map_nil]); first | done | rfl | (simp only [List.length_drop, List.length_take]; rfl)) ?_; (with_reducible refine (spec_Compiled.calls kj3 1 a0 t202 t203 t204 true _ A10.out).mono ?_); rintro e w30 ⟨v206, rfl, ho0, hb⟩; refine ⟨_, rfl, ?_⟩; have n0_ := Aside0.mk (Kd.R_lower ho0 (below_size (by repeat (first | (with_reducible first | exact HB.out | apply below_alloc | apply pw_below_drewN | apply below_drew1) | exact HB.out)))); have n1_ := Aside0.mk (below_step (by repeat (first | (with_reducible first | exact HB.out | apply below_alloc | apply pw_below_drewN | apply below_drew1) | exact HB.out)) hb); clear HB; have HO207 := n0_; have HB := n1_; clear n0_ n1_; (try clear hb); (try clear hb2); (try clear hk); (try clear hi); (try clear ho0)) | ((with_reducible refine gate_callee (f := 27) rfl ?_); refine goesL_ (some 42) rfl rfl Tryd.func27 (by kernel_rfl) rfl #[.int .i64 1, .string a0] rfl (by (try simp only [List.map_toArray, List.map_cons, List.map_nil]); first | done | rfl | (simp only [List.length_drop, List.length_take]; rfl)) ?_; (with_reducible refine (impl_Compiled.calls 1 a0 t208 t209 true _ (tab_at HT_.out (by repeat (first | (with_reducible first | exact HB.out | apply below_alloc | apply pw_below_drewN | apply below_drew1) | exact HB.out))) A12.out).mono ?_); rintro e w31 ⟨v211, rfl, ho0, hb⟩; refine ⟨_, rfl, ?_⟩; have n0_ := Aside0.mk (Kd.R_elder' (by (with_reducible repeat (first | apply Kd.R_alloc | apply Kd.R_drewN | apply Kd.R_drew)); exact HO207.out) (Kd.R_base ho0) hb); have n1_ := Aside0.mk (Kd.R_lower (Kd.R_new' ho0 (Kd.R_lt (by (with_reducible repeat (first | apply Kd.R_alloc | apply Kd.R_drewN | apply Kd.R_drew)); exact HO207.out))) (below_size (by repeat (first | (with_reducible first | exact HB.out | apply below_alloc | apply pw_below_drewN | apply below_drew1) | exact HB.out)))); have n2_ := Aside0.mk (below_step (by repeat (first | (with_reducible first | exact HB.out | apply below_alloc | apply pw_below_drewN | apply below_drew1) | exact HB.out)) hb); clear HO207; clear HB; have HO207 := n0_; have HO212 := n1_; have HB := n2_; clear n0_ n1_ n2_; (try clear hb); (try clear hb2); (try clear hk); (try clear hi); (try clear ho0)) | ((with_reducible refine gate_callee (f := 24) rfl ?_); refine goesL_ (some 48) rfl rfl Tryd.func24 (by kernel_rfl) rfl #[.int .u8 a1] rfl (by (try simp only [List.map_toArray, List.map_cons, List.map_nil]); first | done | rfl | (simp only [List.length_drop, List.length_take]; rfl)) ?_; (with_reducible refine (laws_kind9.calls a1 t213 _ A13.out).mono ?_); rintro e w' ⟨rfl, ⟨nd, rfl⟩⟩; refine ⟨_, rfl, ?_⟩) | ((with_reducible refine gate_callee (f := 27) rfl ?_); refine goesL_ (some 50) rfl rfl Tryd.func27 (by kernel_rfl) rfl #[.int .i64 t213, .string a0] rfl (by (try simp only [List.map_toArray, List.map_cons, List.map_nil]); first | done | rfl | (simp only [List.length_drop, List.length_take]; rfl)) ?_; (with_reducible refine (impl_Compiled.calls t213 a0 t214 t215 t216 _ (tab_at HT_.out (by repeat (first | (with_reducible first | exact HB.out | apply below_alloc | apply pw_below_drewN | apply below_drew1) | exact HB.out))) A14.out).mono ?_); rintro e w32 ⟨v217, rfl, ho0, hb⟩; refine ⟨_, rfl, ?_⟩; have n0_ := Aside0.mk (Kd.R_elder' (by (with_reducible repeat (first | apply Kd.R_alloc | apply Kd.R_drewN | apply Kd.R_drew)); exact HO207.out) (Kd.R_base ho0) hb); have n1_ := Aside0.mk (Kd.R_elder' (by (with_reducible repeat (first | apply Kd.R_alloc | apply Kd.R_drewN | apply Kd.R_drew)); exact HO212.out) (Kd.R_base ho0) hb); have n2_ := Aside0.mk (Kd.R_lower (Kd.R_new' (Kd.R_new' ho0 (Kd.R_lt (by (with_reducible repeat (first | apply Kd.R_alloc | apply Kd.R_drewN | apply Kd.R_drew)); exact HO207.out))) (Kd.R_lt (by (with_reducible repeat (first | apply Kd.R_alloc | apply Kd.R_drewN | apply Kd.R_drew)); exact HO212.out))) (below_size (by repeat (first | (with_reducible first | exact HB.out | apply below_alloc | apply pw_below_drewN | apply below_drew1) | exact HB.out)))); have n3_ := Aside0.mk (below_step (by repeat (first | (with_reducible first | exact HB.out | apply below_alloc | apply pw_below_drewN | apply below_drew1) | exact HB.out)) hb); clear HO207; clear HO212; clear HB; have HO207 := n0_; have HO212 := n1_; have HO218 := n2_; have HB := n3_; clear n0_ n1_ n2_ n3_; (try clear hb); (try clear hb2); (try clear hk); (try clear hi); (try clear ho0)) | (go_at_call 24; (with_reducible refine (laws_kind9.calls a1 t219 _ A17.out).mono ?_); rintro e w' ⟨rfl, ⟨nd, rfl⟩⟩) | (go_at_call 23; (with_reducible refine (impl_Rebound.calls t219 t208 t220 _ (tab_at HT_.out (by repeat (first | (with_reducible first | exact HB.out | apply below_alloc | apply pw_below_drewN | apply below_drew1) | exact HB.out))) A18.out).mono ?_); rintro e w33 ⟨rfl, hb⟩; have n0_ := Aside0.mk (Kd.R_below (by (with_reducible repeat (first | apply Kd.R_alloc | apply Kd.R_drewN | apply Kd.R_drew)); exact HO207.out) hb); have n1_ := Aside0.mk (Kd.R_below (by (with_reducible repeat (first | apply Kd.R_alloc | apply Kd.R_drewN | apply Kd.R_drew)); exact HO212.out) hb); have n2_ := Aside0.mk (Kd.R_below (by (with_reducible repeat (first | apply Kd.R_alloc | apply Kd.R_drewN | apply Kd.R_drew)); exact HO218.out) hb); have n3_ := Aside0.mk (below_step (by repeat (first | (with_reducible first | exact HB.out | apply below_alloc | apply pw_below_drewN | apply below_drew1) | exact HB.out)) hb); clear HO207; clear HO212; clear HO218; clear HB; have HO207 := n0_; have HO212 := n1_; have HO218 := n2_; have HB := n3_; clear n0_ n1_ n2_ n3_; (try clear hb); (try clear hb2); (try clear hk); (try clear hi); obtain ⟨Ao34, co34, eo34⟩ := Kd.R_slice HO212.out; subst eo34; obtain ⟨Ao35, co35, eo35⟩ := Kd.R_slice HO218.out; subst eo35) | (go_at_call 28; (with_reducible refine (laws_sameTexts9.calls kj3 _ _ t209 _ _ t215 false _ ?side1 ?side2 ?side3 ?side4 A20.out).mono ?_); (case side1 => repeat (first | exact (Kd.R_reads' HO212.out).2.2 | (with_reducible refine Kd.C_alloc ?_ _) | (with_reducible refine Kd.C_drewN ?_ _) | (with_reducible refine Kd.C_drew ?_))); (case side2 => exact (Kd.R_reads' HO212.out).2.1); (case side3 => repeat (first | exact (Kd.R_reads' HO218.out).2.2 | (with_reducible refine Kd.C_alloc ?_ _) | (with_reducible refine Kd.C_drewN ?_ _) | (with_reducible refine Kd.C_drew ?_))); (case side4 => exact (Kd.R_reads' HO218.out).2.1); rintro e w' ⟨rfl, ⟨nd, rfl⟩⟩))
                    go_ret
                    exact ⟨by first | rfl | (simp [errW_none, errW_some] <;> rfl) | (simp [*, errW_none, errW_some] <;> rfl), by repeat (first | (with_reducible first | exact HB.out | apply below_alloc | apply pw_below_drewN | apply below_drew1) | exact HB.out)⟩
                · rw [if_neg c19] at H
                  have c19b0 : (t220.toList == t214.toList) = false := beq_eq_false_iff_ne.mpr c19
                  have c19b1 : (t220.toList != t214.toList) = true := bne_iff_ne.mpr c19
                  obtain rfl := Option.some.inj H
                  go_wp2_with (first | ((with_reducible refine gate_callee (f := 26) rfl ?_); refine goesL_ (some 33) rfl rfl Tryd.func26 (by kernel_rfl) rfl #[.int .i64 1, .string a0] rfl (by (try simp only [List.map_toArray, List.map_cons, List.map_nil]); first | done | rfl | (simp only [List.length_drop, List.length_take]; rfl)) ?_; (with_reducible refine (spec_Compiled.calls kj3 1 a0 t202 t203 t204 true _ A10.out).mono ?_); rintro e w36 ⟨v206, rfl, ho0, hb⟩; refine ⟨_, rfl, ?_⟩; have n0_ := Aside0.mk (Kd.R_lower ho0 (below_size (by repeat (first | (with_reducible first | exact HB.out | apply below_alloc | apply pw_below_drewN | apply below_drew1) | exact HB.out)))); have n1_ := Aside0.mk (below_step (by repeat (first | (with_reducible first | exact HB.out | apply below_alloc | apply pw_below_drewN | apply below_drew1) | exact HB.out)) hb); clear HB; have HO207 := n0_; have HB := n1_; clear n0_ n1_; (try clear hb); (try clear hb2); (try clear hk); (try clear hi); (try clear ho0)) | ((with_reducible refine gate_callee (f := 27) rfl ?_); refine goesL_ (some 42) rfl rfl Tryd.func27 (by kernel_rfl) rfl #[.int .i64 1, .string a0] rfl (by (try simp only [List.map_toArray, List.map_cons, List.map_nil]); first | done | rfl | (simp only [List.length_drop, List.length_take]; rfl)) ?_; (with_reducible refine (impl_Compiled.calls 1 a0 t208 t209 true _ (tab_at HT_.out (by repeat (first | (with_reducible first | exact HB.out | apply below_alloc | apply pw_below_drewN | apply below_drew1) | exact HB.out))) A12.out).mono ?_); rintro e w37 ⟨v211, rfl, ho0, hb⟩; refine ⟨_, rfl, ?_⟩; have n0_ := Aside0.mk (Kd.R_elder' (by (with_reducible repeat (first | apply Kd.R_alloc | apply Kd.R_drewN | apply Kd.R_drew)); exact HO207.out) (Kd.R_base ho0) hb); have n1_ := Aside0.mk (Kd.R_lower (Kd.R_new' ho0 (Kd.R_lt (by (with_reducible repeat (first | apply Kd.R_alloc | apply Kd.R_drewN | apply Kd.R_drew)); exact HO207.out))) (below_size (by repeat (first | (with_reducible first | exact HB.out | apply below_alloc | apply pw_below_drewN | apply below_drew1) | exact HB.out)))); have n2_ := Aside0.mk (below_step (by repeat (first | (with_reducible first | exact HB.out | apply below_alloc | apply pw_below_drewN | apply below_drew1) | exact HB.out)) hb); clear HO207; clear HB; have HO207 := n0_; have HO212 := n1_; have HB := n2_; clear n0_ n1_ n2_; (try clear hb); (try clear hb2); (try clear hk); (try clear hi); (try clear ho0)) | ((with_reducible refine gate_callee (f := 24) rfl ?_); refine goesL_ (some 48) rfl rfl Tryd.func24 (by kernel_rfl) rfl #[.int .u8 a1] rfl (by (try simp only [List.map_toArray, List.map_cons, List.map_nil]); first | done | rfl | (simp only [List.length_drop, List.length_take]; rfl)) ?_; (with_reducible refine (laws_kind9.calls a1 t213 _ A13.out).mono ?_); rintro e w' ⟨rfl, ⟨nd, rfl⟩⟩; refine ⟨_, rfl, ?_⟩) | ((with_reducible refine gate_callee (f := 27) rfl ?_); refine goesL_ (some 50) rfl rfl Tryd.func27 (by kernel_rfl) rfl #[.int .i64 t213, .string a0] rfl (by (try simp only [List.map_toArray, List.map_cons, List.map_nil]); first | done | rfl | (simp only [List.length_drop, List.length_take]; rfl)) ?_; (with_reducible refine (impl_Compiled.calls t213 a0 t214 t215 t216 _ (tab_at HT_.out (by repeat (first | (with_reducible first | exact HB.out | apply below_alloc | apply pw_below_drewN | apply below_drew1) | exact HB.out))) A14.out).mono ?_); rintro e w38 ⟨v217, rfl, ho0, hb⟩; refine ⟨_, rfl, ?_⟩; have n0_ := Aside0.mk (Kd.R_elder' (by (with_reducible repeat (first | apply Kd.R_alloc | apply Kd.R_drewN | apply Kd.R_drew)); exact HO207.out) (Kd.R_base ho0) hb); have n1_ := Aside0.mk (Kd.R_elder' (by (with_reducible repeat (first | apply Kd.R_alloc | apply Kd.R_drewN | apply Kd.R_drew)); exact HO212.out) (Kd.R_base ho0) hb); have n2_ := Aside0.mk (Kd.R_lower (Kd.R_new' (Kd.R_new' ho0 (Kd.R_lt (by (with_reducible repeat (first | apply Kd.R_alloc | apply Kd.R_drewN | apply Kd.R_drew)); exact HO207.out))) (Kd.R_lt (by (with_reducible repeat (first | apply Kd.R_alloc | apply Kd.R_drewN | apply Kd.R_drew)); exact HO212.out))) (below_size (by repeat (first | (with_reducible first | exact HB.out | apply below_alloc | apply pw_below_drewN | apply below_drew1) | exact HB.out)))); have n3_ := Aside0.mk (below_step (by repeat (first | (with_reducible first | exact HB.out | apply below_alloc | apply pw_below_drewN | apply below_drew1) | exact HB.out)) hb); clear HO207; clear HO212; clear HB; have HO207 := n0_; have HO212 := n1_; have HO218 := n2_; have HB := n3_; clear n0_ n1_ n2_ n3_; (try clear hb); (try clear hb2); (try clear hk); (try clear hi); (try clear ho0)) | (go_at_call 24; (with_reducible refine (laws_kind9.calls a1 t219 _ A17.out).mono ?_); rintro e w' ⟨rfl, ⟨nd, rfl⟩⟩) | (go_at_call 23; (with_reducible refine (impl_Rebound.calls t219 t208 t220 _ (tab_at HT_.out (by repeat (first | (with_reducible first | exact HB.out | apply below_alloc | apply pw_below_drewN | apply below_drew1) | exact HB.out))) A18.out).mono ?_); rintro e w39 ⟨rfl, hb⟩; have n0_ := Aside0.mk (Kd.R_below (by (with_reducible repeat (first | apply Kd.R_alloc | apply Kd.R_drewN | apply Kd.R_drew)); exact HO207.out) hb); have n1_ := Aside0.mk (Kd.R_below (by (with_reducible repeat (first | apply Kd.R_alloc | apply Kd.R_drewN | apply Kd.R_drew)); exact HO212.out) hb); have n2_ := Aside0.mk (Kd.R_below (by (with_reducible repeat (first | apply Kd.R_alloc | apply Kd.R_drewN | apply Kd.R_drew)); exact HO218.out) hb); have n3_ := Aside0.mk (below_step (by repeat (first | (with_reducible first | exact HB.out | apply below_alloc | apply pw_below_drewN | apply below_drew1) | exact HB.out)) hb); clear HO207; clear HO212; clear HO218; clear HB; have HO207 := n0_; have HO212 := n1_; have HO218 := n2_; have HB := n3_; clear n0_ n1_ n2_ n3_; (try clear hb); (try clear hb2); (try clear hk); (try clear hi)))
                  go_ret
                  exact ⟨by first | rfl | (simp [errW_none, errW_some] <;> rfl) | (simp [*, errW_none, errW_some] <;> rfl), by repeat (first | (with_reducible first | exact HB.out | apply below_alloc | apply pw_below_drewN | apply below_drew1) | exact HB.out)⟩
              · replace c16 := Bool.eq_false_iff.mpr c16
                subst c16
                have H1 : ((impl_Rebound.f 4 (⟨#[63]⟩ : ByteArray)).bind fun t223 => (some (t223.toList == ([64, 112, 49] : List UInt8)))) = some r := by rw [if_neg (show ¬ (false = true) by decide)] at H; exact H
                clear H
                have H := H1
                clear H1
                replace H := Option.bind_eq_some_iff.mp H
                obtain ⟨t223, A400, H⟩ := H
                replace H : (some (t223.toList == ([64, 112, 49] : List UInt8))) = some r := H
                have A40 := Aside0.mk A400
                clear A400
                obtain rfl := Option.some.inj H
                go_wp2_with (first | ((with_reducible refine gate_callee (f := 26) rfl ?_); refine goesL_ (some 33) rfl rfl Tryd.func26 (by kernel_rfl) rfl #[.int .i64 1, .string a0] rfl (by (try simp only [List.map_toArray, List.map_cons, List.map_nil]); first | done | rfl | (simp only [List.length_drop, List.length_take]; rfl)) ?_; (with_reducible refine (spec_Compiled.calls kj3 1 a0 t202 t203 t204 true _ A10.out).mono ?_); rintro e w41 ⟨v206, rfl, ho0, hb⟩; refine ⟨_, rfl, ?_⟩; have n0_ := Aside0.mk (Kd.R_lower ho0 (below_size (by repeat (first | (with_reducible first | exact HB.out | apply below_alloc | apply pw_below_drewN | apply below_drew1) | exact HB.out)))); have n1_ := Aside0.mk (below_step (by repeat (first | (with_reducible first | exact HB.out | apply below_alloc | apply pw_below_drewN | apply below_drew1) | exact HB.out)) hb); clear HB; have HO207 := n0_; have HB := n1_; clear n0_ n1_; (try clear hb); (try clear hb2); (try clear hk); (try clear hi); (try clear ho0)) | ((with_reducible refine gate_callee (f := 27) rfl ?_); refine goesL_ (some 42) rfl rfl Tryd.func27 (by kernel_rfl) rfl #[.int .i64 1, .string a0] rfl (by (try simp only [List.map_toArray, List.map_cons, List.map_nil]); first | done | rfl | (simp only [List.length_drop, List.length_take]; rfl)) ?_; (with_reducible refine (impl_Compiled.calls 1 a0 t208 t209 false _ (tab_at HT_.out (by repeat (first | (with_reducible first | exact HB.out | apply below_alloc | apply pw_below_drewN | apply below_drew1) | exact HB.out))) A12.out).mono ?_); rintro e w42 ⟨v211, rfl, ho0, hb⟩; refine ⟨_, rfl, ?_⟩; have n0_ := Aside0.mk (Kd.R_elder' (by (with_reducible repeat (first | apply Kd.R_alloc | apply Kd.R_drewN | apply Kd.R_drew)); exact HO207.out) (Kd.R_base ho0) hb); have n1_ := Aside0.mk (Kd.R_lower (Kd.R_new' ho0 (Kd.R_lt (by (with_reducible repeat (first | apply Kd.R_alloc | apply Kd.R_drewN | apply Kd.R_drew)); exact HO207.out))) (below_size (by repeat (first | (with_reducible first | exact HB.out | apply below_alloc | apply pw_below_drewN | apply below_drew1) | exact HB.out)))); have n2_ := Aside0.mk (below_step (by repeat (first | (with_reducible first | exact HB.out | apply below_alloc | apply pw_below_drewN | apply below_drew1) | exact HB.out)) hb); clear HO207; clear HB; have HO207 := n0_; have HO212 := n1_; have HB := n2_; clear n0_ n1_ n2_; (try clear hb); (try clear hb2); (try clear hk); (try clear hi); (try clear ho0)) | ((with_reducible refine gate_callee (f := 24) rfl ?_); refine goesL_ (some 48) rfl rfl Tryd.func24 (by kernel_rfl) rfl #[.int .u8 a1] rfl (by (try simp only [List.map_toArray, List.map_cons, List.map_nil]); first | done | rfl | (simp only [List.length_drop, List.length_take]; rfl)) ?_; (with_reducible refine (laws_kind9.calls a1 t213 _ A13.out).mono ?_); rintro e w' ⟨rfl, ⟨nd, rfl⟩⟩; refine ⟨_, rfl, ?_⟩) | ((with_reducible refine gate_callee (f := 27) rfl ?_); refine goesL_ (some 50) rfl rfl Tryd.func27 (by kernel_rfl) rfl #[.int .i64 t213, .string a0] rfl (by (try simp only [List.map_toArray, List.map_cons, List.map_nil]); first | done | rfl | (simp only [List.length_drop, List.length_take]; rfl)) ?_; (with_reducible refine (impl_Compiled.calls t213 a0 t214 t215 t216 _ (tab_at HT_.out (by repeat (first | (with_reducible first | exact HB.out | apply below_alloc | apply pw_below_drewN | apply below_drew1) | exact HB.out))) A14.out).mono ?_); rintro e w43 ⟨v217, rfl, ho0, hb⟩; refine ⟨_, rfl, ?_⟩; have n0_ := Aside0.mk (Kd.R_elder' (by (with_reducible repeat (first | apply Kd.R_alloc | apply Kd.R_drewN | apply Kd.R_drew)); exact HO207.out) (Kd.R_base ho0) hb); have n1_ := Aside0.mk (Kd.R_elder' (by (with_reducible repeat (first | apply Kd.R_alloc | apply Kd.R_drewN | apply Kd.R_drew)); exact HO212.out) (Kd.R_base ho0) hb); have n2_ := Aside0.mk (Kd.R_lower (Kd.R_new' (Kd.R_new' ho0 (Kd.R_lt (by (with_reducible repeat (first | apply Kd.R_alloc | apply Kd.R_drewN | apply Kd.R_drew)); exact HO207.out))) (Kd.R_lt (by (with_reducible repeat (first | apply Kd.R_alloc | apply Kd.R_drewN | apply Kd.R_drew)); exact HO212.out))) (below_size (by repeat (first | (with_reducible first | exact HB.out | apply below_alloc | apply pw_below_drewN | apply below_drew1) | exact HB.out)))); have n3_ := Aside0.mk (below_step (by repeat (first | (with_reducible first | exact HB.out | apply below_alloc | apply pw_below_drewN | apply below_drew1) | exact HB.out)) hb); clear HO207; clear HO212; clear HB; have HO207 := n0_; have HO212 := n1_; have HO218 := n2_; have HB := n3_; clear n0_ n1_ n2_ n3_; (try clear hb); (try clear hb2); (try clear hk); (try clear hi); (try clear ho0)) | (go_at_call 23; (with_reducible refine (impl_Rebound.calls 4 (⟨#[63]⟩ : ByteArray) t223 _ (tab_at HT_.out (by repeat (first | (with_reducible first | exact HB.out | apply below_alloc | apply pw_below_drewN | apply below_drew1) | exact HB.out))) A40.out).mono ?_); rintro e w44 ⟨rfl, hb⟩; have n0_ := Aside0.mk (Kd.R_below (by (with_reducible repeat (first | apply Kd.R_alloc | apply Kd.R_drewN | apply Kd.R_drew)); exact HO207.out) hb); have n1_ := Aside0.mk (Kd.R_below (by (with_reducible repeat (first | apply Kd.R_alloc | apply Kd.R_drewN | apply Kd.R_drew)); exact HO212.out) hb); have n2_ := Aside0.mk (Kd.R_below (by (with_reducible repeat (first | apply Kd.R_alloc | apply Kd.R_drewN | apply Kd.R_drew)); exact HO218.out) hb); have n3_ := Aside0.mk (below_step (by repeat (first | (with_reducible first | exact HB.out | apply below_alloc | apply pw_below_drewN | apply below_drew1) | exact HB.out)) hb); clear HO207; clear HO212; clear HO218; clear HB; have HO207 := n0_; have HO212 := n1_; have HO218 := n2_; have HB := n3_; clear n0_ n1_ n2_ n3_; (try clear hb); (try clear hb2); (try clear hk); (try clear hi)))
                go_ret
                exact ⟨by first | rfl | (simp [errW_none, errW_some] <;> rfl) | (simp [*, errW_none, errW_some] <;> rfl), by repeat (first | (with_reducible first | exact HB.out | apply below_alloc | apply pw_below_drewN | apply below_drew1) | exact HB.out)⟩
            · rw [if_neg c15] at H
              have c15b0 : (t210 == t216) = false := by simpa using c15
              (try (have c15b1 : decide (t210 = t216) = false := by simpa using c15))
              (try (have c15b2 : (t210 == t216) = false := by simpa using c15))
              (try (have c15b3 : ¬ (t210 = t216) := by simpa using c15))
              clear c15
              obtain rfl := Option.some.inj H
              go_wp2_with (first | ((with_reducible refine gate_callee (f := 26) rfl ?_); refine goesL_ (some 33) rfl rfl Tryd.func26 (by kernel_rfl) rfl #[.int .i64 1, .string a0] rfl (by (try simp only [List.map_toArray, List.map_cons, List.map_nil]); first | done | rfl | (simp only [List.length_drop, List.length_take]; rfl)) ?_; (with_reducible refine (spec_Compiled.calls kj3 1 a0 t202 t203 t204 true _ A10.out).mono ?_); rintro e w45 ⟨v206, rfl, ho0, hb⟩; refine ⟨_, rfl, ?_⟩; have n0_ := Aside0.mk (Kd.R_lower ho0 (below_size (by repeat (first | (with_reducible first | exact HB.out | apply below_alloc | apply pw_below_drewN | apply below_drew1) | exact HB.out)))); have n1_ := Aside0.mk (below_step (by repeat (first | (with_reducible first | exact HB.out | apply below_alloc | apply pw_below_drewN | apply below_drew1) | exact HB.out)) hb); clear HB; have HO207 := n0_; have HB := n1_; clear n0_ n1_; (try clear hb); (try clear hb2); (try clear hk); (try clear hi); (try clear ho0)) | ((with_reducible refine gate_callee (f := 27) rfl ?_); refine goesL_ (some 42) rfl rfl Tryd.func27 (by kernel_rfl) rfl #[.int .i64 1, .string a0] rfl (by (try simp only [List.map_toArray, List.map_cons, List.map_nil]); first | done | rfl | (simp only [List.length_drop, List.length_take]; rfl)) ?_; (with_reducible refine (impl_Compiled.calls 1 a0 t208 t209 t210 _ (tab_at HT_.out (by repeat (first | (with_reducible first | exact HB.out | apply below_alloc | apply pw_below_drewN | apply below_drew1) | exact HB.out))) A12.out).mono ?_); rintro e w46 ⟨v211, rfl, ho0, hb⟩; refine ⟨_, rfl, ?_⟩; have n0_ := Aside0.mk (Kd.R_elder' (by (with_reducible repeat (first | apply Kd.R_alloc | apply Kd.R_drewN | apply Kd.R_drew)); exact HO207.out) (Kd.R_base ho0) hb); have n1_ := Aside0.mk (Kd.R_lower (Kd.R_new' ho0 (Kd.R_lt (by (with_reducible repeat (first | apply Kd.R_alloc | apply Kd.R_drewN | apply Kd.R_drew)); exact HO207.out))) (below_size (by repeat (first | (with_reducible first | exact HB.out | apply below_alloc | apply pw_below_drewN | apply below_drew1) | exact HB.out)))); have n2_ := Aside0.mk (below_step (by repeat (first | (with_reducible first | exact HB.out | apply below_alloc | apply pw_below_drewN | apply below_drew1) | exact HB.out)) hb); clear HO207; clear HB; have HO207 := n0_; have HO212 := n1_; have HB := n2_; clear n0_ n1_ n2_; (try clear hb); (try clear hb2); (try clear hk); (try clear hi); (try clear ho0)) | ((with_reducible refine gate_callee (f := 24) rfl ?_); refine goesL_ (some 48) rfl rfl Tryd.func24 (by kernel_rfl) rfl #[.int .u8 a1] rfl (by (try simp only [List.map_toArray, List.map_cons, List.map_nil]); first | done | rfl | (simp only [List.length_drop, List.length_take]; rfl)) ?_; (with_reducible refine (laws_kind9.calls a1 t213 _ A13.out).mono ?_); rintro e w' ⟨rfl, ⟨nd, rfl⟩⟩; refine ⟨_, rfl, ?_⟩) | ((with_reducible refine gate_callee (f := 27) rfl ?_); refine goesL_ (some 50) rfl rfl Tryd.func27 (by kernel_rfl) rfl #[.int .i64 t213, .string a0] rfl (by (try simp only [List.map_toArray, List.map_cons, List.map_nil]); first | done | rfl | (simp only [List.length_drop, List.length_take]; rfl)) ?_; (with_reducible refine (impl_Compiled.calls t213 a0 t214 t215 t216 _ (tab_at HT_.out (by repeat (first | (with_reducible first | exact HB.out | apply below_alloc | apply pw_below_drewN | apply below_drew1) | exact HB.out))) A14.out).mono ?_); rintro e w47 ⟨v217, rfl, ho0, hb⟩; refine ⟨_, rfl, ?_⟩; have n0_ := Aside0.mk (Kd.R_elder' (by (with_reducible repeat (first | apply Kd.R_alloc | apply Kd.R_drewN | apply Kd.R_drew)); exact HO207.out) (Kd.R_base ho0) hb); have n1_ := Aside0.mk (Kd.R_elder' (by (with_reducible repeat (first | apply Kd.R_alloc | apply Kd.R_drewN | apply Kd.R_drew)); exact HO212.out) (Kd.R_base ho0) hb); have n2_ := Aside0.mk (Kd.R_lower (Kd.R_new' (Kd.R_new' ho0 (Kd.R_lt (by (with_reducible repeat (first | apply Kd.R_alloc | apply Kd.R_drewN | apply Kd.R_drew)); exact HO207.out))) (Kd.R_lt (by (with_reducible repeat (first | apply Kd.R_alloc | apply Kd.R_drewN | apply Kd.R_drew)); exact HO212.out))) (below_size (by repeat (first | (with_reducible first | exact HB.out | apply below_alloc | apply pw_below_drewN | apply below_drew1) | exact HB.out)))); have n3_ := Aside0.mk (below_step (by repeat (first | (with_reducible first | exact HB.out | apply below_alloc | apply pw_below_drewN | apply below_drew1) | exact HB.out)) hb); clear HO207; clear HO212; clear HB; have HO207 := n0_; have HO212 := n1_; have HO218 := n2_; have HB := n3_; clear n0_ n1_ n2_ n3_; (try clear hb); (try clear hb2); (try clear hk); (try clear hi); (try clear ho0)))
              go_ret
              exact ⟨by first | rfl | (simp [errW_none, errW_some] <;> rfl) | (simp [*, errW_none, errW_some] <;> rfl), by repeat (first | (with_reducible first | exact HB.out | apply below_alloc | apply pw_below_drewN | apply below_drew1) | exact HB.out)⟩
          · replace c11 := Bool.eq_false_iff.mpr c11
            subst c11
            have H1 : (some true) = some r := by rw [if_neg (show ¬ (false = true) by decide)] at H; exact H
            clear H
            have H := H1
            clear H1
            obtain rfl := Option.some.inj H
            go_wp2_with (first | ((with_reducible refine gate_callee (f := 26) rfl ?_); refine goesL_ (some 33) rfl rfl Tryd.func26 (by kernel_rfl) rfl #[.int .i64 1, .string a0] rfl (by (try simp only [List.map_toArray, List.map_cons, List.map_nil]); first | done | rfl | (simp only [List.length_drop, List.length_take]; rfl)) ?_; (with_reducible refine (spec_Compiled.calls kj3 1 a0 t202 t203 t204 false _ A10.out).mono ?_); rintro e w48 ⟨v206, rfl, ho0, hb⟩; refine ⟨_, rfl, ?_⟩; have n0_ := Aside0.mk (Kd.R_lower ho0 (below_size (by repeat (first | (with_reducible first | exact HB.out | apply below_alloc | apply pw_below_drewN | apply below_drew1) | exact HB.out)))); have n1_ := Aside0.mk (below_step (by repeat (first | (with_reducible first | exact HB.out | apply below_alloc | apply pw_below_drewN | apply below_drew1) | exact HB.out)) hb); clear HB; have HO207 := n0_; have HB := n1_; clear n0_ n1_; (try clear hb); (try clear hb2); (try clear hk); (try clear hi); (try clear ho0)))
            go_ret
            exact ⟨by first | rfl | (simp [errW_none, errW_some] <;> rfl) | (simp [*, errW_none, errW_some] <;> rfl), by repeat (first | (with_reducible first | exact HB.out | apply below_alloc | apply pw_below_drewN | apply below_drew1) | exact HB.out)⟩

/-- THE ONE PURE STATEMENT of laws_FnCompiledKinds: yours. -/
def laws_FnCompiledKinds.Pure : Prop := ∀ (a0 : ByteArray) (a1 : Int), a0.size ≤ 140737488351232 → (Lit.int .u8 a1).wf = true → ∃ k, laws_FnCompiledKinds.f k a0 a1 = some true
theorem laws_FnCompiledKinds.walk (P : laws_FnCompiledKinds.Pure) (a0 : ByteArray) (a1 : Int) (w : World) (ht_ : Tab w) (w0 : a0.size ≤ 140737488351232) (w1 : (Lit.int .u8 a1).wf = true) :
    Calls Tryd.prog 9 #[.string a0, .int .u8 a1] w fun e w' => e = .returned (.bool true) ∧ Below w.heap.size w w' := by
  obtain ⟨k, h⟩ := P a0 a1 w0 w1
  refine (laws_FnCompiledKinds.calls k a0 a1 true w ht_ h).mono ?_
  rintro e w' ⟨rfl, hd⟩
  exact ⟨rfl, hd⟩

end Go.Proofs.YtnmhoghmhglimaaDoor.QC
