-- WRITTEN BY A PROGRAM OF THIS SESSION (wip/print2.py): the print, with contracts of this session's own let in. Not trusted: Lean checks it.
import Derived.Test.YtnmhoghmhglimaaDoorQB0
import Derived.Test.YtnmhoghmhglimaaDoorQB1
namespace Go.Proofs.YtnmhoghmhglimaaDoor.QB
open Go.RowKit Go.Proofs.YtnmhoghmhglimaaDoorW.PrintWords Go.Proofs.YtnmhoghmhglimaaDoorW.PrintLast Go.Proofs.YtnmhoghmhglimaaDoorW.PrintMore
attribute [local go_sem] max2_int min2_int max_two min_two max_three min_three max_four min_four   -- for this text's walks alone
set_option linter.unusedVariables false
set_option linter.unusedSimpArgs false

/-! ### spec_ValuesAt: function 21 -/
def spec_ValuesAt.l0 : Nat → ByteArray → Int → Option (Int)
  | 0, _, _ => none
  | k + 1, x0, x3 => if x3 < (x0.size : Int) then (if 0 ≤ x3 then (if (bt x0 x3) = 41 then ((spec_spaces.f k x0 (wrap64 (x3 + 1))).bind fun t102 => ((spec_isWord.f k x0 t102 (⟨#[86, 65, 76, 85, 69, 83]⟩ : ByteArray)).bind fun t103 => (if t103 = true then ((spec_spaces.f k x0 (wrap64 (t102 + 6))).bind fun t104 => (if t104 < (x0.size : Int) then (if 0 ≤ t104 then (if (bt x0 t104) = 40 then (some t104) else (spec_ValuesAt.l0 k x0 (wrap64 (x3 + 1)))) else (none)) else (spec_ValuesAt.l0 k x0 (wrap64 (x3 + 1))))) else (spec_ValuesAt.l0 k x0 (wrap64 (x3 + 1)))))) else (spec_ValuesAt.l0 k x0 (wrap64 (x3 + 1)))) else (none)) else (some (-1))
def spec_ValuesAt.f (k : Nat) (a0 : ByteArray) : Option (Int) := spec_ValuesAt.l0 k a0 0
theorem spec_ValuesAt.mono_l : ∀ k, (∀ y0 y1, LeO (spec_ValuesAt.l0 k y0 y1) (spec_ValuesAt.l0 (k + 1) y0 y1))
  | 0 => fun _ _ r h => by simp [spec_ValuesAt.l0] at h
  | k + 1 => by
    have ih0 := spec_ValuesAt.mono_l k
    · intro y0 y1
      unfold spec_ValuesAt.l0
      repeat' first
      | (with_reducible exact ih0 _ _)
      | (with_reducible exact spec_isWord.mono _ _ _ _)
      | (with_reducible exact spec_spaces.mono _ _ _)
      | (with_reducible exact LeO.refl _)
      | (with_reducible exact LeO.none _)
      | (with_reducible refine LeO.ite ?_ ?_)
      | (with_reducible refine LeO.bind ?_ (fun _ => ?_))
      | exact ih0 _ _
      | exact spec_isWord.mono _ _ _ _
      | exact spec_spaces.mono _ _ _
      | exact LeO.none _
      | refine LeO.ite ?_ ?_
      | refine LeO.bind ?_ (fun _ => ?_)
theorem spec_ValuesAt.mono : ∀ a0 k, LeO (spec_ValuesAt.f k a0) (spec_ValuesAt.f (k + 1) a0) := by
  intro a0 k
  have ih0 := spec_ValuesAt.mono_l k
  unfold spec_ValuesAt.f
  repeat' first
      | (with_reducible exact ih0 _ _)
      | (with_reducible exact spec_isWord.mono _ _ _ _)
      | (with_reducible exact spec_spaces.mono _ _ _)
      | (with_reducible exact LeO.refl _)
      | (with_reducible exact LeO.none _)
      | (with_reducible refine LeO.ite ?_ ?_)
      | (with_reducible refine LeO.bind ?_ (fun _ => ?_))
      | exact ih0 _ _
      | exact spec_isWord.mono _ _ _ _
      | exact spec_spaces.mono _ _ _
      | exact LeO.none _
      | refine LeO.ite ?_ ?_
      | refine LeO.bind ?_ (fun _ => ?_)
set_option maxHeartbeats 8000000 in
set_option maxRecDepth 100000 in
theorem spec_ValuesAt.calls (k : Nat) (a0 : ByteArray) (r : Int) (w : World) (h : spec_ValuesAt.f k a0 = some r) :
    Calls Tryd.prog 21 #[.string a0] w fun e w' => e = .returned (.int .i64 r) ∧ Drawn0 w w' := by
  have H : (spec_ValuesAt.l0 k a0 0) = some r := h
  clear h
  have H' := Aside0.mk H
  clear H
  go_enter Tryd.func21, Tryd.ntmps21
  go_wp2
  go_loopg [3] k (fun kq v3 w' => ∃ (x3_1 : Int), v3 = .int .i64 x3_1 ∧ Aside0 (spec_ValuesAt.l0 kq a0 x3_1 = some r) ∧ Aside0 (kq ≤ k) ∧ Drawn0 w w')
  case atStart => exact ⟨(0), (by first | rfl | (simp; done) | (simp [*]; done)), H', ⟨Nat.le_refl _⟩, by repeat (first | exact Drawn0.refl _ | apply Drawn0.step)⟩
  case round =>
    clear H'
    obtain ⟨x3_1, rfl, HA, HK1, ⟨m1, rfl⟩⟩ := hrel
    cases gk with
    | zero => exact absurd HA.out (by simp [spec_ValuesAt.l0])
    | succ k1 =>
      have H := HA.out
      clear HA
      simp only [spec_ValuesAt.l0] at H
      by_cases c2 : x3_1 < (a0.size : Int)
      · rw [if_pos c2] at H
        have c2b0 : decide (x3_1 < (a0.size : Int)) = true := decide_eq_true c2
        clear c2
        by_cases c3 : 0 ≤ x3_1
        · rw [if_pos c3] at H
          have c3b0 : decide (0 ≤ x3_1) = true := decide_eq_true c3
          clear c3
          by_cases c5 : (bt a0 x3_1) = 41
          · rw [if_pos c5] at H
            have c5b0 : ((bt a0 x3_1) == 41) = true := beq_iff_eq.mpr c5
            have c5b1 : ((bt a0 x3_1) != 41) = false := bne_eq_false_iff_eq.mpr c5
            clear c5
            replace H := Option.bind_eq_some_iff.mp H
            obtain ⟨t102, A60, H⟩ := H
            replace H : ((spec_isWord.f k1 a0 t102 (⟨#[86, 65, 76, 85, 69, 83]⟩ : ByteArray)).bind fun t103 => (if t103 = true then ((spec_spaces.f k1 a0 (wrap64 (t102 + 6))).bind fun t104 => (if t104 < (a0.size : Int) then (if 0 ≤ t104 then (if (bt a0 t104) = 40 then (some t104) else (spec_ValuesAt.l0 k1 a0 (wrap64 (x3_1 + 1)))) else (none)) else (spec_ValuesAt.l0 k1 a0 (wrap64 (x3_1 + 1))))) else (spec_ValuesAt.l0 k1 a0 (wrap64 (x3_1 + 1))))) = some r := H
            have A6 := Aside0.mk A60
            clear A60
            replace H := Option.bind_eq_some_iff.mp H
            obtain ⟨t103, A70, H⟩ := H
            replace H : (if t103 = true then ((spec_spaces.f k1 a0 (wrap64 (t102 + 6))).bind fun t104 => (if t104 < (a0.size : Int) then (if 0 ≤ t104 then (if (bt a0 t104) = 40 then (some t104) else (spec_ValuesAt.l0 k1 a0 (wrap64 (x3_1 + 1)))) else (none)) else (spec_ValuesAt.l0 k1 a0 (wrap64 (x3_1 + 1))))) else (spec_ValuesAt.l0 k1 a0 (wrap64 (x3_1 + 1)))) = some r := H
            have A7 := Aside0.mk A70
            clear A70
            by_cases c8 : t103 = true
            · subst c8
              have H1 : ((spec_spaces.f k1 a0 (wrap64 (t102 + 6))).bind fun t104 => (if t104 < (a0.size : Int) then (if 0 ≤ t104 then (if (bt a0 t104) = 40 then (some t104) else (spec_ValuesAt.l0 k1 a0 (wrap64 (x3_1 + 1)))) else (none)) else (spec_ValuesAt.l0 k1 a0 (wrap64 (x3_1 + 1))))) = some r := by rw [if_pos rfl] at H; exact H
              clear H
              have H := H1
              clear H1
              replace H := Option.bind_eq_some_iff.mp H
              obtain ⟨t104, A90, H⟩ := H
              replace H : (if t104 < (a0.size : Int) then (if 0 ≤ t104 then (if (bt a0 t104) = 40 then (some t104) else (spec_ValuesAt.l0 k1 a0 (wrap64 (x3_1 + 1)))) else (none)) else (spec_ValuesAt.l0 k1 a0 (wrap64 (x3_1 + 1)))) = some r := H
              have A9 := Aside0.mk A90
              clear A90
              by_cases c10 : t104 < (a0.size : Int)
              · rw [if_pos c10] at H
                have c10b0 : decide (t104 < (a0.size : Int)) = true := decide_eq_true c10
                clear c10
                by_cases c11 : 0 ≤ t104
                · rw [if_pos c11] at H
                  have c11b0 : decide (0 ≤ t104) = true := decide_eq_true c11
                  clear c11
                  by_cases c13 : (bt a0 t104) = 40
                  · rw [if_pos c13] at H
                    have c13b0 : ((bt a0 t104) == 40) = true := beq_iff_eq.mpr c13
                    have c13b1 : ((bt a0 t104) != 40) = false := bne_eq_false_iff_eq.mpr c13
                    clear c13
                    obtain rfl := Option.some.inj H
                    have p4 : 0 ≤ (x3_1 : Int) := of_decide_eq_true (by first | (with_reducible assumption) | assumption)
                    have q4 : x3_1 < (a0.size : Int) := of_decide_eq_true (by first | (with_reducible assumption) | assumption)
                    have hx4 := bt_at a0 x3_1
                    replace p4 := eq_true p4
                    replace q4 := eq_true q4
                    go_wp2_with (first | ((with_reducible refine gate_callee (f := 47) rfl ?_); refine goesL_ (some 18) rfl rfl Tryd.func47 (by kernel_rfl) rfl #[.string a0, .int .i64 (wrap64 (x3_1 + 1))] rfl (by (try simp only [List.map_toArray, List.map_cons, List.map_nil]); first | done | rfl | (simp only [List.length_drop, List.length_take]; rfl)) ?_; (with_reducible refine (spec_spaces.calls k1 a0 (wrap64 (x3_1 + 1)) t102 _ A6.out).mono ?_); rintro e w' ⟨rfl, ⟨nd, rfl⟩⟩; refine ⟨_, rfl, ?_⟩) | ((with_reducible refine gate_callee (f := 48) rfl ?_); refine goesL_ (some 21) rfl rfl Tryd.func48 (by kernel_rfl) rfl #[.string a0, .int .i64 t102, .string (⟨#[86, 65, 76, 85, 69, 83]⟩ : ByteArray)] rfl (by (try simp only [List.map_toArray, List.map_cons, List.map_nil]); first | done | rfl | (simp only [List.length_drop, List.length_take]; rfl)) ?_; (with_reducible refine (spec_isWord.calls k1 a0 t102 (⟨#[86, 65, 76, 85, 69, 83]⟩ : ByteArray) true _ A7.out).mono ?_); rintro e w' ⟨rfl, ⟨nd, rfl⟩⟩; refine ⟨_, rfl, ?_⟩) | ((with_reducible refine gate_callee (f := 47) rfl ?_); refine goesL_ (some 26) rfl rfl Tryd.func47 (by kernel_rfl) rfl #[.string a0, .int .i64 (wrap64 (t102 + 6))] rfl (by (try simp only [List.map_toArray, List.map_cons, List.map_nil]); first | done | rfl | (simp only [List.length_drop, List.length_take]; rfl)) ?_; (with_reducible refine (spec_spaces.calls k1 a0 (wrap64 (t102 + 6)) t104 _ A9.out).mono ?_); rintro e w' ⟨rfl, ⟨nd, rfl⟩⟩; refine ⟨_, rfl, ?_⟩; have p12 : 0 ≤ (t104 : Int) := of_decide_eq_true (by first | (with_reducible assumption) | assumption); have q12 : t104 < (a0.size : Int) := of_decide_eq_true (by first | (with_reducible assumption) | assumption); have hx12 := bt_at a0 t104; replace p12 := eq_true p12; replace q12 := eq_true q12))
                    go_ret
                    exact ⟨by first | rfl | (simp; done) | (simp [*]; done), by repeat (first | exact Drawn0.refl _ | apply Drawn0.step)⟩
                  · rw [if_neg c13] at H
                    have c13b0 : ((bt a0 t104) == 40) = false := beq_eq_false_iff_ne.mpr c13
                    have c13b1 : ((bt a0 t104) != 40) = true := bne_iff_ne.mpr c13
                    have H' := Aside0.mk H
                    clear H
                    have p4 : 0 ≤ (x3_1 : Int) := of_decide_eq_true (by first | (with_reducible assumption) | assumption)
                    have q4 : x3_1 < (a0.size : Int) := of_decide_eq_true (by first | (with_reducible assumption) | assumption)
                    have hx4 := bt_at a0 x3_1
                    replace p4 := eq_true p4
                    replace q4 := eq_true q4
                    go_wp2_with (first | ((with_reducible refine gate_callee (f := 47) rfl ?_); refine goesL_ (some 18) rfl rfl Tryd.func47 (by kernel_rfl) rfl #[.string a0, .int .i64 (wrap64 (x3_1 + 1))] rfl (by (try simp only [List.map_toArray, List.map_cons, List.map_nil]); first | done | rfl | (simp only [List.length_drop, List.length_take]; rfl)) ?_; (with_reducible refine (spec_spaces.calls k1 a0 (wrap64 (x3_1 + 1)) t102 _ A6.out).mono ?_); rintro e w' ⟨rfl, ⟨nd, rfl⟩⟩; refine ⟨_, rfl, ?_⟩) | ((with_reducible refine gate_callee (f := 48) rfl ?_); refine goesL_ (some 21) rfl rfl Tryd.func48 (by kernel_rfl) rfl #[.string a0, .int .i64 t102, .string (⟨#[86, 65, 76, 85, 69, 83]⟩ : ByteArray)] rfl (by (try simp only [List.map_toArray, List.map_cons, List.map_nil]); first | done | rfl | (simp only [List.length_drop, List.length_take]; rfl)) ?_; (with_reducible refine (spec_isWord.calls k1 a0 t102 (⟨#[86, 65, 76, 85, 69, 83]⟩ : ByteArray) true _ A7.out).mono ?_); rintro e w' ⟨rfl, ⟨nd, rfl⟩⟩; refine ⟨_, rfl, ?_⟩) | ((with_reducible refine gate_callee (f := 47) rfl ?_); refine goesL_ (some 26) rfl rfl Tryd.func47 (by kernel_rfl) rfl #[.string a0, .int .i64 (wrap64 (t102 + 6))] rfl (by (try simp only [List.map_toArray, List.map_cons, List.map_nil]); first | done | rfl | (simp only [List.length_drop, List.length_take]; rfl)) ?_; (with_reducible refine (spec_spaces.calls k1 a0 (wrap64 (t102 + 6)) t104 _ A9.out).mono ?_); rintro e w' ⟨rfl, ⟨nd, rfl⟩⟩; refine ⟨_, rfl, ?_⟩; have p12 : 0 ≤ (t104 : Int) := of_decide_eq_true (by first | (with_reducible assumption) | assumption); have q12 : t104 < (a0.size : Int) := of_decide_eq_true (by first | (with_reducible assumption) | assumption); have hx12 := bt_at a0 t104; replace p12 := eq_true p12; replace q12 := eq_true q12))
                    go_roundg k1
                    case measure => have := HK1.out; omega
                    case rel => exact ⟨(wrap64 (x3_1 + 1)), (by first | rfl | (simp; done) | (simp [*]; done)), H', ⟨by have := HK1.out; omega⟩, by repeat (first | exact Drawn0.refl _ | apply Drawn0.step)⟩
                · rw [if_neg c11] at H
                  exact absurd H (by simp)
              · rw [if_neg c10] at H
                have c10b0 : decide (t104 < (a0.size : Int)) = false := decide_eq_false c10
                clear c10
                have H' := Aside0.mk H
                clear H
                have p4 : 0 ≤ (x3_1 : Int) := of_decide_eq_true (by first | (with_reducible assumption) | assumption)
                have q4 : x3_1 < (a0.size : Int) := of_decide_eq_true (by first | (with_reducible assumption) | assumption)
                have hx4 := bt_at a0 x3_1
                replace p4 := eq_true p4
                replace q4 := eq_true q4
                go_wp2_with (first | ((with_reducible refine gate_callee (f := 47) rfl ?_); refine goesL_ (some 18) rfl rfl Tryd.func47 (by kernel_rfl) rfl #[.string a0, .int .i64 (wrap64 (x3_1 + 1))] rfl (by (try simp only [List.map_toArray, List.map_cons, List.map_nil]); first | done | rfl | (simp only [List.length_drop, List.length_take]; rfl)) ?_; (with_reducible refine (spec_spaces.calls k1 a0 (wrap64 (x3_1 + 1)) t102 _ A6.out).mono ?_); rintro e w' ⟨rfl, ⟨nd, rfl⟩⟩; refine ⟨_, rfl, ?_⟩) | ((with_reducible refine gate_callee (f := 48) rfl ?_); refine goesL_ (some 21) rfl rfl Tryd.func48 (by kernel_rfl) rfl #[.string a0, .int .i64 t102, .string (⟨#[86, 65, 76, 85, 69, 83]⟩ : ByteArray)] rfl (by (try simp only [List.map_toArray, List.map_cons, List.map_nil]); first | done | rfl | (simp only [List.length_drop, List.length_take]; rfl)) ?_; (with_reducible refine (spec_isWord.calls k1 a0 t102 (⟨#[86, 65, 76, 85, 69, 83]⟩ : ByteArray) true _ A7.out).mono ?_); rintro e w' ⟨rfl, ⟨nd, rfl⟩⟩; refine ⟨_, rfl, ?_⟩) | ((with_reducible refine gate_callee (f := 47) rfl ?_); refine goesL_ (some 26) rfl rfl Tryd.func47 (by kernel_rfl) rfl #[.string a0, .int .i64 (wrap64 (t102 + 6))] rfl (by (try simp only [List.map_toArray, List.map_cons, List.map_nil]); first | done | rfl | (simp only [List.length_drop, List.length_take]; rfl)) ?_; (with_reducible refine (spec_spaces.calls k1 a0 (wrap64 (t102 + 6)) t104 _ A9.out).mono ?_); rintro e w' ⟨rfl, ⟨nd, rfl⟩⟩; refine ⟨_, rfl, ?_⟩))
                go_roundg k1
                case measure => have := HK1.out; omega
                case rel => exact ⟨(wrap64 (x3_1 + 1)), (by first | rfl | (simp; done) | (simp [*]; done)), H', ⟨by have := HK1.out; omega⟩, by repeat (first | exact Drawn0.refl _ | apply Drawn0.step)⟩
            · replace c8 := Bool.eq_false_iff.mpr c8
              subst c8
              have H1 : (spec_ValuesAt.l0 k1 a0 (wrap64 (x3_1 + 1))) = some r := by rw [if_neg (show ¬ (false = true) by decide)] at H; exact H
              clear H
              have H := H1
              clear H1
              have H' := Aside0.mk H
              clear H
              have p4 : 0 ≤ (x3_1 : Int) := of_decide_eq_true (by first | (with_reducible assumption) | assumption)
              have q4 : x3_1 < (a0.size : Int) := of_decide_eq_true (by first | (with_reducible assumption) | assumption)
              have hx4 := bt_at a0 x3_1
              replace p4 := eq_true p4
              replace q4 := eq_true q4
              go_wp2_with (first | ((with_reducible refine gate_callee (f := 47) rfl ?_); refine goesL_ (some 18) rfl rfl Tryd.func47 (by kernel_rfl) rfl #[.string a0, .int .i64 (wrap64 (x3_1 + 1))] rfl (by (try simp only [List.map_toArray, List.map_cons, List.map_nil]); first | done | rfl | (simp only [List.length_drop, List.length_take]; rfl)) ?_; (with_reducible refine (spec_spaces.calls k1 a0 (wrap64 (x3_1 + 1)) t102 _ A6.out).mono ?_); rintro e w' ⟨rfl, ⟨nd, rfl⟩⟩; refine ⟨_, rfl, ?_⟩) | ((with_reducible refine gate_callee (f := 48) rfl ?_); refine goesL_ (some 21) rfl rfl Tryd.func48 (by kernel_rfl) rfl #[.string a0, .int .i64 t102, .string (⟨#[86, 65, 76, 85, 69, 83]⟩ : ByteArray)] rfl (by (try simp only [List.map_toArray, List.map_cons, List.map_nil]); first | done | rfl | (simp only [List.length_drop, List.length_take]; rfl)) ?_; (with_reducible refine (spec_isWord.calls k1 a0 t102 (⟨#[86, 65, 76, 85, 69, 83]⟩ : ByteArray) false _ A7.out).mono ?_); rintro e w' ⟨rfl, ⟨nd, rfl⟩⟩; refine ⟨_, rfl, ?_⟩))
              go_roundg k1
              case measure => have := HK1.out; omega
              case rel => exact ⟨(wrap64 (x3_1 + 1)), (by first | rfl | (simp; done) | (simp [*]; done)), H', ⟨by have := HK1.out; omega⟩, by repeat (first | exact Drawn0.refl _ | apply Drawn0.step)⟩
          · rw [if_neg c5] at H
            have c5b0 : ((bt a0 x3_1) == 41) = false := beq_eq_false_iff_ne.mpr c5
            have c5b1 : ((bt a0 x3_1) != 41) = true := bne_iff_ne.mpr c5
            have H' := Aside0.mk H
            clear H
            have p4 : 0 ≤ (x3_1 : Int) := of_decide_eq_true (by first | (with_reducible assumption) | assumption)
            have q4 : x3_1 < (a0.size : Int) := of_decide_eq_true (by first | (with_reducible assumption) | assumption)
            have hx4 := bt_at a0 x3_1
            replace p4 := eq_true p4
            replace q4 := eq_true q4
            go_wp2
            go_roundg k1
            case measure => have := HK1.out; omega
            case rel => exact ⟨(wrap64 (x3_1 + 1)), (by first | rfl | (simp; done) | (simp [*]; done)), H', ⟨by have := HK1.out; omega⟩, by repeat (first | exact Drawn0.refl _ | apply Drawn0.step)⟩
        · rw [if_neg c3] at H
          exact absurd H (by simp)
      · rw [if_neg c2] at H
        have c2b0 : decide (x3_1 < (a0.size : Int)) = false := decide_eq_false c2
        clear c2
        obtain rfl := Option.some.inj H
        go_wp2
        go_ret
        exact ⟨by first | rfl | (simp; done) | (simp [*]; done), by repeat (first | exact Drawn0.refl _ | apply Drawn0.step)⟩

/-! ### spec_Closing: function 22 -/
def spec_Closing.l0 : Nat → ByteArray → Int → Int → Option (Int)
  | 0, _, _, _ => none
  | k + 1, x0, x5, x6 => if x6 < (x0.size : Int) then (if 0 ≤ x6 then (if (bt x0 x6) = 40 then (spec_Closing.l0 k x0 (wrap64 (x5 + 1)) (wrap64 (x6 + 1))) else (if (bt x0 x6) = 41 then (if (wrap64 (x5 - 1)) = 0 then (some x6) else (spec_Closing.l0 k x0 (wrap64 (x5 - 1)) (wrap64 (x6 + 1)))) else (spec_Closing.l0 k x0 x5 (wrap64 (x6 + 1))))) else (none)) else (some (-1))
def spec_Closing.f (k : Nat) (a0 : ByteArray) (a1 : Int) : Option (Int) := spec_Closing.l0 k a0 0 a1
theorem spec_Closing.mono_l : ∀ k, (∀ y0 y1 y2, LeO (spec_Closing.l0 k y0 y1 y2) (spec_Closing.l0 (k + 1) y0 y1 y2))
  | 0 => fun _ _ _ r h => by simp [spec_Closing.l0] at h
  | k + 1 => by
    have ih0 := spec_Closing.mono_l k
    · intro y0 y1 y2
      unfold spec_Closing.l0
      repeat' first
      | (with_reducible exact ih0 _ _ _)
      | (with_reducible exact LeO.refl _)
      | (with_reducible exact LeO.none _)
      | (with_reducible refine LeO.ite ?_ ?_)
      | (with_reducible refine LeO.bind ?_ (fun _ => ?_))
      | exact ih0 _ _ _
      | exact LeO.none _
      | refine LeO.ite ?_ ?_
      | refine LeO.bind ?_ (fun _ => ?_)
theorem spec_Closing.mono : ∀ a0 a1 k, LeO (spec_Closing.f k a0 a1) (spec_Closing.f (k + 1) a0 a1) := by
  intro a0 a1 k
  have ih0 := spec_Closing.mono_l k
  unfold spec_Closing.f
  repeat' first
      | (with_reducible exact ih0 _ _ _)
      | (with_reducible exact LeO.refl _)
      | (with_reducible exact LeO.none _)
      | (with_reducible refine LeO.ite ?_ ?_)
      | (with_reducible refine LeO.bind ?_ (fun _ => ?_))
      | exact ih0 _ _ _
      | exact LeO.none _
      | refine LeO.ite ?_ ?_
      | refine LeO.bind ?_ (fun _ => ?_)
set_option maxHeartbeats 8000000 in
set_option maxRecDepth 100000 in
theorem spec_Closing.calls (k : Nat) (a0 : ByteArray) (a1 : Int) (r : Int) (w : World) (h : spec_Closing.f k a0 a1 = some r) :
    Calls Tryd.prog 22 #[.string a0, .int .i64 a1] w fun e w' => e = .returned (.int .i64 r) ∧ Drawn0 w w' := by
  have H : (spec_Closing.l0 k a0 0 a1) = some r := h
  clear h
  have H' := Aside0.mk H
  clear H
  go_enter Tryd.func22, Tryd.ntmps22
  go_wp2
  go_loopg [5, 6] k (fun kq v5 v6 w' => ∃ (x5_1 : Int) (x6_1 : Int), v5 = .int .i64 x5_1 ∧ v6 = .int .i64 x6_1 ∧ Aside0 (spec_Closing.l0 kq a0 x5_1 x6_1 = some r) ∧ Aside0 (kq ≤ k) ∧ Drawn0 w w')
  case atStart => exact ⟨(0), (a1), (by first | rfl | (simp; done) | (simp [*]; done)), (by first | rfl | (simp; done) | (simp [*]; done)), H', ⟨Nat.le_refl _⟩, by repeat (first | exact Drawn0.refl _ | apply Drawn0.step)⟩
  case round =>
    clear H'
    try clear c2
    try clear p2
    obtain ⟨x5_1, x6_1, rfl, rfl, HA, HK1, ⟨m1, rfl⟩⟩ := hrel
    cases gk with
    | zero => exact absurd HA.out (by simp [spec_Closing.l0])
    | succ k1 =>
      have H := HA.out
      clear HA
      simp only [spec_Closing.l0] at H
      by_cases c3 : x6_1 < (a0.size : Int)
      · rw [if_pos c3] at H
        have c3b0 : decide (x6_1 < (a0.size : Int)) = true := decide_eq_true c3
        clear c3
        by_cases c4 : 0 ≤ x6_1
        · rw [if_pos c4] at H
          have c4b0 : decide (0 ≤ x6_1) = true := decide_eq_true c4
          clear c4
          by_cases c6 : (bt a0 x6_1) = 40
          · rw [if_pos c6] at H
            have c6b0 : ((bt a0 x6_1) == 40) = true := beq_iff_eq.mpr c6
            have c6b1 : ((bt a0 x6_1) != 40) = false := bne_eq_false_iff_eq.mpr c6
            clear c6
            have H' := Aside0.mk H
            clear H
            have p5 : 0 ≤ (x6_1 : Int) := of_decide_eq_true (by first | (with_reducible assumption) | assumption)
            have q5 : x6_1 < (a0.size : Int) := of_decide_eq_true (by first | (with_reducible assumption) | assumption)
            have hx5 := bt_at a0 x6_1
            replace p5 := eq_true p5
            replace q5 := eq_true q5
            go_wp2
            go_roundg k1
            case measure => have := HK1.out; omega
            case rel => exact ⟨(wrap64 (x5_1 + 1)), (wrap64 (x6_1 + 1)), (by first | rfl | (simp; done) | (simp [*]; done)), (by first | rfl | (simp; done) | (simp [*]; done)), H', ⟨by have := HK1.out; omega⟩, by repeat (first | exact Drawn0.refl _ | apply Drawn0.step)⟩
          · rw [if_neg c6] at H
            have c6b0 : ((bt a0 x6_1) == 40) = false := beq_eq_false_iff_ne.mpr c6
            have c6b1 : ((bt a0 x6_1) != 40) = true := bne_iff_ne.mpr c6
            by_cases c7 : (bt a0 x6_1) = 41
            · rw [if_pos c7] at H
              have c7b0 : ((bt a0 x6_1) == 41) = true := beq_iff_eq.mpr c7
              have c7b1 : ((bt a0 x6_1) != 41) = false := bne_eq_false_iff_eq.mpr c7
              clear c7
              by_cases c8 : (wrap64 (x5_1 - 1)) = 0
              · rw [if_pos c8] at H
                have c8b0 : ((wrap64 (x5_1 - 1)) == 0) = true := beq_iff_eq.mpr c8
                have c8b1 : ((wrap64 (x5_1 - 1)) != 0) = false := bne_eq_false_iff_eq.mpr c8
                clear c8
                obtain rfl := Option.some.inj H
                have p5 : 0 ≤ (x6_1 : Int) := of_decide_eq_true (by first | (with_reducible assumption) | assumption)
                have q5 : x6_1 < (a0.size : Int) := of_decide_eq_true (by first | (with_reducible assumption) | assumption)
                have hx5 := bt_at a0 x6_1
                replace p5 := eq_true p5
                replace q5 := eq_true q5
                go_wp2
                go_ret
                exact ⟨by first | rfl | (simp; done) | (simp [*]; done), by repeat (first | exact Drawn0.refl _ | apply Drawn0.step)⟩
              · rw [if_neg c8] at H
                have c8b0 : ((wrap64 (x5_1 - 1)) == 0) = false := beq_eq_false_iff_ne.mpr c8
                have c8b1 : ((wrap64 (x5_1 - 1)) != 0) = true := bne_iff_ne.mpr c8
                have H' := Aside0.mk H
                clear H
                have p5 : 0 ≤ (x6_1 : Int) := of_decide_eq_true (by first | (with_reducible assumption) | assumption)
                have q5 : x6_1 < (a0.size : Int) := of_decide_eq_true (by first | (with_reducible assumption) | assumption)
                have hx5 := bt_at a0 x6_1
                replace p5 := eq_true p5
                replace q5 := eq_true q5
                go_wp2
                go_roundg k1
                case measure => have := HK1.out; omega
                case rel => exact ⟨(wrap64 (x5_1 - 1)), (wrap64 (x6_1 + 1)), (by first | rfl | (simp; done) | (simp [*]; done)), (by first | rfl | (simp; done) | (simp [*]; done)), H', ⟨by have := HK1.out; omega⟩, by repeat (first | exact Drawn0.refl _ | apply Drawn0.step)⟩
            · rw [if_neg c7] at H
              have c7b0 : ((bt a0 x6_1) == 41) = false := beq_eq_false_iff_ne.mpr c7
              have c7b1 : ((bt a0 x6_1) != 41) = true := bne_iff_ne.mpr c7
              have H' := Aside0.mk H
              clear H
              have p5 : 0 ≤ (x6_1 : Int) := of_decide_eq_true (by first | (with_reducible assumption) | assumption)
              have q5 : x6_1 < (a0.size : Int) := of_decide_eq_true (by first | (with_reducible assumption) | assumption)
              have hx5 := bt_at a0 x6_1
              replace p5 := eq_true p5
              replace q5 := eq_true q5
              go_wp2
              go_roundg k1
              case measure => have := HK1.out; omega
              case rel => exact ⟨(x5_1), (wrap64 (x6_1 + 1)), (by first | rfl | (simp; done) | (simp [*]; done)), (by first | rfl | (simp; done) | (simp [*]; done)), H', ⟨by have := HK1.out; omega⟩, by repeat (first | exact Drawn0.refl _ | apply Drawn0.step)⟩
        · rw [if_neg c4] at H
          exact absurd H (by simp)
      · rw [if_neg c3] at H
        have c3b0 : decide (x6_1 < (a0.size : Int)) = false := decide_eq_false c3
        clear c3
        obtain rfl := Option.some.inj H
        go_wp2
        go_ret
        exact ⟨by first | rfl | (simp; done) | (simp [*]; done), by repeat (first | exact Drawn0.refl _ | apply Drawn0.step)⟩

end Go.Proofs.YtnmhoghmhglimaaDoor.QB
