-- WRITTEN BY A PROGRAM OF THIS SESSION (wip/print2.py): the print, with contracts of this session's own let in. Not trusted: Lean checks it.
import Derived.Test.YtnmhoghmhglimaaDoorQC0
import Derived.Test.YtnmhoghmhglimaaDoorQC2
namespace Go.Proofs.YtnmhoghmhglimaaDoor.QC
open Go.RowKit Go.Proofs.YtnmhoghmhglimaaDoorW.PrintWords Go.Proofs.YtnmhoghmhglimaaDoorW.PrintLast Go.Proofs.YtnmhoghmhglimaaDoorW.PrintMore
attribute [local go_sem] max2_int min2_int max_two min_two max_three min_three max_four min_four   -- for this text's walks alone
set_option linter.unusedVariables false
set_option linter.unusedSimpArgs false

/-! ### spec_Bits: function 51 -/
mutual
def spec_Bits.l0 : Nat → ByteArray → List (S72) → Bool → Int → Option ((List (S72)) × Bool × Bool)
  | 0, _, _, _, _ => none
  | k + 1, x0, x2, x4, x5 => if x5 < (x0.size : Int) then (if 0 ≤ x5 then (if (bt x0 x5) = 58 then (if (wrap64 (x5 + 1)) = (x0.size : Int) then (some (x2, true, false)) else (if 0 ≤ (wrap64 (x5 + 1)) then (if (wrap64 (x5 + 1)) < (x0.size : Int) then (if (bt x0 (wrap64 (x5 + 1))) = 58 then (if x2.length < 5864062014805 then (spec_Bits.l0 k x0 (x2 ++ [(⟨false, (⟨#[58]⟩ : ByteArray)⟩ : S72)]) x4 (wrap64 (x5 + 2))) else (none)) else (if (bt x0 (wrap64 (x5 + 1))) = 61 then (if x4 = true then (if x2.length < 5864062014805 then (spec_Bits.l0 k x0 (x2 ++ [(⟨false, (⟨#[58, 61]⟩ : ByteArray)⟩ : S72)]) (decide ((wrap64 (x5 + 2)) < (x0.size : Int))) (wrap64 (x5 + 2))) else (none)) else (if x2.length < 5864062014805 then (spec_Bits.l0 k x0 (x2 ++ [(⟨false, (⟨#[58, 61]⟩ : ByteArray)⟩ : S72)]) false (wrap64 (x5 + 2))) else (none))) else (spec_Bits.l2 k x0 x2 x4 x5 (wrap64 (x5 + 1))))) else (none)) else (none))) else (spec_Bits.l1 k x0 x2 x4 x5 x5)) else (none)) else (some (x2, true, x4))
def spec_Bits.j3 : Nat → ByteArray → List (S72) → Bool → Int → Int → Option ((List (S72)) × Bool × Bool)
  | 0, _, _, _, _, _ => none
  | k + 1, x0, x2, x4, x5, x7 => if 0 ≤ (wrap64 (x5 + 1)) then (if (wrap64 (x5 + 1)) ≤ x7 then (if x7 ≤ (x0.size : Int) then (if x2.length < 5864062014805 then ((some (x2 ++ [(⟨true, x0.extract ((wrap64 (x5 + 1)) : Int).toNat (x7 : Int).toNat⟩ : S72)] : List (S72))).bind fun y126 => (if x7 = (x0.size : Int) then (if x4 = true then (if 0 ≤ (wrap64 (x7 - 1)) then (if (wrap64 (x7 - 1)) < (x0.size : Int) then (if (bt x0 (wrap64 (x7 - 1))) = 95 then (spec_Bits.l0 k x0 y126 false x7) else (spec_Bits.l0 k x0 y126 ((bt x0 (wrap64 (x7 - 1))) != 46) x7)) else (none)) else (none)) else (spec_Bits.l0 k x0 y126 false x7)) else (if 0 ≤ x7 then (if x7 < (x0.size : Int) then (if (bt x0 x7) = 58 then (some (([] : List (S72)), false, x4)) else (if (bt x0 x7) ≥ 128 then (spec_Bits.l0 k x0 y126 false x7) else (if x7 = (wrap64 (x5 + 1)) then (if (wrap64 (x7 + 1)) = (x0.size : Int) then (spec_Bits.l0 k x0 y126 false x7) else (spec_Bits.l0 k x0 y126 x4 x7)) else (spec_Bits.l0 k x0 y126 x4 x7)))) else (none)) else (none)))) else (none)) else (none)) else (none)) else (none)
def spec_Bits.l2 : Nat → ByteArray → List (S72) → Bool → Int → Int → Option ((List (S72)) × Bool × Bool)
  | 0, _, _, _, _, _ => none
  | k + 1, x0, x2, x4, x5, x7 => if x7 < (x0.size : Int) then (if 0 ≤ x7 then ((spec_isNameByte.f (bt x0 x7)).bind fun t125 => (if t125 = true then (spec_Bits.l2 k x0 x2 x4 x5 (wrap64 (x7 + 1))) else (spec_Bits.j3 k x0 x2 x4 x5 x7))) else (none)) else (spec_Bits.j3 k x0 x2 x4 x5 x7)
def spec_Bits.l1 : Nat → ByteArray → List (S72) → Bool → Int → Int → Option ((List (S72)) × Bool × Bool)
  | 0, _, _, _, _, _ => none
  | k + 1, x0, x2, x4, x5, x6 => if x6 < (x0.size : Int) then (if 0 ≤ x6 then (if (bt x0 x6) = 58 then (if 0 ≤ x5 then (if x5 ≤ x6 then (if x6 ≤ (x0.size : Int) then (if x2.length < 5864062014805 then (spec_Bits.l0 k x0 (x2 ++ [(⟨false, x0.extract (x5 : Int).toNat (x6 : Int).toNat⟩ : S72)]) x4 x6) else (none)) else (none)) else (none)) else (none)) else (spec_Bits.l1 k x0 x2 x4 x5 (wrap64 (x6 + 1)))) else (none)) else (if 0 ≤ x5 then (if x5 ≤ x6 then (if x6 ≤ (x0.size : Int) then (if x2.length < 5864062014805 then (spec_Bits.l0 k x0 (x2 ++ [(⟨false, x0.extract (x5 : Int).toNat (x6 : Int).toNat⟩ : S72)]) x4 x6) else (none)) else (none)) else (none)) else (none))
end
def spec_Bits.f (k : Nat) (a0 : ByteArray) : Option ((List (S72)) × Bool × Bool) := spec_Bits.l0 k a0 ([] : List (S72)) true 0
theorem spec_Bits.mono_l : ∀ k, (∀ y0 y1 y2 y3, LeO (spec_Bits.l0 k y0 y1 y2 y3) (spec_Bits.l0 (k + 1) y0 y1 y2 y3)) ∧ (∀ y0 y1 y2 y3 y4, LeO (spec_Bits.j3 k y0 y1 y2 y3 y4) (spec_Bits.j3 (k + 1) y0 y1 y2 y3 y4)) ∧ (∀ y0 y1 y2 y3 y4, LeO (spec_Bits.l2 k y0 y1 y2 y3 y4) (spec_Bits.l2 (k + 1) y0 y1 y2 y3 y4)) ∧ (∀ y0 y1 y2 y3 y4, LeO (spec_Bits.l1 k y0 y1 y2 y3 y4) (spec_Bits.l1 (k + 1) y0 y1 y2 y3 y4))
  | 0 => ⟨fun _ _ _ _ r h => by simp [spec_Bits.l0] at h, fun _ _ _ _ _ r h => by simp [spec_Bits.j3] at h, fun _ _ _ _ _ r h => by simp [spec_Bits.l2] at h, fun _ _ _ _ _ r h => by simp [spec_Bits.l1] at h⟩
  | k + 1 => by
    obtain ⟨ih0, ih1, ih2, ih3⟩ := spec_Bits.mono_l k
    refine ⟨?_, ?_, ?_, ?_⟩
    · intro y0 y1 y2 y3
      unfold spec_Bits.l0
      repeat' first
      | (with_reducible exact ih0 _ _ _ _)
      | (with_reducible exact ih1 _ _ _ _ _)
      | (with_reducible exact ih2 _ _ _ _ _)
      | (with_reducible exact ih3 _ _ _ _ _)
      | (with_reducible exact LeO.refl _)
      | (with_reducible exact LeO.none _)
      | (with_reducible refine LeO.ite ?_ ?_)
      | (with_reducible refine LeO.bind ?_ (fun _ => ?_))
      | exact ih0 _ _ _ _
      | exact ih1 _ _ _ _ _
      | exact ih2 _ _ _ _ _
      | exact ih3 _ _ _ _ _
      | exact LeO.none _
      | refine LeO.ite ?_ ?_
      | refine LeO.bind ?_ (fun _ => ?_)
    · intro y0 y1 y2 y3 y4
      unfold spec_Bits.j3
      repeat' first
      | (with_reducible exact ih0 _ _ _ _)
      | (with_reducible exact ih1 _ _ _ _ _)
      | (with_reducible exact ih2 _ _ _ _ _)
      | (with_reducible exact ih3 _ _ _ _ _)
      | (with_reducible exact LeO.refl _)
      | (with_reducible exact LeO.none _)
      | (with_reducible refine LeO.ite ?_ ?_)
      | (with_reducible refine LeO.bind ?_ (fun _ => ?_))
      | exact ih0 _ _ _ _
      | exact ih1 _ _ _ _ _
      | exact ih2 _ _ _ _ _
      | exact ih3 _ _ _ _ _
      | exact LeO.none _
      | refine LeO.ite ?_ ?_
      | refine LeO.bind ?_ (fun _ => ?_)
    · intro y0 y1 y2 y3 y4
      unfold spec_Bits.l2
      repeat' first
      | (with_reducible exact ih0 _ _ _ _)
      | (with_reducible exact ih1 _ _ _ _ _)
      | (with_reducible exact ih2 _ _ _ _ _)
      | (with_reducible exact ih3 _ _ _ _ _)
      | (with_reducible exact LeO.refl _)
      | (with_reducible exact LeO.none _)
      | (with_reducible refine LeO.ite ?_ ?_)
      | (with_reducible refine LeO.bind ?_ (fun _ => ?_))
      | exact ih0 _ _ _ _
      | exact ih1 _ _ _ _ _
      | exact ih2 _ _ _ _ _
      | exact ih3 _ _ _ _ _
      | exact LeO.none _
      | refine LeO.ite ?_ ?_
      | refine LeO.bind ?_ (fun _ => ?_)
    · intro y0 y1 y2 y3 y4
      unfold spec_Bits.l1
      repeat' first
      | (with_reducible exact ih0 _ _ _ _)
      | (with_reducible exact ih1 _ _ _ _ _)
      | (with_reducible exact ih2 _ _ _ _ _)
      | (with_reducible exact ih3 _ _ _ _ _)
      | (with_reducible exact LeO.refl _)
      | (with_reducible exact LeO.none _)
      | (with_reducible refine LeO.ite ?_ ?_)
      | (with_reducible refine LeO.bind ?_ (fun _ => ?_))
      | exact ih0 _ _ _ _
      | exact ih1 _ _ _ _ _
      | exact ih2 _ _ _ _ _
      | exact ih3 _ _ _ _ _
      | exact LeO.none _
      | refine LeO.ite ?_ ?_
      | refine LeO.bind ?_ (fun _ => ?_)
theorem spec_Bits.mono : ∀ a0 k, LeO (spec_Bits.f k a0) (spec_Bits.f (k + 1) a0) := by
  intro a0 k
  obtain ⟨ih0, ih1, ih2, ih3⟩ := spec_Bits.mono_l k
  unfold spec_Bits.f
  repeat' first
      | (with_reducible exact ih0 _ _ _ _)
      | (with_reducible exact ih1 _ _ _ _ _)
      | (with_reducible exact ih2 _ _ _ _ _)
      | (with_reducible exact ih3 _ _ _ _ _)
      | (with_reducible exact LeO.refl _)
      | (with_reducible exact LeO.none _)
      | (with_reducible refine LeO.ite ?_ ?_)
      | (with_reducible refine LeO.bind ?_ (fun _ => ?_))
      | exact ih0 _ _ _ _
      | exact ih1 _ _ _ _ _
      | exact ih2 _ _ _ _ _
      | exact ih3 _ _ _ _ _
      | exact LeO.none _
      | refine LeO.ite ?_ ?_
      | refine LeO.bind ?_ (fun _ => ?_)
set_option maxHeartbeats 8000000 in
set_option maxRecDepth 100000 in
theorem spec_Bits.calls (k : Nat) (a0 : ByteArray) (r1 : List (S72)) (r2 : Bool) (r3 : Bool) (w : World) (h : spec_Bits.f k a0 = some (r1, r2, r3)) :
    Calls Tryd.prog 51 #[.string a0] w fun e w' => ∃ v0_ : Value, e = .returned (.tuple #[v0_, .bool r2, .bool r3]) ∧ Kd.R k72 72 w' w.heap.size (fun _ => True) v0_ r1 ∧ Below w.heap.size w w' := by
  have hu72 := Tryd.underlying72
  have HB := Aside0.mk (Below.refl w.heap.size w)
  have H : (spec_Bits.l0 k a0 ([] : List (S72)) true 0) = some (r1, r2, r3) := h
  clear h
  have H' := Aside0.mk H
  clear H
  go_enter Tryd.func51, Tryd.ntmps51
  go_wp2
  go_loopg [2, 4, 5] k (fun kq v2 v4 v5 w' => ∃ (x2_1 : List (S72)) (x4_1 : Bool) (x5_1 : Int), v4 = .bool x4_1 ∧ v5 = .int .i64 x5_1 ∧ Aside0 (spec_Bits.l0 kq a0 x2_1 x4_1 x5_1 = some (r1, r2, r3)) ∧ Aside0 (kq ≤ k) ∧ Aside0 (Kd.R k72 72 w' w.heap.size (fun _ => True) v2 x2_1) ∧ Aside0 (Below w.heap.size w w'))
  case atStart => exact ⟨(([] : List (S72))), (true), (0), (by first | rfl | (simp; done) | (simp [*]; done)), (by first | rfl | (simp; done) | (simp [*]; done)), H', ⟨Nat.le_refl _⟩, ⟨by first | exact Kd.R_nil _ _ _ _ _ | exact Kd.N_nil _ _ _ _ _ | exact Kd.V_nil _ _ _ _ _ | exact Kd.Q_nil _ _ _ _ _ | exact Kd.S_nil _ _ _ _ _⟩, ⟨by repeat (first | (with_reducible first | exact HB.out | apply below_alloc | apply pw_below_drewN | apply below_drew1) | exact HB.out)⟩⟩
  case round =>
    clear H'
    obtain ⟨x2_1, x4_1, x5_1, rfl, rfl, HA, HK1, HO_2, HB⟩ := hrel
    cases gk with
    | zero => exact absurd HA.out (by simp [spec_Bits.l0])
    | succ k1 =>
      have H := HA.out
      clear HA
      simp only [spec_Bits.l0] at H
      by_cases c2 : x5_1 < (a0.size : Int)
      · rw [if_pos c2] at H
        have c2b0 : decide (x5_1 < (a0.size : Int)) = true := decide_eq_true c2
        clear c2
        by_cases c3 : 0 ≤ x5_1
        · rw [if_pos c3] at H
          have c3b0 : decide (0 ≤ x5_1) = true := decide_eq_true c3
          clear c3
          by_cases c5 : (bt a0 x5_1) = 58
          · rw [if_pos c5] at H
            have c5b0 : ((bt a0 x5_1) == 58) = true := beq_iff_eq.mpr c5
            have c5b1 : ((bt a0 x5_1) != 58) = false := bne_eq_false_iff_eq.mpr c5
            clear c5
            by_cases c6 : (wrap64 (x5_1 + 1)) = (a0.size : Int)
            · rw [if_pos c6] at H
              have c6b0 : ((wrap64 (x5_1 + 1)) == (a0.size : Int)) = true := beq_iff_eq.mpr c6
              have c6b1 : ((wrap64 (x5_1 + 1)) != (a0.size : Int)) = false := bne_eq_false_iff_eq.mpr c6
              clear c6
              simp only [Option.some.injEq, Prod.mk.injEq] at H
              obtain ⟨rfl, rfl, rfl⟩ := H
              have p4 : 0 ≤ (x5_1 : Int) := of_decide_eq_true (by first | (with_reducible assumption) | assumption)
              have q4 : x5_1 < (a0.size : Int) := of_decide_eq_true (by first | (with_reducible assumption) | assumption)
              have hx4 := bt_at a0 x5_1
              replace p4 := eq_true p4
              replace q4 := eq_true q4
              go_wp2
              go_ret3
              exact ⟨_, by first | rfl | (simp [errW_none, errW_some] <;> rfl) | (simp [*, errW_none, errW_some] <;> rfl), by (with_reducible repeat (first | apply Kd.R_alloc | apply Kd.R_drewN | apply Kd.R_drew)); exact HO_2.out, by repeat (first | (with_reducible first | exact HB.out | apply below_alloc | apply pw_below_drewN | apply below_drew1) | exact HB.out)⟩
            · rw [if_neg c6] at H
              have c6b0 : ((wrap64 (x5_1 + 1)) == (a0.size : Int)) = false := beq_eq_false_iff_ne.mpr c6
              have c6b1 : ((wrap64 (x5_1 + 1)) != (a0.size : Int)) = true := bne_iff_ne.mpr c6
              obtain ⟨ji7, hji7⟩ : ∃ j_ : Int, (wrap64 (x5_1 + 1)) = j_ := ⟨_, rfl⟩
              replace H : (if 0 ≤ (ji7) then (if (ji7) < (a0.size : Int) then (if (bt a0 (ji7)) = 58 then (if x2_1.length < 5864062014805 then (spec_Bits.l0 k1 a0 (x2_1 ++ [(⟨false, (⟨#[58]⟩ : ByteArray)⟩ : S72)]) x4_1 (wrap64 (x5_1 + 2))) else (none)) else (if (bt a0 (ji7)) = 61 then (if x4_1 = true then (if x2_1.length < 5864062014805 then (spec_Bits.l0 k1 a0 (x2_1 ++ [(⟨false, (⟨#[58, 61]⟩ : ByteArray)⟩ : S72)]) (decide ((wrap64 (x5_1 + 2)) < (a0.size : Int))) (wrap64 (x5_1 + 2))) else (none)) else (if x2_1.length < 5864062014805 then (spec_Bits.l0 k1 a0 (x2_1 ++ [(⟨false, (⟨#[58, 61]⟩ : ByteArray)⟩ : S72)]) false (wrap64 (x5_1 + 2))) else (none))) else (spec_Bits.l2 k1 a0 x2_1 x4_1 x5_1 ji7))) else (none)) else (none)) = some (r1, r2, r3) := by first | (rw [hji7] at H; exact H) | (simp only [hji7] at H ⊢; exact H)
              (try rw [hji7] at c6b0)
              (try rw [hji7] at c6b1)
              have hji7w : (IntKind.i64.wrap (x5_1 + 1)) = ji7 := (i64_w _).trans hji7
              by_cases c8 : 0 ≤ (ji7)
              · rw [if_pos c8] at H
                have c8b0 : decide (0 ≤ (ji7)) = true := decide_eq_true c8
                clear c8
                by_cases c9 : (ji7) < (a0.size : Int)
                · rw [if_pos c9] at H
                  have c9b0 : decide ((ji7) < (a0.size : Int)) = true := decide_eq_true c9
                  clear c9
                  by_cases c11 : (bt a0 (ji7)) = 58
                  · rw [if_pos c11] at H
                    have c11b0 : ((bt a0 (ji7)) == 58) = true := beq_iff_eq.mpr c11
                    have c11b1 : ((bt a0 (ji7)) != 58) = false := bne_eq_false_iff_eq.mpr c11
                    clear c11
                    by_cases c12 : x2_1.length < 5864062014805
                    · rw [if_pos c12] at H
                      have LMc12 := Aside0.mk c12
                      clear c12
                      obtain ⟨y116, hy116⟩ : ∃ y_ : List (S72), y_ = (x2_1 ++ [(⟨false, (⟨#[58]⟩ : ByteArray)⟩ : S72)]) := ⟨_, rfl⟩
                      replace H : (spec_Bits.l0 k1 a0 y116 x4_1 (wrap64 (x5_1 + 2))) = some (r1, r2, r3) := by first | (rw [hy116]; with_reducible exact H) | (have H2_ := (Option.bind_some _ _).symm.trans H; rw [hy116]; with_reducible exact H2_) | (have H2_ := (Option.bind_some _ _).symm.trans H; with_reducible exact H2_) | with_reducible exact H | (rw [hy116]; exact H) | exact H
                      have Ny116 := Aside0.mk hy116
                      clear hy116
                      have H' := Aside0.mk H
                      clear H
                      have p4 : 0 ≤ (x5_1 : Int) := of_decide_eq_true (by first | (with_reducible assumption) | assumption)
                      have q4 : x5_1 < (a0.size : Int) := of_decide_eq_true (by first | (with_reducible assumption) | assumption)
                      have hx4 := bt_at a0 x5_1
                      replace p4 := eq_true p4
                      replace q4 := eq_true q4
                      have p10 : 0 ≤ ((ji7) : Int) := of_decide_eq_true (by first | (with_reducible assumption) | assumption)
                      have q10 : (ji7) < (a0.size : Int) := of_decide_eq_true (by first | (with_reducible assumption) | assumption)
                      have hx10 := bt_at a0 (ji7)
                      replace p10 := eq_true p10
                      replace q10 := eq_true q10
                      go_wp2_with (first | ((with_reducible refine gate_builtin (b := .append) (xs := #[.tmp 49, .tmp 51]) rfl ?_); (try (refine gate_guard (by rfl) ?_; dsimp only)); at_builtin; refine Kd.R_append k72 (w0 := w) w.heap.size rfl (.tmp 49) (.tmp 51) 68 72 (.agg #[(.bool false), (.string ⟨#[]⟩)]) 24 rfl Tryd.underlying68 info72 rfl (by decide) (by omega) u2 x2_1 (⟨false, (⟨#[58]⟩ : ByteArray)⟩ : S72) [.bool false, .string (⟨#[58]⟩ : ByteArray)] (fun _ => True) (fun _ => False) rfl rfl ?aP (fun _ hk => hk.elim) ?aF ?aO ?aB ?aS ?aL ?_; (case aP => exact k72_mkM _ _ _ (⟨false, (⟨#[58]⟩ : ByteArray)⟩ : S72)); (case aB => exact (by repeat (first | (with_reducible first | exact HB.out | apply below_alloc | apply pw_below_drewN | apply below_drew1) | exact HB.out))); (case aF => exact (fun _ _ => trivial)); (case aO => exact (by (with_reducible repeat (first | apply Kd.R_alloc | apply Kd.R_drewN | apply Kd.R_drew)); exact HO_2.out)); (case aS => exact (below_size (by repeat (first | (with_reducible first | exact HB.out | apply below_alloc | apply pw_below_drewN | apply below_drew1) | exact HB.out)))); (case aL => have := LMc12.out; omega); intro v117 w13 ho hb hg hat; rw [← Ny116.out] at ho; have n0_ := Aside0.mk (hb); have n1_ := Aside0.mk (ho); clear HB; clear HO_2; have HB := n0_; have HO118 := n1_; clear n0_ n1_; clear ho hb hg hat))
                      go_roundg k1
                      case measure => have := HK1.out; omega
                      case rel => exact ⟨(y116), (x4_1), (wrap64 (x5_1 + 2)), (by first | rfl | (simp; done) | (simp [*]; done)), (by first | rfl | (simp; done) | (simp [*]; done)), H', ⟨by have := HK1.out; omega⟩, ⟨by (with_reducible repeat (first | apply Kd.R_alloc | apply Kd.R_drewN | apply Kd.R_drew)); exact HO118.out⟩, ⟨by repeat (first | (with_reducible first | exact HB.out | apply below_alloc | apply pw_below_drewN | apply below_drew1) | exact HB.out)⟩⟩
                    · rw [if_neg c12] at H
                      exact absurd H (by simp)
                  · rw [if_neg c11] at H
                    have c11b0 : ((bt a0 (ji7)) == 58) = false := beq_eq_false_iff_ne.mpr c11
                    have c11b1 : ((bt a0 (ji7)) != 58) = true := bne_iff_ne.mpr c11
                    by_cases c15 : (bt a0 (ji7)) = 61
                    · rw [if_pos c15] at H
                      have c15b0 : ((bt a0 (ji7)) == 61) = true := beq_iff_eq.mpr c15
                      have c15b1 : ((bt a0 (ji7)) != 61) = false := bne_eq_false_iff_eq.mpr c15
                      clear c15
                      by_cases c16 : x4_1 = true
                      · subst c16
                        have H1 : (if x2_1.length < 5864062014805 then (spec_Bits.l0 k1 a0 (x2_1 ++ [(⟨false, (⟨#[58, 61]⟩ : ByteArray)⟩ : S72)]) (decide ((wrap64 (x5_1 + 2)) < (a0.size : Int))) (wrap64 (x5_1 + 2))) else (none)) = some (r1, r2, r3) := by rw [if_pos rfl] at H; exact H
                        clear H
                        have H := H1
                        clear H1
                        by_cases c17 : x2_1.length < 5864062014805
                        · rw [if_pos c17] at H
                          have LMc17 := Aside0.mk c17
                          clear c17
                          obtain ⟨y119, hy119⟩ : ∃ y_ : List (S72), y_ = (x2_1 ++ [(⟨false, (⟨#[58, 61]⟩ : ByteArray)⟩ : S72)]) := ⟨_, rfl⟩
                          replace H : (spec_Bits.l0 k1 a0 y119 (decide ((wrap64 (x5_1 + 2)) < (a0.size : Int))) (wrap64 (x5_1 + 2))) = some (r1, r2, r3) := by first | (rw [hy119]; with_reducible exact H) | (have H2_ := (Option.bind_some _ _).symm.trans H; rw [hy119]; with_reducible exact H2_) | (have H2_ := (Option.bind_some _ _).symm.trans H; with_reducible exact H2_) | with_reducible exact H | (rw [hy119]; exact H) | exact H
                          have Ny119 := Aside0.mk hy119
                          clear hy119
                          have H' := Aside0.mk H
                          clear H
                          have p4 : 0 ≤ (x5_1 : Int) := of_decide_eq_true (by first | (with_reducible assumption) | assumption)
                          have q4 : x5_1 < (a0.size : Int) := of_decide_eq_true (by first | (with_reducible assumption) | assumption)
                          have hx4 := bt_at a0 x5_1
                          replace p4 := eq_true p4
                          replace q4 := eq_true q4
                          have p10 : 0 ≤ ((ji7) : Int) := of_decide_eq_true (by first | (with_reducible assumption) | assumption)
                          have q10 : (ji7) < (a0.size : Int) := of_decide_eq_true (by first | (with_reducible assumption) | assumption)
                          have hx10 := bt_at a0 (ji7)
                          replace p10 := eq_true p10
                          replace q10 := eq_true q10
                          have p14 : 0 ≤ ((ji7) : Int) := of_decide_eq_true (by first | (with_reducible assumption) | assumption)
                          have q14 : (ji7) < (a0.size : Int) := of_decide_eq_true (by first | (with_reducible assumption) | assumption)
                          have hx14 := bt_at a0 (ji7)
                          replace p14 := eq_true p14
                          replace q14 := eq_true q14
                          go_wp2_with (first | ((with_reducible refine gate_builtin (b := .append) (xs := #[.tmp 68, .tmp 70]) rfl ?_); (try (refine gate_guard (by rfl) ?_; dsimp only)); at_builtin; refine Kd.R_append k72 (w0 := w) w.heap.size rfl (.tmp 68) (.tmp 70) 68 72 (.agg #[(.bool false), (.string ⟨#[]⟩)]) 24 rfl Tryd.underlying68 info72 rfl (by decide) (by omega) u2 x2_1 (⟨false, (⟨#[58, 61]⟩ : ByteArray)⟩ : S72) [.bool false, .string (⟨#[58, 61]⟩ : ByteArray)] (fun _ => True) (fun _ => False) rfl rfl ?aP (fun _ hk => hk.elim) ?aF ?aO ?aB ?aS ?aL ?_; (case aP => exact k72_mkM _ _ _ (⟨false, (⟨#[58, 61]⟩ : ByteArray)⟩ : S72)); (case aB => exact (by repeat (first | (with_reducible first | exact HB.out | apply below_alloc | apply pw_below_drewN | apply below_drew1) | exact HB.out))); (case aF => exact (fun _ _ => trivial)); (case aO => exact (by (with_reducible repeat (first | apply Kd.R_alloc | apply Kd.R_drewN | apply Kd.R_drew)); exact HO_2.out)); (case aS => exact (below_size (by repeat (first | (with_reducible first | exact HB.out | apply below_alloc | apply pw_below_drewN | apply below_drew1) | exact HB.out)))); (case aL => have := LMc17.out; omega); intro v120 w18 ho hb hg hat; rw [← Ny119.out] at ho; have n0_ := Aside0.mk (hb); have n1_ := Aside0.mk (ho); clear HB; clear HO_2; have HB := n0_; have HO121 := n1_; clear n0_ n1_; clear ho hb hg hat))
                          go_roundg k1
                          case measure => have := HK1.out; omega
                          case rel => exact ⟨(y119), (decide ((wrap64 (x5_1 + 2)) < (a0.size : Int))), (wrap64 (x5_1 + 2)), (by first | rfl | (simp; done) | (simp [*]; done)), (by first | rfl | (simp; done) | (simp [*]; done)), H', ⟨by have := HK1.out; omega⟩, ⟨by (with_reducible repeat (first | apply Kd.R_alloc | apply Kd.R_drewN | apply Kd.R_drew)); exact HO121.out⟩, ⟨by repeat (first | (with_reducible first | exact HB.out | apply below_alloc | apply pw_below_drewN | apply below_drew1) | exact HB.out)⟩⟩
                        · rw [if_neg c17] at H
                          exact absurd H (by simp)
                      · replace c16 := Bool.eq_false_iff.mpr c16
                        subst c16
                        have H1 : (if x2_1.length < 5864062014805 then (spec_Bits.l0 k1 a0 (x2_1 ++ [(⟨false, (⟨#[58, 61]⟩ : ByteArray)⟩ : S72)]) false (wrap64 (x5_1 + 2))) else (none)) = some (r1, r2, r3) := by rw [if_neg (show ¬ (false = true) by decide)] at H; exact H
                        clear H
                        have H := H1
                        clear H1
                        by_cases c19 : x2_1.length < 5864062014805
                        · rw [if_pos c19] at H
                          have LMc19 := Aside0.mk c19
                          clear c19
                          obtain ⟨y122, hy122⟩ : ∃ y_ : List (S72), y_ = (x2_1 ++ [(⟨false, (⟨#[58, 61]⟩ : ByteArray)⟩ : S72)]) := ⟨_, rfl⟩
                          replace H : (spec_Bits.l0 k1 a0 y122 false (wrap64 (x5_1 + 2))) = some (r1, r2, r3) := by first | (rw [hy122]; with_reducible exact H) | (have H2_ := (Option.bind_some _ _).symm.trans H; rw [hy122]; with_reducible exact H2_) | (have H2_ := (Option.bind_some _ _).symm.trans H; with_reducible exact H2_) | with_reducible exact H | (rw [hy122]; exact H) | exact H
                          have Ny122 := Aside0.mk hy122
                          clear hy122
                          have H' := Aside0.mk H
                          clear H
                          have p4 : 0 ≤ (x5_1 : Int) := of_decide_eq_true (by first | (with_reducible assumption) | assumption)
                          have q4 : x5_1 < (a0.size : Int) := of_decide_eq_true (by first | (with_reducible assumption) | assumption)
                          have hx4 := bt_at a0 x5_1
                          replace p4 := eq_true p4
                          replace q4 := eq_true q4
                          have p10 : 0 ≤ ((ji7) : Int) := of_decide_eq_true (by first | (with_reducible assumption) | assumption)
                          have q10 : (ji7) < (a0.size : Int) := of_decide_eq_true (by first | (with_reducible assumption) | assumption)
                          have hx10 := bt_at a0 (ji7)
                          replace p10 := eq_true p10
                          replace q10 := eq_true q10
                          have p14 : 0 ≤ ((ji7) : Int) := of_decide_eq_true (by first | (with_reducible assumption) | assumption)
                          have q14 : (ji7) < (a0.size : Int) := of_decide_eq_true (by first | (with_reducible assumption) | assumption)
                          have hx14 := bt_at a0 (ji7)
                          replace p14 := eq_true p14
                          replace q14 := eq_true q14
                          go_wp2_with (first | ((with_reducible refine gate_builtin (b := .append) (xs := #[.tmp 68, .tmp 70]) rfl ?_); (try (refine gate_guard (by rfl) ?_; dsimp only)); at_builtin; refine Kd.R_append k72 (w0 := w) w.heap.size rfl (.tmp 68) (.tmp 70) 68 72 (.agg #[(.bool false), (.string ⟨#[]⟩)]) 24 rfl Tryd.underlying68 info72 rfl (by decide) (by omega) u2 x2_1 (⟨false, (⟨#[58, 61]⟩ : ByteArray)⟩ : S72) [.bool false, .string (⟨#[58, 61]⟩ : ByteArray)] (fun _ => True) (fun _ => False) rfl rfl ?aP (fun _ hk => hk.elim) ?aF ?aO ?aB ?aS ?aL ?_; (case aP => exact k72_mkM _ _ _ (⟨false, (⟨#[58, 61]⟩ : ByteArray)⟩ : S72)); (case aB => exact (by repeat (first | (with_reducible first | exact HB.out | apply below_alloc | apply pw_below_drewN | apply below_drew1) | exact HB.out))); (case aF => exact (fun _ _ => trivial)); (case aO => exact (by (with_reducible repeat (first | apply Kd.R_alloc | apply Kd.R_drewN | apply Kd.R_drew)); exact HO_2.out)); (case aS => exact (below_size (by repeat (first | (with_reducible first | exact HB.out | apply below_alloc | apply pw_below_drewN | apply below_drew1) | exact HB.out)))); (case aL => have := LMc19.out; omega); intro v123 w20 ho hb hg hat; rw [← Ny122.out] at ho; have n0_ := Aside0.mk (hb); have n1_ := Aside0.mk (ho); clear HB; clear HO_2; have HB := n0_; have HO124 := n1_; clear n0_ n1_; clear ho hb hg hat))
                          go_roundg k1
                          case measure => have := HK1.out; omega
                          case rel => exact ⟨(y122), (false), (wrap64 (x5_1 + 2)), (by first | rfl | (simp; done) | (simp [*]; done)), (by first | rfl | (simp; done) | (simp [*]; done)), H', ⟨by have := HK1.out; omega⟩, ⟨by (with_reducible repeat (first | apply Kd.R_alloc | apply Kd.R_drewN | apply Kd.R_drew)); exact HO124.out⟩, ⟨by repeat (first | (with_reducible first | exact HB.out | apply below_alloc | apply pw_below_drewN | apply below_drew1) | exact HB.out)⟩⟩
                        · rw [if_neg c19] at H
                          exact absurd H (by simp)
                    · rw [if_neg c15] at H
                      have c15b0 : ((bt a0 (ji7)) == 61) = false := beq_eq_false_iff_ne.mpr c15
                      have c15b1 : ((bt a0 (ji7)) != 61) = true := bne_iff_ne.mpr c15
                      have HC21 := Aside0.mk H
                      clear H
                      have p4 : 0 ≤ (x5_1 : Int) := of_decide_eq_true (by first | (with_reducible assumption) | assumption)
                      have q4 : x5_1 < (a0.size : Int) := of_decide_eq_true (by first | (with_reducible assumption) | assumption)
                      have hx4 := bt_at a0 x5_1
                      replace p4 := eq_true p4
                      replace q4 := eq_true q4
                      have p10 : 0 ≤ ((ji7) : Int) := of_decide_eq_true (by first | (with_reducible assumption) | assumption)
                      have q10 : (ji7) < (a0.size : Int) := of_decide_eq_true (by first | (with_reducible assumption) | assumption)
                      have hx10 := bt_at a0 (ji7)
                      replace p10 := eq_true p10
                      replace q10 := eq_true q10
                      have p14 : 0 ≤ ((ji7) : Int) := of_decide_eq_true (by first | (with_reducible assumption) | assumption)
                      have q14 : (ji7) < (a0.size : Int) := of_decide_eq_true (by first | (with_reducible assumption) | assumption)
                      have hx14 := bt_at a0 (ji7)
                      replace p14 := eq_true p14
                      replace q14 := eq_true q14
                      go_upto_block 4 with (fail)
                      go_cut [7] (fun v7 wc => ∃ (kq : Nat) (x7_20 : Int), v7 = .int .i64 x7_20 ∧ Aside0 (spec_Bits.j3 kq a0 x2_1 x4_1 x5_1 x7_20 = some (r1, r2, r3)) ∧ Aside0 (kq ≤ k1) ∧ Aside0 (Kd.R k72 72 wc w.heap.size (fun _ => True) u2 x2_1) ∧ Aside0 (Below w.heap.size w wc))
                      case first =>
                        have H := HC21.out
                        clear HC21
                        have H' := Aside0.mk H
                        clear H
                        go_wp2
                        go_loopg [7] k1 (fun kq v7 w' => ∃ (x7_2 : Int), v7 = .int .i64 x7_2 ∧ Aside0 (spec_Bits.l2 kq a0 x2_1 x4_1 x5_1 x7_2 = some (r1, r2, r3)) ∧ Aside0 (kq ≤ k1) ∧ Aside0 (Kd.R k72 72 w' w.heap.size (fun _ => True) u2 x2_1) ∧ Aside0 (Below w.heap.size w w'))
                        case atStart => exact ⟨(ji7), (by first | rfl | (simp; done) | (simp only [← hji7] <;> (first | rfl | simp)) | (simp [*]; done)), H', ⟨Nat.le_refl _⟩, ⟨by (with_reducible repeat (first | apply Kd.R_alloc | apply Kd.R_drewN | apply Kd.R_drew)); exact HO_2.out⟩, ⟨by repeat (first | (with_reducible first | exact HB.out | apply below_alloc | apply pw_below_drewN | apply below_drew1) | exact HB.out)⟩⟩
                        case round =>
                          clear H'
                          try clear c1
                          try clear p1
                          try clear q1
                          try clear hx1
                          try clear c2
                          try clear c2b0
                          try clear p2
                          try clear c3
                          try clear c3b0
                          try clear p4
                          try clear q4
                          try clear hx4
                          try clear c5
                          try clear c5b0
                          try clear c5b1
                          try clear c6
                          try clear c6b0
                          try clear c6b1
                          try clear p6
                          try clear c8
                          try clear c8b0
                          try clear c9
                          try clear c9b0
                          try clear p10
                          try clear q10
                          try clear hx10
                          try clear c11
                          try clear c11b0
                          try clear c11b1
                          try clear c12
                          try clear p14
                          try clear q14
                          try clear hx14
                          try clear c15
                          try clear c15b0
                          try clear c15b1
                          try clear c16
                          try clear c17
                          try clear c19
                          try clear p10
                          try clear p14
                          try clear p4
                          try clear q10
                          try clear q14
                          try clear q4
                          obtain ⟨x7_2, rfl, HA, HK2, HO_2, HB⟩ := hrel
                          cases gk with
                          | zero => exact absurd HA.out (by simp [spec_Bits.l2])
                          | succ k2 =>
                            have H := HA.out
                            clear HA
                            simp only [spec_Bits.l2] at H
                            by_cases c22 : x7_2 < (a0.size : Int)
                            · rw [if_pos c22] at H
                              have c22b0 : decide (x7_2 < (a0.size : Int)) = true := decide_eq_true c22
                              clear c22
                              (first | rw [c22b0] | (simp only [i64_w, i32_w]; rw [c22b0]) | skip)
                              by_cases c23 : 0 ≤ x7_2
                              · rw [if_pos c23] at H
                                have c23b0 : decide (0 ≤ x7_2) = true := decide_eq_true c23
                                clear c23
                                replace H := Option.bind_eq_some_iff.mp H
                                obtain ⟨t125, A250, H⟩ := H
                                replace H : (if t125 = true then (spec_Bits.l2 k2 a0 x2_1 x4_1 x5_1 (wrap64 (x7_2 + 1))) else (spec_Bits.j3 k2 a0 x2_1 x4_1 x5_1 x7_2)) = some (r1, r2, r3) := H
                                have A25 := Aside0.mk A250
                                clear A250
                                by_cases c26 : t125 = true
                                · subst c26
                                  have H1 : (spec_Bits.l2 k2 a0 x2_1 x4_1 x5_1 (wrap64 (x7_2 + 1))) = some (r1, r2, r3) := by rw [if_pos rfl] at H; exact H
                                  clear H
                                  have H := H1
                                  clear H1
                                  have H' := Aside0.mk H
                                  clear H
                                  have p24 : 0 ≤ (x7_2 : Int) := of_decide_eq_true (by first | (with_reducible assumption) | assumption)
                                  have q24 : x7_2 < (a0.size : Int) := of_decide_eq_true (by first | (with_reducible assumption) | assumption)
                                  have hx24 := bt_at a0 x7_2
                                  replace p24 := eq_true p24
                                  replace q24 := eq_true q24
                                  go_wp2_with (first | (go_at_call 53; (with_reducible refine (spec_isNameByte.calls (bt a0 x7_2) true _ A25.out).mono ?_); rintro e w' ⟨rfl, ⟨nd, rfl⟩⟩))
                                  go_roundg k2
                                  case measure => have := HK1.out; have := HK2.out; omega
                                  case rel => exact ⟨(wrap64 (x7_2 + 1)), (by first | rfl | (simp; done) | (simp [*]; done)), H', ⟨by have := HK1.out; have := HK2.out; omega⟩, ⟨by (with_reducible repeat (first | apply Kd.R_alloc | apply Kd.R_drewN | apply Kd.R_drew)); exact HO_2.out⟩, ⟨by repeat (first | (with_reducible first | exact HB.out | apply below_alloc | apply pw_below_drewN | apply below_drew1) | exact HB.out)⟩⟩
                                · replace c26 := Bool.eq_false_iff.mpr c26
                                  subst c26
                                  have H1 : (spec_Bits.j3 k2 a0 x2_1 x4_1 x5_1 x7_2) = some (r1, r2, r3) := by rw [if_neg (show ¬ (false = true) by decide)] at H; exact H
                                  clear H
                                  have H := H1
                                  clear H1
                                  have H' := Aside0.mk H
                                  clear H
                                  have p24 : 0 ≤ (x7_2 : Int) := of_decide_eq_true (by first | (with_reducible assumption) | assumption)
                                  have q24 : x7_2 < (a0.size : Int) := of_decide_eq_true (by first | (with_reducible assumption) | assumption)
                                  have hx24 := bt_at a0 x7_2
                                  replace p24 := eq_true p24
                                  replace q24 := eq_true q24
                                  go_wp2_with (first | (go_at_call 53; (with_reducible refine (spec_isNameByte.calls (bt a0 x7_2) false _ A25.out).mono ?_); rintro e w' ⟨rfl, ⟨nd, rfl⟩⟩))
                                  go_meet
                                  case rel => exact ⟨_, (x7_2), (by first | rfl | (simp; done) | (simp [*]; done)), H', ⟨by have := HK1.out; have := HK2.out; first | omega | exact Nat.le_refl _⟩, ⟨by (with_reducible repeat (first | apply Kd.R_alloc | apply Kd.R_drewN | apply Kd.R_drew)); exact HO_2.out⟩, ⟨by repeat (first | (with_reducible first | exact HB.out | apply below_alloc | apply pw_below_drewN | apply below_drew1) | exact HB.out)⟩⟩
                              · rw [if_neg c23] at H
                                exact absurd H (by simp)
                            · rw [if_neg c22] at H
                              have c22b0 : decide (x7_2 < (a0.size : Int)) = false := decide_eq_false c22
                              clear c22
                              (first | rw [c22b0] | (simp only [i64_w, i32_w]; rw [c22b0]) | skip)
                              have H' := Aside0.mk H
                              clear H
                              go_wp2
                              go_meet
                              case rel => exact ⟨_, (x7_2), (by first | rfl | (simp; done) | (simp [*]; done)), H', ⟨by have := HK1.out; have := HK2.out; first | omega | exact Nat.le_refl _⟩, ⟨by (with_reducible repeat (first | apply Kd.R_alloc | apply Kd.R_drewN | apply Kd.R_drew)); exact HO_2.out⟩, ⟨by repeat (first | (with_reducible first | exact HB.out | apply below_alloc | apply pw_below_drewN | apply below_drew1) | exact HB.out)⟩⟩
                      case rest =>
                        clear HC21
                        try clear c1
                        try clear p1
                        try clear q1
                        try clear hx1
                        try clear c2
                        try clear c2b0
                        try clear p2
                        try clear q2
                        try clear hx2
                        try clear c3
                        try clear c3b0
                        try clear p4
                        try clear q4
                        try clear hx4
                        try clear c5
                        try clear c5b0
                        try clear c5b1
                        try clear c6
                        try clear c6b0
                        try clear c6b1
                        try clear p6
                        try clear c8
                        try clear c8b0
                        try clear c9
                        try clear c9b0
                        try clear p10
                        try clear q10
                        try clear hx10
                        try clear c11
                        try clear c11b0
                        try clear c11b1
                        try clear c12
                        try clear p14
                        try clear q14
                        try clear hx14
                        try clear c15
                        try clear c15b0
                        try clear c15b1
                        try clear c16
                        try clear c17
                        try clear c19
                        try clear c22
                        try clear c22b0
                        try clear c23
                        try clear c23b0
                        try clear p24
                        try clear q24
                        try clear hx24
                        try clear c26
                        try clear p1
                        try clear p10
                        try clear p14
                        try clear p2
                        try clear p24
                        try clear p4
                        try clear p6
                        try clear q1
                        try clear q10
                        try clear q14
                        try clear q24
                        try clear q4
                        obtain ⟨kq, x7_20, rfl, HA, HJ20, HO_2, HB⟩ := hcut
                        cases kq with
                        | zero => exact absurd HA.out (by simp [spec_Bits.j3])
                        | succ kj20 =>
                          have H := HA.out
                          clear HA
                          simp only [spec_Bits.j3] at H
                          obtain ⟨ji27, hji27⟩ : ∃ j_ : Int, (wrap64 (x5_1 + 1)) = j_ := ⟨_, rfl⟩
                          replace H : (if 0 ≤ (ji27) then (if (ji27) ≤ x7_20 then (if x7_20 ≤ (a0.size : Int) then (if x2_1.length < 5864062014805 then ((some (x2_1 ++ [(⟨true, a0.extract ((ji27) : Int).toNat (x7_20 : Int).toNat⟩ : S72)] : List (S72))).bind fun y126 => (if x7_20 = (a0.size : Int) then (if x4_1 = true then (if 0 ≤ (wrap64 (x7_20 - 1)) then (if (wrap64 (x7_20 - 1)) < (a0.size : Int) then (if (bt a0 (wrap64 (x7_20 - 1))) = 95 then (spec_Bits.l0 kj20 a0 y126 false x7_20) else (spec_Bits.l0 kj20 a0 y126 ((bt a0 (wrap64 (x7_20 - 1))) != 46) x7_20)) else (none)) else (none)) else (spec_Bits.l0 kj20 a0 y126 false x7_20)) else (if 0 ≤ x7_20 then (if x7_20 < (a0.size : Int) then (if (bt a0 x7_20) = 58 then (some (([] : List (S72)), false, x4_1)) else (if (bt a0 x7_20) ≥ 128 then (spec_Bits.l0 kj20 a0 y126 false x7_20) else (if x7_20 = (ji27) then (if (wrap64 (x7_20 + 1)) = (a0.size : Int) then (spec_Bits.l0 kj20 a0 y126 false x7_20) else (spec_Bits.l0 kj20 a0 y126 x4_1 x7_20)) else (spec_Bits.l0 kj20 a0 y126 x4_1 x7_20)))) else (none)) else (none)))) else (none)) else (none)) else (none)) else (none)) = some (r1, r2, r3) := by first | (rw [hji27] at H; exact H) | (simp only [hji27] at H ⊢; exact H)
                          (try rw [hji27] at c6b0)
                          (try rw [hji27] at c6b1)
                          have hji27w : (IntKind.i64.wrap (x5_1 + 1)) = ji27 := (i64_w _).trans hji27
                          obtain rfl : ji27 = ji7 := hji27w.symm.trans hji7w
                          by_cases c28 : 0 ≤ (ji27)
                          · rw [if_pos c28] at H
                            have c28b0 := eq_true c28
                            have c28b1 : decide (0 ≤ (ji27)) = true := decide_eq_true c28
                            clear c28
                            by_cases c29 : (ji27) ≤ x7_20
                            · rw [if_pos c29] at H
                              have c29b0 := eq_true c29
                              have c29b1 : decide ((ji27) ≤ x7_20) = true := decide_eq_true c29
                              clear c29
                              by_cases c30 : x7_20 ≤ (a0.size : Int)
                              · rw [if_pos c30] at H
                                have c30b0 := eq_true c30
                                have c30b1 : decide (x7_20 ≤ (a0.size : Int)) = true := decide_eq_true c30
                                clear c30
                                by_cases c31 : x2_1.length < 5864062014805
                                · rw [if_pos c31] at H
                                  have LMc31 := Aside0.mk c31
                                  clear c31
                                  obtain ⟨y126, hy126⟩ : ∃ y_ : List (S72), y_ = (x2_1 ++ [(⟨true, a0.extract ((ji27) : Int).toNat (x7_20 : Int).toNat⟩ : S72)]) := ⟨_, rfl⟩
                                  replace H : (if x7_20 = (a0.size : Int) then (if x4_1 = true then (if 0 ≤ (wrap64 (x7_20 - 1)) then (if (wrap64 (x7_20 - 1)) < (a0.size : Int) then (if (bt a0 (wrap64 (x7_20 - 1))) = 95 then (spec_Bits.l0 kj20 a0 y126 false x7_20) else (spec_Bits.l0 kj20 a0 y126 ((bt a0 (wrap64 (x7_20 - 1))) != 46) x7_20)) else (none)) else (none)) else (spec_Bits.l0 kj20 a0 y126 false x7_20)) else (if 0 ≤ x7_20 then (if x7_20 < (a0.size : Int) then (if (bt a0 x7_20) = 58 then (some (([] : List (S72)), false, x4_1)) else (if (bt a0 x7_20) ≥ 128 then (spec_Bits.l0 kj20 a0 y126 false x7_20) else (if x7_20 = (ji27) then (if (wrap64 (x7_20 + 1)) = (a0.size : Int) then (spec_Bits.l0 kj20 a0 y126 false x7_20) else (spec_Bits.l0 kj20 a0 y126 x4_1 x7_20)) else (spec_Bits.l0 kj20 a0 y126 x4_1 x7_20)))) else (none)) else (none))) = some (r1, r2, r3) := by first | (rw [hy126]; with_reducible exact H) | (have H2_ := (Option.bind_some _ _).symm.trans H; rw [hy126]; with_reducible exact H2_) | (have H2_ := (Option.bind_some _ _).symm.trans H; with_reducible exact H2_) | with_reducible exact H | (rw [hy126]; exact H) | exact H
                                  have Ny126 := Aside0.mk hy126
                                  clear hy126
                                  by_cases c32 : x7_20 = (a0.size : Int)
                                  · rw [if_pos c32] at H
                                    have c32b0 : (x7_20 == (a0.size : Int)) = true := beq_iff_eq.mpr c32
                                    have c32b1 : (x7_20 != (a0.size : Int)) = false := bne_eq_false_iff_eq.mpr c32
                                    clear c32
                                    by_cases c33 : x4_1 = true
                                    · subst c33
                                      have H1 : (if 0 ≤ (wrap64 (x7_20 - 1)) then (if (wrap64 (x7_20 - 1)) < (a0.size : Int) then (if (bt a0 (wrap64 (x7_20 - 1))) = 95 then (spec_Bits.l0 kj20 a0 y126 false x7_20) else (spec_Bits.l0 kj20 a0 y126 ((bt a0 (wrap64 (x7_20 - 1))) != 46) x7_20)) else (none)) else (none)) = some (r1, r2, r3) := by rw [if_pos rfl] at H; exact H
                                      clear H
                                      have H := H1
                                      clear H1
                                      obtain ⟨ji34, hji34⟩ : ∃ j_ : Int, (wrap64 (x7_20 - 1)) = j_ := ⟨_, rfl⟩
                                      replace H : (if 0 ≤ (ji34) then (if (ji34) < (a0.size : Int) then (if (bt a0 (ji34)) = 95 then (spec_Bits.l0 kj20 a0 y126 false x7_20) else (spec_Bits.l0 kj20 a0 y126 ((bt a0 (ji34)) != 46) x7_20)) else (none)) else (none)) = some (r1, r2, r3) := by first | (rw [hji34] at H; exact H) | (simp only [hji34] at H ⊢; exact H)
                                      have hji34w : (IntKind.i64.wrap (x7_20 - 1)) = ji34 := (i64_w _).trans hji34
                                      by_cases c35 : 0 ≤ (ji34)
                                      · rw [if_pos c35] at H
                                        have c35b0 : decide (0 ≤ (ji34)) = true := decide_eq_true c35
                                        clear c35
                                        by_cases c36 : (ji34) < (a0.size : Int)
                                        · rw [if_pos c36] at H
                                          have c36b0 : decide ((ji34) < (a0.size : Int)) = true := decide_eq_true c36
                                          clear c36
                                          by_cases c38 : (bt a0 (ji34)) = 95
                                          · rw [if_pos c38] at H
                                            have c38b0 : ((bt a0 (ji34)) == 95) = true := beq_iff_eq.mpr c38
                                            have c38b1 : ((bt a0 (ji34)) != 95) = false := bne_eq_false_iff_eq.mpr c38
                                            clear c38
                                            have H' := Aside0.mk H
                                            clear H
                                            go_wp2_with (first | ((with_reducible refine gate_builtin (b := .append) (xs := #[.tmp 88, .tmp 95]) rfl ?_); (try (refine gate_guard (by rfl) ?_; dsimp only)); at_builtin; refine Kd.R_append k72 (w0 := w) w.heap.size rfl (.tmp 88) (.tmp 95) 68 72 (.agg #[(.bool false), (.string ⟨#[]⟩)]) 24 rfl Tryd.underlying68 info72 rfl (by decide) (by omega) u2 x2_1 (⟨true, a0.extract ((ji27) : Int).toNat (x7_20 : Int).toNat⟩ : S72) [.bool true, .string (a0.extract ((ji27) : Int).toNat (x7_20 : Int).toNat)] (fun _ => True) (fun _ => False) rfl rfl ?aP (fun _ hk => hk.elim) ?aF ?aO ?aB ?aS ?aL ?_; (case aP => exact k72_mkM _ _ _ (⟨true, a0.extract ((ji27) : Int).toNat (x7_20 : Int).toNat⟩ : S72)); (case aB => exact (by repeat (first | (with_reducible first | exact HB.out | apply below_alloc | apply pw_below_drewN | apply below_drew1) | exact HB.out))); (case aF => exact (fun _ _ => trivial)); (case aO => exact (by (with_reducible repeat (first | apply Kd.R_alloc | apply Kd.R_drewN | apply Kd.R_drew)); exact HO_2.out)); (case aS => exact (below_size (by repeat (first | (with_reducible first | exact HB.out | apply below_alloc | apply pw_below_drewN | apply below_drew1) | exact HB.out)))); (case aL => have := LMc31.out; omega); intro v127 w39 ho hb hg hat; rw [← Ny126.out] at ho; have n0_ := Aside0.mk (hb); have n1_ := Aside0.mk (ho); clear HB; clear HO_2; have HB := n0_; have HO128 := n1_; clear n0_ n1_; clear ho hb hg hat; have p37 : 0 ≤ ((ji34) : Int) := of_decide_eq_true (by first | (with_reducible assumption) | assumption); have q37 : (ji34) < (a0.size : Int) := of_decide_eq_true (by first | (with_reducible assumption) | assumption); have hx37 := bt_at a0 (ji34); replace p37 := eq_true p37; replace q37 := eq_true q37))
                                            go_roundg kj20
                                            case measure => have := HK1.out; have := HJ20.out; omega
                                            case rel => exact ⟨(y126), (false), (x7_20), (by first | rfl | (simp; done) | (simp [*]; done)), (by first | rfl | (simp; done) | (simp [*]; done)), H', ⟨by have := HK1.out; have := HJ20.out; omega⟩, ⟨by (with_reducible repeat (first | apply Kd.R_alloc | apply Kd.R_drewN | apply Kd.R_drew)); exact HO128.out⟩, ⟨by repeat (first | (with_reducible first | exact HB.out | apply below_alloc | apply pw_below_drewN | apply below_drew1) | exact HB.out)⟩⟩
                                          · rw [if_neg c38] at H
                                            have c38b0 : ((bt a0 (ji34)) == 95) = false := beq_eq_false_iff_ne.mpr c38
                                            have c38b1 : ((bt a0 (ji34)) != 95) = true := bne_iff_ne.mpr c38
                                            have H' := Aside0.mk H
                                            clear H
                                            go_wp2_with (first | ((with_reducible refine gate_builtin (b := .append) (xs := #[.tmp 88, .tmp 95]) rfl ?_); (try (refine gate_guard (by rfl) ?_; dsimp only)); at_builtin; refine Kd.R_append k72 (w0 := w) w.heap.size rfl (.tmp 88) (.tmp 95) 68 72 (.agg #[(.bool false), (.string ⟨#[]⟩)]) 24 rfl Tryd.underlying68 info72 rfl (by decide) (by omega) u2 x2_1 (⟨true, a0.extract ((ji27) : Int).toNat (x7_20 : Int).toNat⟩ : S72) [.bool true, .string (a0.extract ((ji27) : Int).toNat (x7_20 : Int).toNat)] (fun _ => True) (fun _ => False) rfl rfl ?aP (fun _ hk => hk.elim) ?aF ?aO ?aB ?aS ?aL ?_; (case aP => exact k72_mkM _ _ _ (⟨true, a0.extract ((ji27) : Int).toNat (x7_20 : Int).toNat⟩ : S72)); (case aB => exact (by repeat (first | (with_reducible first | exact HB.out | apply below_alloc | apply pw_below_drewN | apply below_drew1) | exact HB.out))); (case aF => exact (fun _ _ => trivial)); (case aO => exact (by (with_reducible repeat (first | apply Kd.R_alloc | apply Kd.R_drewN | apply Kd.R_drew)); exact HO_2.out)); (case aS => exact (below_size (by repeat (first | (with_reducible first | exact HB.out | apply below_alloc | apply pw_below_drewN | apply below_drew1) | exact HB.out)))); (case aL => have := LMc31.out; omega); intro v127 w41 ho hb hg hat; rw [← Ny126.out] at ho; have n0_ := Aside0.mk (hb); have n1_ := Aside0.mk (ho); clear HB; clear HO_2; have HB := n0_; have HO128 := n1_; clear n0_ n1_; clear ho hb hg hat; have p37 : 0 ≤ ((ji34) : Int) := of_decide_eq_true (by first | (with_reducible assumption) | assumption); have q37 : (ji34) < (a0.size : Int) := of_decide_eq_true (by first | (with_reducible assumption) | assumption); have hx37 := bt_at a0 (ji34); replace p37 := eq_true p37; replace q37 := eq_true q37; have p40 : 0 ≤ ((ji34) : Int) := of_decide_eq_true (by first | (with_reducible assumption) | assumption); have q40 : (ji34) < (a0.size : Int) := of_decide_eq_true (by first | (with_reducible assumption) | assumption); have hx40 := bt_at a0 (ji34); replace p40 := eq_true p40; replace q40 := eq_true q40))
                                            go_roundg kj20
                                            case measure => have := HK1.out; have := HJ20.out; omega
                                            case rel => exact ⟨(y126), (((bt a0 (ji34)) != 46)), (x7_20), (by first | rfl | (simp; done) | (simp only [← hji34] <;> (first | rfl | simp)) | (simp [*]; done)), (by first | rfl | (simp; done) | (simp [*]; done)), H', ⟨by have := HK1.out; have := HJ20.out; omega⟩, ⟨by (with_reducible repeat (first | apply Kd.R_alloc | apply Kd.R_drewN | apply Kd.R_drew)); exact HO128.out⟩, ⟨by repeat (first | (with_reducible first | exact HB.out | apply below_alloc | apply pw_below_drewN | apply below_drew1) | exact HB.out)⟩⟩
                                        · rw [if_neg c36] at H
                                          exact absurd H (by simp)
                                      · rw [if_neg c35] at H
                                        exact absurd H (by simp)
                                    · replace c33 := Bool.eq_false_iff.mpr c33
                                      subst c33
                                      have H1 : (spec_Bits.l0 kj20 a0 y126 false x7_20) = some (r1, r2, r3) := by rw [if_neg (show ¬ (false = true) by decide)] at H; exact H
                                      clear H
                                      have H := H1
                                      clear H1
                                      have H' := Aside0.mk H
                                      clear H
                                      go_wp2_with (first | ((with_reducible refine gate_builtin (b := .append) (xs := #[.tmp 88, .tmp 95]) rfl ?_); (try (refine gate_guard (by rfl) ?_; dsimp only)); at_builtin; refine Kd.R_append k72 (w0 := w) w.heap.size rfl (.tmp 88) (.tmp 95) 68 72 (.agg #[(.bool false), (.string ⟨#[]⟩)]) 24 rfl Tryd.underlying68 info72 rfl (by decide) (by omega) u2 x2_1 (⟨true, a0.extract ((ji27) : Int).toNat (x7_20 : Int).toNat⟩ : S72) [.bool true, .string (a0.extract ((ji27) : Int).toNat (x7_20 : Int).toNat)] (fun _ => True) (fun _ => False) rfl rfl ?aP (fun _ hk => hk.elim) ?aF ?aO ?aB ?aS ?aL ?_; (case aP => exact k72_mkM _ _ _ (⟨true, a0.extract ((ji27) : Int).toNat (x7_20 : Int).toNat⟩ : S72)); (case aB => exact (by repeat (first | (with_reducible first | exact HB.out | apply below_alloc | apply pw_below_drewN | apply below_drew1) | exact HB.out))); (case aF => exact (fun _ _ => trivial)); (case aO => exact (by (with_reducible repeat (first | apply Kd.R_alloc | apply Kd.R_drewN | apply Kd.R_drew)); exact HO_2.out)); (case aS => exact (below_size (by repeat (first | (with_reducible first | exact HB.out | apply below_alloc | apply pw_below_drewN | apply below_drew1) | exact HB.out)))); (case aL => have := LMc31.out; omega); intro v127 w42 ho hb hg hat; rw [← Ny126.out] at ho; have n0_ := Aside0.mk (hb); have n1_ := Aside0.mk (ho); clear HB; clear HO_2; have HB := n0_; have HO128 := n1_; clear n0_ n1_; clear ho hb hg hat))
                                      go_roundg kj20
                                      case measure => have := HK1.out; have := HJ20.out; omega
                                      case rel => exact ⟨(y126), (false), (x7_20), (by first | rfl | (simp; done) | (simp [*]; done)), (by first | rfl | (simp; done) | (simp [*]; done)), H', ⟨by have := HK1.out; have := HJ20.out; omega⟩, ⟨by (with_reducible repeat (first | apply Kd.R_alloc | apply Kd.R_drewN | apply Kd.R_drew)); exact HO128.out⟩, ⟨by repeat (first | (with_reducible first | exact HB.out | apply below_alloc | apply pw_below_drewN | apply below_drew1) | exact HB.out)⟩⟩
                                  · rw [if_neg c32] at H
                                    have c32b0 : (x7_20 == (a0.size : Int)) = false := beq_eq_false_iff_ne.mpr c32
                                    have c32b1 : (x7_20 != (a0.size : Int)) = true := bne_iff_ne.mpr c32
                                    by_cases c43 : 0 ≤ x7_20
                                    · rw [if_pos c43] at H
                                      have c43b0 : decide (0 ≤ x7_20) = true := decide_eq_true c43
                                      clear c43
                                      by_cases c44 : x7_20 < (a0.size : Int)
                                      · rw [if_pos c44] at H
                                        have c44b0 : decide (x7_20 < (a0.size : Int)) = true := decide_eq_true c44
                                        clear c44
                                        by_cases c46 : (bt a0 x7_20) = 58
                                        · rw [if_pos c46] at H
                                          have c46b0 : ((bt a0 x7_20) == 58) = true := beq_iff_eq.mpr c46
                                          have c46b1 : ((bt a0 x7_20) != 58) = false := bne_eq_false_iff_eq.mpr c46
                                          clear c46
                                          simp only [Option.some.injEq, Prod.mk.injEq] at H
                                          obtain ⟨rfl, rfl, rfl⟩ := H
                                          go_wp2_with (first | ((with_reducible refine gate_builtin (b := .append) (xs := #[.tmp 88, .tmp 95]) rfl ?_); (try (refine gate_guard (by rfl) ?_; dsimp only)); at_builtin; refine Kd.R_append k72 (w0 := w) w.heap.size rfl (.tmp 88) (.tmp 95) 68 72 (.agg #[(.bool false), (.string ⟨#[]⟩)]) 24 rfl Tryd.underlying68 info72 rfl (by decide) (by omega) u2 x2_1 (⟨true, a0.extract ((ji27) : Int).toNat (x7_20 : Int).toNat⟩ : S72) [.bool true, .string (a0.extract ((ji27) : Int).toNat (x7_20 : Int).toNat)] (fun _ => True) (fun _ => False) rfl rfl ?aP (fun _ hk => hk.elim) ?aF ?aO ?aB ?aS ?aL ?_; (case aP => exact k72_mkM _ _ _ (⟨true, a0.extract ((ji27) : Int).toNat (x7_20 : Int).toNat⟩ : S72)); (case aB => exact (by repeat (first | (with_reducible first | exact HB.out | apply below_alloc | apply pw_below_drewN | apply below_drew1) | exact HB.out))); (case aF => exact (fun _ _ => trivial)); (case aO => exact (by (with_reducible repeat (first | apply Kd.R_alloc | apply Kd.R_drewN | apply Kd.R_drew)); exact HO_2.out)); (case aS => exact (below_size (by repeat (first | (with_reducible first | exact HB.out | apply below_alloc | apply pw_below_drewN | apply below_drew1) | exact HB.out)))); (case aL => have := LMc31.out; omega); intro v127 w47 ho hb hg hat; rw [← Ny126.out] at ho; have n0_ := Aside0.mk (hb); have n1_ := Aside0.mk (ho); clear HB; clear HO_2; have HB := n0_; have HO128 := n1_; clear n0_ n1_; clear ho hb hg hat; have p45 : 0 ≤ (x7_20 : Int) := of_decide_eq_true (by first | (with_reducible assumption) | assumption); have q45 : x7_20 < (a0.size : Int) := of_decide_eq_true (by first | (with_reducible assumption) | assumption); have hx45 := bt_at a0 x7_20; replace p45 := eq_true p45; replace q45 := eq_true q45))
                                          go_ret3
                                          exact ⟨_, by first | rfl | (simp [errW_none, errW_some] <;> rfl) | (simp only [← hji7, ← hji27]; first | rfl | (simp [errW_none, errW_some] <;> rfl)) | (simp [*, errW_none, errW_some] <;> rfl), by first | exact Kd.R_nil _ _ _ _ _ | exact Kd.N_nil _ _ _ _ _ | exact Kd.V_nil _ _ _ _ _ | exact Kd.Q_nil _ _ _ _ _ | exact Kd.S_nil _ _ _ _ _, by repeat (first | (with_reducible first | exact HB.out | apply below_alloc | apply pw_below_drewN | apply below_drew1) | exact HB.out)⟩
                                        · rw [if_neg c46] at H
                                          have c46b0 : ((bt a0 x7_20) == 58) = false := beq_eq_false_iff_ne.mpr c46
                                          have c46b1 : ((bt a0 x7_20) != 58) = true := bne_iff_ne.mpr c46
                                          by_cases c49 : (bt a0 x7_20) ≥ 128
                                          · rw [if_pos c49] at H
                                            have c49b0 : decide (128 ≤ (bt a0 x7_20)) = true := decide_eq_true c49
                                            clear c49
                                            have H' := Aside0.mk H
                                            clear H
                                            go_wp2_with (first | ((with_reducible refine gate_builtin (b := .append) (xs := #[.tmp 88, .tmp 95]) rfl ?_); (try (refine gate_guard (by rfl) ?_; dsimp only)); at_builtin; refine Kd.R_append k72 (w0 := w) w.heap.size rfl (.tmp 88) (.tmp 95) 68 72 (.agg #[(.bool false), (.string ⟨#[]⟩)]) 24 rfl Tryd.underlying68 info72 rfl (by decide) (by omega) u2 x2_1 (⟨true, a0.extract ((ji27) : Int).toNat (x7_20 : Int).toNat⟩ : S72) [.bool true, .string (a0.extract ((ji27) : Int).toNat (x7_20 : Int).toNat)] (fun _ => True) (fun _ => False) rfl rfl ?aP (fun _ hk => hk.elim) ?aF ?aO ?aB ?aS ?aL ?_; (case aP => exact k72_mkM _ _ _ (⟨true, a0.extract ((ji27) : Int).toNat (x7_20 : Int).toNat⟩ : S72)); (case aB => exact (by repeat (first | (with_reducible first | exact HB.out | apply below_alloc | apply pw_below_drewN | apply below_drew1) | exact HB.out))); (case aF => exact (fun _ _ => trivial)); (case aO => exact (by (with_reducible repeat (first | apply Kd.R_alloc | apply Kd.R_drewN | apply Kd.R_drew)); exact HO_2.out)); (case aS => exact (below_size (by repeat (first | (with_reducible first | exact HB.out | apply below_alloc | apply pw_below_drewN | apply below_drew1) | exact HB.out)))); (case aL => have := LMc31.out; omega); intro v127 w50 ho hb hg hat; rw [← Ny126.out] at ho; have n0_ := Aside0.mk (hb); have n1_ := Aside0.mk (ho); clear HB; clear HO_2; have HB := n0_; have HO128 := n1_; clear n0_ n1_; clear ho hb hg hat; have p45 : 0 ≤ (x7_20 : Int) := of_decide_eq_true (by first | (with_reducible assumption) | assumption); have q45 : x7_20 < (a0.size : Int) := of_decide_eq_true (by first | (with_reducible assumption) | assumption); have hx45 := bt_at a0 x7_20; replace p45 := eq_true p45; replace q45 := eq_true q45; have p48 : 0 ≤ (x7_20 : Int) := of_decide_eq_true (by first | (with_reducible assumption) | assumption); have q48 : x7_20 < (a0.size : Int) := of_decide_eq_true (by first | (with_reducible assumption) | assumption); have hx48 := bt_at a0 x7_20; replace p48 := eq_true p48; replace q48 := eq_true q48))
                                            go_roundg kj20
                                            case measure => have := HK1.out; have := HJ20.out; omega
                                            case rel => exact ⟨(y126), (false), (x7_20), (by first | rfl | (simp; done) | (simp [*]; done)), (by first | rfl | (simp; done) | (simp [*]; done)), H', ⟨by have := HK1.out; have := HJ20.out; omega⟩, ⟨by (with_reducible repeat (first | apply Kd.R_alloc | apply Kd.R_drewN | apply Kd.R_drew)); exact HO128.out⟩, ⟨by repeat (first | (with_reducible first | exact HB.out | apply below_alloc | apply pw_below_drewN | apply below_drew1) | exact HB.out)⟩⟩
                                          · rw [if_neg c49] at H
                                            have c49b0 : decide (128 ≤ (bt a0 x7_20)) = false := decide_eq_false c49
                                            clear c49
                                            by_cases c51 : x7_20 = (ji27)
                                            · rw [if_pos c51] at H
                                              have c51b0 : (x7_20 == (ji27)) = true := beq_iff_eq.mpr c51
                                              have c51b1 : (x7_20 != (ji27)) = false := bne_eq_false_iff_eq.mpr c51
                                              clear c51
                                              by_cases c52 : (wrap64 (x7_20 + 1)) = (a0.size : Int)
                                              · rw [if_pos c52] at H
                                                have c52b0 : ((wrap64 (x7_20 + 1)) == (a0.size : Int)) = true := beq_iff_eq.mpr c52
                                                have c52b1 : ((wrap64 (x7_20 + 1)) != (a0.size : Int)) = false := bne_eq_false_iff_eq.mpr c52
                                                clear c52
                                                have H' := Aside0.mk H
                                                clear H
                                                go_wp2_with (first | ((with_reducible refine gate_builtin (b := .append) (xs := #[.tmp 88, .tmp 95]) rfl ?_); (try (refine gate_guard (by rfl) ?_; dsimp only)); at_builtin; refine Kd.R_append k72 (w0 := w) w.heap.size rfl (.tmp 88) (.tmp 95) 68 72 (.agg #[(.bool false), (.string ⟨#[]⟩)]) 24 rfl Tryd.underlying68 info72 rfl (by decide) (by omega) u2 x2_1 (⟨true, a0.extract ((ji27) : Int).toNat (x7_20 : Int).toNat⟩ : S72) [.bool true, .string (a0.extract ((ji27) : Int).toNat (x7_20 : Int).toNat)] (fun _ => True) (fun _ => False) rfl rfl ?aP (fun _ hk => hk.elim) ?aF ?aO ?aB ?aS ?aL ?_; (case aP => exact k72_mkM _ _ _ (⟨true, a0.extract ((ji27) : Int).toNat (x7_20 : Int).toNat⟩ : S72)); (case aB => exact (by repeat (first | (with_reducible first | exact HB.out | apply below_alloc | apply pw_below_drewN | apply below_drew1) | exact HB.out))); (case aF => exact (fun _ _ => trivial)); (case aO => exact (by (with_reducible repeat (first | apply Kd.R_alloc | apply Kd.R_drewN | apply Kd.R_drew)); exact HO_2.out)); (case aS => exact (below_size (by repeat (first | (with_reducible first | exact HB.out | apply below_alloc | apply pw_below_drewN | apply below_drew1) | exact HB.out)))); (case aL => have := LMc31.out; omega); intro v127 w53 ho hb hg hat; rw [← Ny126.out] at ho; have n0_ := Aside0.mk (hb); have n1_ := Aside0.mk (ho); clear HB; clear HO_2; have HB := n0_; have HO128 := n1_; clear n0_ n1_; clear ho hb hg hat; have p45 : 0 ≤ (x7_20 : Int) := of_decide_eq_true (by first | (with_reducible assumption) | assumption); have q45 : x7_20 < (a0.size : Int) := of_decide_eq_true (by first | (with_reducible assumption) | assumption); have hx45 := bt_at a0 x7_20; replace p45 := eq_true p45; replace q45 := eq_true q45; have p48 : 0 ≤ (x7_20 : Int) := of_decide_eq_true (by first | (with_reducible assumption) | assumption); have q48 : x7_20 < (a0.size : Int) := of_decide_eq_true (by first | (with_reducible assumption) | assumption); have hx48 := bt_at a0 x7_20; replace p48 := eq_true p48; replace q48 := eq_true q48))
                                                go_roundg kj20
                                                case measure => have := HK1.out; have := HJ20.out; omega
                                                case rel => exact ⟨(y126), (false), (x7_20), (by first | rfl | (simp; done) | (simp [*]; done)), (by first | rfl | (simp; done) | (simp [*]; done)), H', ⟨by have := HK1.out; have := HJ20.out; omega⟩, ⟨by (with_reducible repeat (first | apply Kd.R_alloc | apply Kd.R_drewN | apply Kd.R_drew)); exact HO128.out⟩, ⟨by repeat (first | (with_reducible first | exact HB.out | apply below_alloc | apply pw_below_drewN | apply below_drew1) | exact HB.out)⟩⟩
                                              · rw [if_neg c52] at H
                                                have c52b0 : ((wrap64 (x7_20 + 1)) == (a0.size : Int)) = false := beq_eq_false_iff_ne.mpr c52
                                                have c52b1 : ((wrap64 (x7_20 + 1)) != (a0.size : Int)) = true := bne_iff_ne.mpr c52
                                                have H' := Aside0.mk H
                                                clear H
                                                go_wp2_with (first | ((with_reducible refine gate_builtin (b := .append) (xs := #[.tmp 88, .tmp 95]) rfl ?_); (try (refine gate_guard (by rfl) ?_; dsimp only)); at_builtin; refine Kd.R_append k72 (w0 := w) w.heap.size rfl (.tmp 88) (.tmp 95) 68 72 (.agg #[(.bool false), (.string ⟨#[]⟩)]) 24 rfl Tryd.underlying68 info72 rfl (by decide) (by omega) u2 x2_1 (⟨true, a0.extract ((ji27) : Int).toNat (x7_20 : Int).toNat⟩ : S72) [.bool true, .string (a0.extract ((ji27) : Int).toNat (x7_20 : Int).toNat)] (fun _ => True) (fun _ => False) rfl rfl ?aP (fun _ hk => hk.elim) ?aF ?aO ?aB ?aS ?aL ?_; (case aP => exact k72_mkM _ _ _ (⟨true, a0.extract ((ji27) : Int).toNat (x7_20 : Int).toNat⟩ : S72)); (case aB => exact (by repeat (first | (with_reducible first | exact HB.out | apply below_alloc | apply pw_below_drewN | apply below_drew1) | exact HB.out))); (case aF => exact (fun _ _ => trivial)); (case aO => exact (by (with_reducible repeat (first | apply Kd.R_alloc | apply Kd.R_drewN | apply Kd.R_drew)); exact HO_2.out)); (case aS => exact (below_size (by repeat (first | (with_reducible first | exact HB.out | apply below_alloc | apply pw_below_drewN | apply below_drew1) | exact HB.out)))); (case aL => have := LMc31.out; omega); intro v127 w54 ho hb hg hat; rw [← Ny126.out] at ho; have n0_ := Aside0.mk (hb); have n1_ := Aside0.mk (ho); clear HB; clear HO_2; have HB := n0_; have HO128 := n1_; clear n0_ n1_; clear ho hb hg hat; have p45 : 0 ≤ (x7_20 : Int) := of_decide_eq_true (by first | (with_reducible assumption) | assumption); have q45 : x7_20 < (a0.size : Int) := of_decide_eq_true (by first | (with_reducible assumption) | assumption); have hx45 := bt_at a0 x7_20; replace p45 := eq_true p45; replace q45 := eq_true q45; have p48 : 0 ≤ (x7_20 : Int) := of_decide_eq_true (by first | (with_reducible assumption) | assumption); have q48 : x7_20 < (a0.size : Int) := of_decide_eq_true (by first | (with_reducible assumption) | assumption); have hx48 := bt_at a0 x7_20; replace p48 := eq_true p48; replace q48 := eq_true q48))
                                                go_roundg kj20
                                                case measure => have := HK1.out; have := HJ20.out; omega
                                                case rel => exact ⟨(y126), (x4_1), (x7_20), (by first | rfl | (simp; done) | (simp [*]; done)), (by first | rfl | (simp; done) | (simp [*]; done)), H', ⟨by have := HK1.out; have := HJ20.out; omega⟩, ⟨by (with_reducible repeat (first | apply Kd.R_alloc | apply Kd.R_drewN | apply Kd.R_drew)); exact HO128.out⟩, ⟨by repeat (first | (with_reducible first | exact HB.out | apply below_alloc | apply pw_below_drewN | apply below_drew1) | exact HB.out)⟩⟩
                                            · rw [if_neg c51] at H
                                              have c51b0 : (x7_20 == (ji27)) = false := beq_eq_false_iff_ne.mpr c51
                                              have c51b1 : (x7_20 != (ji27)) = true := bne_iff_ne.mpr c51
                                              have H' := Aside0.mk H
                                              clear H
                                              go_wp2_with (first | ((with_reducible refine gate_builtin (b := .append) (xs := #[.tmp 88, .tmp 95]) rfl ?_); (try (refine gate_guard (by rfl) ?_; dsimp only)); at_builtin; refine Kd.R_append k72 (w0 := w) w.heap.size rfl (.tmp 88) (.tmp 95) 68 72 (.agg #[(.bool false), (.string ⟨#[]⟩)]) 24 rfl Tryd.underlying68 info72 rfl (by decide) (by omega) u2 x2_1 (⟨true, a0.extract ((ji27) : Int).toNat (x7_20 : Int).toNat⟩ : S72) [.bool true, .string (a0.extract ((ji27) : Int).toNat (x7_20 : Int).toNat)] (fun _ => True) (fun _ => False) rfl rfl ?aP (fun _ hk => hk.elim) ?aF ?aO ?aB ?aS ?aL ?_; (case aP => exact k72_mkM _ _ _ (⟨true, a0.extract ((ji27) : Int).toNat (x7_20 : Int).toNat⟩ : S72)); (case aB => exact (by repeat (first | (with_reducible first | exact HB.out | apply below_alloc | apply pw_below_drewN | apply below_drew1) | exact HB.out))); (case aF => exact (fun _ _ => trivial)); (case aO => exact (by (with_reducible repeat (first | apply Kd.R_alloc | apply Kd.R_drewN | apply Kd.R_drew)); exact HO_2.out)); (case aS => exact (below_size (by repeat (first | (with_reducible first | exact HB.out | apply below_alloc | apply pw_below_drewN | apply below_drew1) | exact HB.out)))); (case aL => have := LMc31.out; omega); intro v127 w55 ho hb hg hat; rw [← Ny126.out] at ho; have n0_ := Aside0.mk (hb); have n1_ := Aside0.mk (ho); clear HB; clear HO_2; have HB := n0_; have HO128 := n1_; clear n0_ n1_; clear ho hb hg hat; have p45 : 0 ≤ (x7_20 : Int) := of_decide_eq_true (by first | (with_reducible assumption) | assumption); have q45 : x7_20 < (a0.size : Int) := of_decide_eq_true (by first | (with_reducible assumption) | assumption); have hx45 := bt_at a0 x7_20; replace p45 := eq_true p45; replace q45 := eq_true q45; have p48 : 0 ≤ (x7_20 : Int) := of_decide_eq_true (by first | (with_reducible assumption) | assumption); have q48 : x7_20 < (a0.size : Int) := of_decide_eq_true (by first | (with_reducible assumption) | assumption); have hx48 := bt_at a0 x7_20; replace p48 := eq_true p48; replace q48 := eq_true q48))
                                              go_roundg kj20
                                              case measure => have := HK1.out; have := HJ20.out; omega
                                              case rel => exact ⟨(y126), (x4_1), (x7_20), (by first | rfl | (simp; done) | (simp [*]; done)), (by first | rfl | (simp; done) | (simp [*]; done)), H', ⟨by have := HK1.out; have := HJ20.out; omega⟩, ⟨by (with_reducible repeat (first | apply Kd.R_alloc | apply Kd.R_drewN | apply Kd.R_drew)); exact HO128.out⟩, ⟨by repeat (first | (with_reducible first | exact HB.out | apply below_alloc | apply pw_below_drewN | apply below_drew1) | exact HB.out)⟩⟩
                                      · rw [if_neg c44] at H
                                        exact absurd H (by simp)
                                    · rw [if_neg c43] at H
                                      exact absurd H (by simp)
                                · rw [if_neg c31] at H
                                  exact absurd H (by simp)
                              · rw [if_neg c30] at H
                                exact absurd H (by simp)
                            · rw [if_neg c29] at H
                              exact absurd H (by simp)
                          · rw [if_neg c28] at H
                            exact absurd H (by simp)
                · rw [if_neg c9] at H
                  exact absurd H (by simp)
              · rw [if_neg c8] at H
                exact absurd H (by simp)
          · rw [if_neg c5] at H
            have c5b0 : ((bt a0 x5_1) == 58) = false := beq_eq_false_iff_ne.mpr c5
            have c5b1 : ((bt a0 x5_1) != 58) = true := bne_iff_ne.mpr c5
            have H' := Aside0.mk H
            clear H
            have p4 : 0 ≤ (x5_1 : Int) := of_decide_eq_true (by first | (with_reducible assumption) | assumption)
            have q4 : x5_1 < (a0.size : Int) := of_decide_eq_true (by first | (with_reducible assumption) | assumption)
            have hx4 := bt_at a0 x5_1
            replace p4 := eq_true p4
            replace q4 := eq_true q4
            go_wp2
            go_loopg [6] k1 (fun kq v6 w' => ∃ (x6_2 : Int), v6 = .int .i64 x6_2 ∧ Aside0 (spec_Bits.l1 kq a0 x2_1 x4_1 x5_1 x6_2 = some (r1, r2, r3)) ∧ Aside0 (kq ≤ k1) ∧ Aside0 (Kd.R k72 72 w' w.heap.size (fun _ => True) u2 x2_1) ∧ Aside0 (Below w.heap.size w w'))
            case atStart => exact ⟨(x5_1), (by first | rfl | (simp; done) | (simp [*]; done)), H', ⟨Nat.le_refl _⟩, ⟨by (with_reducible repeat (first | apply Kd.R_alloc | apply Kd.R_drewN | apply Kd.R_drew)); exact HO_2.out⟩, ⟨by repeat (first | (with_reducible first | exact HB.out | apply below_alloc | apply pw_below_drewN | apply below_drew1) | exact HB.out)⟩⟩
            case round =>
              clear H'
              try clear c1
              try clear p1
              try clear q1
              try clear hx1
              try clear c2
              try clear c2b0
              try clear p2
              try clear q2
              try clear hx2
              try clear c3
              try clear c3b0
              try clear p3
              try clear q3
              try clear hx3
              try clear c4
              try clear p4
              try clear q4
              try clear hx4
              try clear c5
              try clear c5b0
              try clear c5b1
              try clear c6
              try clear c6b0
              try clear c6b1
              try clear p6
              try clear c8
              try clear c8b0
              try clear c9
              try clear c9b0
              try clear p10
              try clear q10
              try clear hx10
              try clear c11
              try clear c11b0
              try clear c11b1
              try clear c12
              try clear p14
              try clear q14
              try clear hx14
              try clear c15
              try clear c15b0
              try clear c15b1
              try clear c16
              try clear c17
              try clear c19
              try clear c22
              try clear c22b0
              try clear c23
              try clear c23b0
              try clear p24
              try clear q24
              try clear hx24
              try clear c26
              try clear c28
              try clear c28b0
              try clear c28b1
              try clear c29
              try clear c29b0
              try clear c29b1
              try clear c30
              try clear c30b0
              try clear c30b1
              try clear c31
              try clear c32
              try clear c32b0
              try clear c32b1
              try clear c33
              try clear c35
              try clear c35b0
              try clear c36
              try clear c36b0
              try clear p37
              try clear q37
              try clear hx37
              try clear c38
              try clear c38b0
              try clear c38b1
              try clear p40
              try clear q40
              try clear hx40
              try clear c43
              try clear c43b0
              try clear c44
              try clear c44b0
              try clear p45
              try clear q45
              try clear hx45
              try clear c46
              try clear c46b0
              try clear c46b1
              try clear p48
              try clear q48
              try clear hx48
              try clear c49
              try clear c49b0
              try clear c51
              try clear c51b0
              try clear c51b1
              try clear c52
              try clear c52b0
              try clear c52b1
              try clear p1
              try clear p10
              try clear p14
              try clear p2
              try clear p24
              try clear p37
              try clear p4
              try clear p40
              try clear p45
              try clear p48
              try clear p6
              try clear q1
              try clear q10
              try clear q14
              try clear q2
              try clear q24
              try clear q37
              try clear q4
              try clear q40
              try clear q45
              try clear q48
              obtain ⟨x6_2, rfl, HA, HK2, HO_2, HB⟩ := hrel
              cases gk with
              | zero => exact absurd HA.out (by simp [spec_Bits.l1])
              | succ k2 =>
                have H := HA.out
                clear HA
                simp only [spec_Bits.l1] at H
                by_cases c56 : x6_2 < (a0.size : Int)
                · rw [if_pos c56] at H
                  have c56b0 : decide (x6_2 < (a0.size : Int)) = true := decide_eq_true c56
                  clear c56
                  by_cases c57 : 0 ≤ x6_2
                  · rw [if_pos c57] at H
                    have c57b0 : decide (0 ≤ x6_2) = true := decide_eq_true c57
                    clear c57
                    by_cases c59 : (bt a0 x6_2) = 58
                    · rw [if_pos c59] at H
                      have c59b0 : ((bt a0 x6_2) == 58) = true := beq_iff_eq.mpr c59
                      have c59b1 : ((bt a0 x6_2) != 58) = false := bne_eq_false_iff_eq.mpr c59
                      clear c59
                      by_cases c60 : 0 ≤ x5_1
                      · rw [if_pos c60] at H
                        have c60b0 := eq_true c60
                        have c60b1 : decide (0 ≤ x5_1) = true := decide_eq_true c60
                        clear c60
                        by_cases c61 : x5_1 ≤ x6_2
                        · rw [if_pos c61] at H
                          have c61b0 := eq_true c61
                          have c61b1 : decide (x5_1 ≤ x6_2) = true := decide_eq_true c61
                          clear c61
                          by_cases c62 : x6_2 ≤ (a0.size : Int)
                          · rw [if_pos c62] at H
                            have c62b0 := eq_true c62
                            have c62b1 : decide (x6_2 ≤ (a0.size : Int)) = true := decide_eq_true c62
                            clear c62
                            by_cases c63 : x2_1.length < 5864062014805
                            · rw [if_pos c63] at H
                              have LMc63 := Aside0.mk c63
                              clear c63
                              obtain ⟨y110, hy110⟩ : ∃ y_ : List (S72), y_ = (x2_1 ++ [(⟨false, a0.extract (x5_1 : Int).toNat (x6_2 : Int).toNat⟩ : S72)]) := ⟨_, rfl⟩
                              replace H : (spec_Bits.l0 k2 a0 y110 x4_1 x6_2) = some (r1, r2, r3) := by first | (rw [hy110]; with_reducible exact H) | (have H2_ := (Option.bind_some _ _).symm.trans H; rw [hy110]; with_reducible exact H2_) | (have H2_ := (Option.bind_some _ _).symm.trans H; with_reducible exact H2_) | with_reducible exact H | (rw [hy110]; exact H) | exact H
                              have Ny110 := Aside0.mk hy110
                              clear hy110
                              have H' := Aside0.mk H
                              clear H
                              have p58 : 0 ≤ (x6_2 : Int) := of_decide_eq_true (by first | (with_reducible assumption) | assumption)
                              have q58 : x6_2 < (a0.size : Int) := of_decide_eq_true (by first | (with_reducible assumption) | assumption)
                              have hx58 := bt_at a0 x6_2
                              replace p58 := eq_true p58
                              replace q58 := eq_true q58
                              go_wp2_with (first | ((with_reducible refine gate_builtin (b := .append) (xs := #[.tmp 29, .tmp 35]) rfl ?_); (try (refine gate_guard (by rfl) ?_; dsimp only)); at_builtin; refine Kd.R_append k72 (w0 := w) w.heap.size rfl (.tmp 29) (.tmp 35) 68 72 (.agg #[(.bool false), (.string ⟨#[]⟩)]) 24 rfl Tryd.underlying68 info72 rfl (by decide) (by omega) u2 x2_1 (⟨false, a0.extract (x5_1 : Int).toNat (x6_2 : Int).toNat⟩ : S72) [.bool false, .string (a0.extract (x5_1 : Int).toNat (x6_2 : Int).toNat)] (fun _ => True) (fun _ => False) rfl rfl ?aP (fun _ hk => hk.elim) ?aF ?aO ?aB ?aS ?aL ?_; (case aP => exact k72_mkM _ _ _ (⟨false, a0.extract (x5_1 : Int).toNat (x6_2 : Int).toNat⟩ : S72)); (case aB => exact (by repeat (first | (with_reducible first | exact HB.out | apply below_alloc | apply pw_below_drewN | apply below_drew1) | exact HB.out))); (case aF => exact (fun _ _ => trivial)); (case aO => exact (by (with_reducible repeat (first | apply Kd.R_alloc | apply Kd.R_drewN | apply Kd.R_drew)); exact HO_2.out)); (case aS => exact (below_size (by repeat (first | (with_reducible first | exact HB.out | apply below_alloc | apply pw_below_drewN | apply below_drew1) | exact HB.out)))); (case aL => have := LMc63.out; omega); intro v111 w64 ho hb hg hat; rw [← Ny110.out] at ho; have n0_ := Aside0.mk (hb); have n1_ := Aside0.mk (ho); clear HB; clear HO_2; have HB := n0_; have HO112 := n1_; clear n0_ n1_; clear ho hb hg hat))
                              go_roundg k2
                              case measure => have := HK1.out; have := HK2.out; omega
                              case rel => exact ⟨(y110), (x4_1), (x6_2), (by first | rfl | (simp; done) | (simp [*]; done)), (by first | rfl | (simp; done) | (simp [*]; done)), H', ⟨by have := HK1.out; have := HK2.out; omega⟩, ⟨by (with_reducible repeat (first | apply Kd.R_alloc | apply Kd.R_drewN | apply Kd.R_drew)); exact HO112.out⟩, ⟨by repeat (first | (with_reducible first | exact HB.out | apply below_alloc | apply pw_below_drewN | apply below_drew1) | exact HB.out)⟩⟩
                            · rw [if_neg c63] at H
                              exact absurd H (by simp)
                          · rw [if_neg c62] at H
                            exact absurd H (by simp)
                        · rw [if_neg c61] at H
                          exact absurd H (by simp)
                      · rw [if_neg c60] at H
                        exact absurd H (by simp)
                    · rw [if_neg c59] at H
                      have c59b0 : ((bt a0 x6_2) == 58) = false := beq_eq_false_iff_ne.mpr c59
                      have c59b1 : ((bt a0 x6_2) != 58) = true := bne_iff_ne.mpr c59
                      have H' := Aside0.mk H
                      clear H
                      have p58 : 0 ≤ (x6_2 : Int) := of_decide_eq_true (by first | (with_reducible assumption) | assumption)
                      have q58 : x6_2 < (a0.size : Int) := of_decide_eq_true (by first | (with_reducible assumption) | assumption)
                      have hx58 := bt_at a0 x6_2
                      replace p58 := eq_true p58
                      replace q58 := eq_true q58
                      go_wp2
                      go_roundg k2
                      case measure => have := HK1.out; have := HK2.out; omega
                      case rel => exact ⟨(wrap64 (x6_2 + 1)), (by first | rfl | (simp; done) | (simp [*]; done)), H', ⟨by have := HK1.out; have := HK2.out; omega⟩, ⟨by (with_reducible repeat (first | apply Kd.R_alloc | apply Kd.R_drewN | apply Kd.R_drew)); exact HO_2.out⟩, ⟨by repeat (first | (with_reducible first | exact HB.out | apply below_alloc | apply pw_below_drewN | apply below_drew1) | exact HB.out)⟩⟩
                  · rw [if_neg c57] at H
                    exact absurd H (by simp)
                · rw [if_neg c56] at H
                  have c56b0 : decide (x6_2 < (a0.size : Int)) = false := decide_eq_false c56
                  clear c56
                  by_cases c65 : 0 ≤ x5_1
                  · rw [if_pos c65] at H
                    have c65b0 := eq_true c65
                    have c65b1 : decide (0 ≤ x5_1) = true := decide_eq_true c65
                    clear c65
                    by_cases c66 : x5_1 ≤ x6_2
                    · rw [if_pos c66] at H
                      have c66b0 := eq_true c66
                      have c66b1 : decide (x5_1 ≤ x6_2) = true := decide_eq_true c66
                      clear c66
                      by_cases c67 : x6_2 ≤ (a0.size : Int)
                      · rw [if_pos c67] at H
                        have c67b0 := eq_true c67
                        have c67b1 : decide (x6_2 ≤ (a0.size : Int)) = true := decide_eq_true c67
                        clear c67
                        by_cases c68 : x2_1.length < 5864062014805
                        · rw [if_pos c68] at H
                          have LMc68 := Aside0.mk c68
                          clear c68
                          obtain ⟨y113, hy113⟩ : ∃ y_ : List (S72), y_ = (x2_1 ++ [(⟨false, a0.extract (x5_1 : Int).toNat (x6_2 : Int).toNat⟩ : S72)]) := ⟨_, rfl⟩
                          replace H : (spec_Bits.l0 k2 a0 y113 x4_1 x6_2) = some (r1, r2, r3) := by first | (rw [hy113]; with_reducible exact H) | (have H2_ := (Option.bind_some _ _).symm.trans H; rw [hy113]; with_reducible exact H2_) | (have H2_ := (Option.bind_some _ _).symm.trans H; with_reducible exact H2_) | with_reducible exact H | (rw [hy113]; exact H) | exact H
                          have Ny113 := Aside0.mk hy113
                          clear hy113
                          have H' := Aside0.mk H
                          clear H
                          go_wp2_with (first | ((with_reducible refine gate_builtin (b := .append) (xs := #[.tmp 29, .tmp 35]) rfl ?_); (try (refine gate_guard (by rfl) ?_; dsimp only)); at_builtin; refine Kd.R_append k72 (w0 := w) w.heap.size rfl (.tmp 29) (.tmp 35) 68 72 (.agg #[(.bool false), (.string ⟨#[]⟩)]) 24 rfl Tryd.underlying68 info72 rfl (by decide) (by omega) u2 x2_1 (⟨false, a0.extract (x5_1 : Int).toNat (x6_2 : Int).toNat⟩ : S72) [.bool false, .string (a0.extract (x5_1 : Int).toNat (x6_2 : Int).toNat)] (fun _ => True) (fun _ => False) rfl rfl ?aP (fun _ hk => hk.elim) ?aF ?aO ?aB ?aS ?aL ?_; (case aP => exact k72_mkM _ _ _ (⟨false, a0.extract (x5_1 : Int).toNat (x6_2 : Int).toNat⟩ : S72)); (case aB => exact (by repeat (first | (with_reducible first | exact HB.out | apply below_alloc | apply pw_below_drewN | apply below_drew1) | exact HB.out))); (case aF => exact (fun _ _ => trivial)); (case aO => exact (by (with_reducible repeat (first | apply Kd.R_alloc | apply Kd.R_drewN | apply Kd.R_drew)); exact HO_2.out)); (case aS => exact (below_size (by repeat (first | (with_reducible first | exact HB.out | apply below_alloc | apply pw_below_drewN | apply below_drew1) | exact HB.out)))); (case aL => have := LMc68.out; omega); intro v114 w69 ho hb hg hat; rw [← Ny113.out] at ho; have n0_ := Aside0.mk (hb); have n1_ := Aside0.mk (ho); clear HB; clear HO_2; have HB := n0_; have HO115 := n1_; clear n0_ n1_; clear ho hb hg hat))
                          go_roundg k2
                          case measure => have := HK1.out; have := HK2.out; omega
                          case rel => exact ⟨(y113), (x4_1), (x6_2), (by first | rfl | (simp; done) | (simp [*]; done)), (by first | rfl | (simp; done) | (simp [*]; done)), H', ⟨by have := HK1.out; have := HK2.out; omega⟩, ⟨by (with_reducible repeat (first | apply Kd.R_alloc | apply Kd.R_drewN | apply Kd.R_drew)); exact HO115.out⟩, ⟨by repeat (first | (with_reducible first | exact HB.out | apply below_alloc | apply pw_below_drewN | apply below_drew1) | exact HB.out)⟩⟩
                        · rw [if_neg c68] at H
                          exact absurd H (by simp)
                      · rw [if_neg c67] at H
                        exact absurd H (by simp)
                    · rw [if_neg c66] at H
                      exact absurd H (by simp)
                  · rw [if_neg c65] at H
                    exact absurd H (by simp)
        · rw [if_neg c3] at H
          exact absurd H (by simp)
      · rw [if_neg c2] at H
        have c2b0 : decide (x5_1 < (a0.size : Int)) = false := decide_eq_false c2
        clear c2
        simp only [Option.some.injEq, Prod.mk.injEq] at H
        obtain ⟨rfl, rfl, rfl⟩ := H
        go_wp2
        go_ret3
        exact ⟨_, by first | rfl | (simp [errW_none, errW_some] <;> rfl) | (simp [*, errW_none, errW_some] <;> rfl), by (with_reducible repeat (first | apply Kd.R_alloc | apply Kd.R_drewN | apply Kd.R_drew)); exact HO_2.out, by repeat (first | (with_reducible first | exact HB.out | apply below_alloc | apply pw_below_drewN | apply below_drew1) | exact HB.out)⟩

end Go.Proofs.YtnmhoghmhglimaaDoor.QC
