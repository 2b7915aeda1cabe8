/-
  MERGED BY A PROGRAM OF THIS SESSION (wip/pack.py): QN6, QN7, QN9.
-/
import Derived.Test.YtnmhoghmhglimaaDoorVD
-- WRITTEN BY A PROGRAM OF THIS SESSION (wip/print2.py): the print, with contracts of this session's own let in. Not trusted: Lean checks it.
namespace Go.Proofs.YtnmhoghmhglimaaDoor.QN
open Go.RowKit Go.Proofs.YtnmhoghmhglimaaDoorW.PrintWords Go.Proofs.YtnmhoghmhglimaaDoorW.PrintLast Go.Proofs.YtnmhoghmhglimaaDoorW.PrintMore
attribute [local go_sem] max2_int min2_int max_two min_two max_three min_three max_four min_four   -- for this text's walks alone
set_option linter.unusedVariables false
set_option linter.unusedSimpArgs false

/-! ### spec_Bits: function 51 -/
mutual
def spec_Bits.l0 : Nat → ByteArray → List (S72) → Bool → Int → Option ((List (S72)) × Bool × Bool)
  | 0, _, _, _, _ => none
  | k + 1, x0, x2, x4, x5 => if x5 < (x0.size : Int) then (if 0 ≤ x5 then (if (bt x0 x5) = 58 then (if (wrap64 (x5 + 1)) = (x0.size : Int) then (some (x2, true, false)) else (if 0 ≤ (wrap64 (x5 + 1)) then (if (wrap64 (x5 + 1)) < (x0.size : Int) then (if (bt x0 (wrap64 (x5 + 1))) = 58 then (if x2.length < 5864062014805 then (spec_Bits.l0 k x0 (x2 ++ [(⟨false, (⟨#[58]⟩ : ByteArray)⟩ : S72)]) x4 (wrap64 (x5 + 2))) else (none)) else (if (bt x0 (wrap64 (x5 + 1))) = 61 then (if x4 = true then (if x2.length < 5864062014805 then (spec_Bits.l0 k x0 (x2 ++ [(⟨false, (⟨#[58, 61]⟩ : ByteArray)⟩ : S72)]) (decide ((wrap64 (x5 + 2)) < (x0.size : Int))) (wrap64 (x5 + 2))) else (none)) else (if x2.length < 5864062014805 then (spec_Bits.l0 k x0 (x2 ++ [(⟨false, (⟨#[58, 61]⟩ : ByteArray)⟩ : S72)]) false (wrap64 (x5 + 2))) else (none))) else (spec_Bits.l2 k x0 x2 x4 x5 (wrap64 (x5 + 1))))) else (none)) else (none))) else (spec_Bits.l1 k x0 x2 x4 x5 x5)) else (none)) else (some (x2, true, x4))
def spec_Bits.j3 : Nat → ByteArray → List (S72) → Bool → Int → Int → Option ((List (S72)) × Bool × Bool)
  | 0, _, _, _, _, _ => none
  | k + 1, x0, x2, x4, x5, x7 => if 0 ≤ (wrap64 (x5 + 1)) then (if (wrap64 (x5 + 1)) ≤ x7 then (if x7 ≤ (x0.size : Int) then (if x2.length < 5864062014805 then ((some (x2 ++ [(⟨true, x0.extract ((wrap64 (x5 + 1)) : Int).toNat (x7 : Int).toNat⟩ : S72)] : List (S72))).bind fun y137 => (if x7 = (x0.size : Int) then (if x4 = true then (if 0 ≤ (wrap64 (x7 - 1)) then (if (wrap64 (x7 - 1)) < (x0.size : Int) then (if (bt x0 (wrap64 (x7 - 1))) = 95 then (spec_Bits.l0 k x0 y137 false x7) else (spec_Bits.l0 k x0 y137 ((bt x0 (wrap64 (x7 - 1))) != 46) x7)) else (none)) else (none)) else (spec_Bits.l0 k x0 y137 false x7)) else (if 0 ≤ x7 then (if x7 < (x0.size : Int) then (if (bt x0 x7) = 58 then (some (([] : List (S72)), false, x4)) else (if (bt x0 x7) ≥ 128 then (spec_Bits.l0 k x0 y137 false x7) else (if x7 = (wrap64 (x5 + 1)) then (if (wrap64 (x7 + 1)) = (x0.size : Int) then (spec_Bits.l0 k x0 y137 false x7) else (spec_Bits.l0 k x0 y137 x4 x7)) else (spec_Bits.l0 k x0 y137 x4 x7)))) else (none)) else (none)))) else (none)) else (none)) else (none)) else (none)
def spec_Bits.l2 : Nat → ByteArray → List (S72) → Bool → Int → Int → Option ((List (S72)) × Bool × Bool)
  | 0, _, _, _, _, _ => none
  | k + 1, x0, x2, x4, x5, x7 => if x7 < (x0.size : Int) then (if 0 ≤ x7 then ((spec_isNameByte.f (bt x0 x7)).bind fun t136 => (if t136 = true then (spec_Bits.l2 k x0 x2 x4 x5 (wrap64 (x7 + 1))) else (spec_Bits.j3 k x0 x2 x4 x5 x7))) else (none)) else (spec_Bits.j3 k x0 x2 x4 x5 x7)
def spec_Bits.l1 : Nat → ByteArray → List (S72) → Bool → Int → Int → Option ((List (S72)) × Bool × Bool)
  | 0, _, _, _, _, _ => none
  | k + 1, x0, x2, x4, x5, x6 => if x6 < (x0.size : Int) then (if 0 ≤ x6 then (if (bt x0 x6) = 58 then (if 0 ≤ x5 then (if x5 ≤ x6 then (if x6 ≤ (x0.size : Int) then (if x2.length < 5864062014805 then (spec_Bits.l0 k x0 (x2 ++ [(⟨false, x0.extract (x5 : Int).toNat (x6 : Int).toNat⟩ : S72)]) x4 x6) else (none)) else (none)) else (none)) else (none)) else (spec_Bits.l1 k x0 x2 x4 x5 (wrap64 (x6 + 1)))) else (none)) else (if 0 ≤ x5 then (if x5 ≤ x6 then (if x6 ≤ (x0.size : Int) then (if x2.length < 5864062014805 then (spec_Bits.l0 k x0 (x2 ++ [(⟨false, x0.extract (x5 : Int).toNat (x6 : Int).toNat⟩ : S72)]) x4 x6) else (none)) else (none)) else (none)) else (none))
end
def spec_Bits.f (k : Nat) (a0 : ByteArray) : Option ((List (S72)) × Bool × Bool) := spec_Bits.l0 k a0 ([] : List (S72)) true 0
set_option maxHeartbeats 8000000 in
set_option maxRecDepth 100000 in
theorem spec_Bits.calls (k : Nat) (a0 : ByteArray) (r1 : List (S72)) (r2 : Bool) (r3 : Bool) (w : World) (h : spec_Bits.f k a0 = some (r1, r2, r3)) :
    Calls Tryd.prog 51 #[.string a0] w fun e w' => ∃ v0_ : Value, e = .returned (.tuple #[v0_, .bool r2, .bool r3]) ∧ Kd.R k72 72 w' w.heap.size (fun _ => True) v0_ r1 ∧ Below w.heap.size w w' := by
  have hu72 := Tryd.underlying72
  have HB := Aside0.mk (Below.refl w.heap.size w)
  have H : (spec_Bits.l0 k a0 ([] : List (S72)) true 0) = some (r1, r2, r3) := h
  clear h
  have H' := Aside0.mk H
  clear H
  go_enter Tryd.func51, Tryd.ntmps51
  go_wp2
  go_loopg [2, 4, 5] k (fun kq v2 v4 v5 w' => ∃ (x2_1 : List (S72)) (x4_1 : Bool) (x5_1 : Int), v4 = .bool x4_1 ∧ v5 = .int .i64 x5_1 ∧ Aside0 (spec_Bits.l0 kq a0 x2_1 x4_1 x5_1 = some (r1, r2, r3)) ∧ Aside0 (kq ≤ k) ∧ Aside0 (Kd.R k72 72 w' w.heap.size (fun _ => True) v2 x2_1) ∧ Aside0 (Below w.heap.size w w'))
  case atStart => exact ⟨(([] : List (S72))), (true), (0), (by first | rfl | (simp; done) | (simp [*]; done)), (by first | rfl | (simp; done) | (simp [*]; done)), H', ⟨Nat.le_refl _⟩, ⟨by first | exact Kd.R_nil _ _ _ _ _ | exact Kd.N_nil _ _ _ _ _ | exact Kd.V_nil _ _ _ _ _ | exact Kd.Q_nil _ _ _ _ _ | exact Kd.S_nil _ _ _ _ _⟩, ⟨by repeat (first | (with_reducible first | exact HB.out | apply below_alloc | apply pw_below_drewN | apply below_drew1) | exact HB.out)⟩⟩
  case round =>
    clear H'
    obtain ⟨x2_1, x4_1, x5_1, rfl, rfl, HA, HK1, HO_2, HB⟩ := hrel
    cases gk with
    | zero => exact absurd HA.out (by simp [spec_Bits.l0])
    | succ k1 =>
      have H := HA.out
      clear HA
      simp only [spec_Bits.l0] at H
      by_cases c2 : x5_1 < (a0.size : Int)
      · rw [if_pos c2] at H
        have c2b0 : decide (x5_1 < (a0.size : Int)) = true := decide_eq_true c2
        clear c2
        by_cases c3 : 0 ≤ x5_1
        · rw [if_pos c3] at H
          have c3b0 : decide (0 ≤ x5_1) = true := decide_eq_true c3
          clear c3
          by_cases c5 : (bt a0 x5_1) = 58
          · rw [if_pos c5] at H
            have c5b0 : ((bt a0 x5_1) == 58) = true := beq_iff_eq.mpr c5
            have c5b1 : ((bt a0 x5_1) != 58) = false := bne_eq_false_iff_eq.mpr c5
            clear c5
            by_cases c6 : (wrap64 (x5_1 + 1)) = (a0.size : Int)
            · rw [if_pos c6] at H
              have c6b0 : ((wrap64 (x5_1 + 1)) == (a0.size : Int)) = true := beq_iff_eq.mpr c6
              have c6b1 : ((wrap64 (x5_1 + 1)) != (a0.size : Int)) = false := bne_eq_false_iff_eq.mpr c6
              clear c6
              simp only [Option.some.injEq, Prod.mk.injEq] at H
              obtain ⟨rfl, rfl, rfl⟩ := H
              have p4 : 0 ≤ (x5_1 : Int) := of_decide_eq_true (by first | (with_reducible assumption) | assumption)
              have q4 : x5_1 < (a0.size : Int) := of_decide_eq_true (by first | (with_reducible assumption) | assumption)
              have hx4 := bt_at a0 x5_1
              replace p4 := eq_true p4
              replace q4 := eq_true q4
              go_wp2
              go_ret3
              exact ⟨_, by first | rfl | (simp [errW_none, errW_some] <;> rfl) | (simp [*, errW_none, errW_some] <;> rfl), by (with_reducible repeat (first | apply Kd.R_alloc | apply Kd.R_drewN | apply Kd.R_drew)); exact HO_2.out, by repeat (first | (with_reducible first | exact HB.out | apply below_alloc | apply pw_below_drewN | apply below_drew1) | exact HB.out)⟩
            · rw [if_neg c6] at H
              have c6b0 : ((wrap64 (x5_1 + 1)) == (a0.size : Int)) = false := beq_eq_false_iff_ne.mpr c6
              have c6b1 : ((wrap64 (x5_1 + 1)) != (a0.size : Int)) = true := bne_iff_ne.mpr c6
              obtain ⟨ji7, hji7⟩ : ∃ j_ : Int, (wrap64 (x5_1 + 1)) = j_ := ⟨_, rfl⟩
              replace H : (if 0 ≤ (ji7) then (if (ji7) < (a0.size : Int) then (if (bt a0 (ji7)) = 58 then (if x2_1.length < 5864062014805 then (spec_Bits.l0 k1 a0 (x2_1 ++ [(⟨false, (⟨#[58]⟩ : ByteArray)⟩ : S72)]) x4_1 (wrap64 (x5_1 + 2))) else (none)) else (if (bt a0 (ji7)) = 61 then (if x4_1 = true then (if x2_1.length < 5864062014805 then (spec_Bits.l0 k1 a0 (x2_1 ++ [(⟨false, (⟨#[58, 61]⟩ : ByteArray)⟩ : S72)]) (decide ((wrap64 (x5_1 + 2)) < (a0.size : Int))) (wrap64 (x5_1 + 2))) else (none)) else (if x2_1.length < 5864062014805 then (spec_Bits.l0 k1 a0 (x2_1 ++ [(⟨false, (⟨#[58, 61]⟩ : ByteArray)⟩ : S72)]) false (wrap64 (x5_1 + 2))) else (none))) else (spec_Bits.l2 k1 a0 x2_1 x4_1 x5_1 ji7))) else (none)) else (none)) = some (r1, r2, r3) := by first | (rw [hji7] at H; exact H) | (simp only [hji7] at H ⊢; exact H)
              (try rw [hji7] at c6b0)
              (try rw [hji7] at c6b1)
              have hji7w : (IntKind.i64.wrap (x5_1 + 1)) = ji7 := (i64_w _).trans hji7
              by_cases c8 : 0 ≤ (ji7)
              · rw [if_pos c8] at H
                have c8b0 : decide (0 ≤ (ji7)) = true := decide_eq_true c8
                clear c8
                by_cases c9 : (ji7) < (a0.size : Int)
                · rw [if_pos c9] at H
                  have c9b0 : decide ((ji7) < (a0.size : Int)) = true := decide_eq_true c9
                  clear c9
                  by_cases c11 : (bt a0 (ji7)) = 58
                  · rw [if_pos c11] at H
                    have c11b0 : ((bt a0 (ji7)) == 58) = true := beq_iff_eq.mpr c11
                    have c11b1 : ((bt a0 (ji7)) != 58) = false := bne_eq_false_iff_eq.mpr c11
                    clear c11
                    by_cases c12 : x2_1.length < 5864062014805
                    · rw [if_pos c12] at H
                      have LMc12 := Aside0.mk c12
                      clear c12
                      obtain ⟨y127, hy127⟩ : ∃ y_ : List (S72), y_ = (x2_1 ++ [(⟨false, (⟨#[58]⟩ : ByteArray)⟩ : S72)]) := ⟨_, rfl⟩
                      replace H : (spec_Bits.l0 k1 a0 y127 x4_1 (wrap64 (x5_1 + 2))) = some (r1, r2, r3) := by first | (rw [hy127]; with_reducible exact H) | (have H2_ := (Option.bind_some _ _).symm.trans H; rw [hy127]; with_reducible exact H2_) | (have H2_ := (Option.bind_some _ _).symm.trans H; with_reducible exact H2_) | with_reducible exact H | (rw [hy127]; exact H) | exact H
                      have Ny127 := Aside0.mk hy127
                      clear hy127
                      have H' := Aside0.mk H
                      clear H
                      have p4 : 0 ≤ (x5_1 : Int) := of_decide_eq_true (by first | (with_reducible assumption) | assumption)
                      have q4 : x5_1 < (a0.size : Int) := of_decide_eq_true (by first | (with_reducible assumption) | assumption)
                      have hx4 := bt_at a0 x5_1
                      replace p4 := eq_true p4
                      replace q4 := eq_true q4
                      have p10 : 0 ≤ ((ji7) : Int) := of_decide_eq_true (by first | (with_reducible assumption) | assumption)
                      have q10 : (ji7) < (a0.size : Int) := of_decide_eq_true (by first | (with_reducible assumption) | assumption)
                      have hx10 := bt_at a0 (ji7)
                      replace p10 := eq_true p10
                      replace q10 := eq_true q10
                      go_wp2_with (first | ((with_reducible refine gate_builtin (b := .append) (xs := #[.tmp 49, .tmp 51]) rfl ?_); (try (refine gate_guard (by rfl) ?_; dsimp only)); at_builtin; refine Kd.R_append k72 (w0 := w) w.heap.size rfl (.tmp 49) (.tmp 51) 68 72 (.agg #[(.bool false), (.string ⟨#[]⟩)]) 24 rfl Tryd.underlying68 info72 rfl (by decide) (by omega) u2 x2_1 (⟨false, (⟨#[58]⟩ : ByteArray)⟩ : S72) [.bool false, .string (⟨#[58]⟩ : ByteArray)] (fun _ => True) (fun _ => False) rfl rfl ?aP (fun _ hk => hk.elim) ?aF ?aO ?aB ?aS ?aL ?_; (case aP => exact k72_mkM _ _ _ (⟨false, (⟨#[58]⟩ : ByteArray)⟩ : S72)); (case aB => exact (by repeat (first | (with_reducible first | exact HB.out | apply below_alloc | apply pw_below_drewN | apply below_drew1) | exact HB.out))); (case aF => exact (fun _ _ => trivial)); (case aO => exact (by (with_reducible repeat (first | apply Kd.R_alloc | apply Kd.R_drewN | apply Kd.R_drew)); exact HO_2.out)); (case aS => exact (below_size (by repeat (first | (with_reducible first | exact HB.out | apply below_alloc | apply pw_below_drewN | apply below_drew1) | exact HB.out)))); (case aL => have := LMc12.out; omega); intro v128 w13 ho hb hg hat; rw [← Ny127.out] at ho; have n0_ := Aside0.mk (hb); have n1_ := Aside0.mk (ho); clear HB; clear HO_2; have HB := n0_; have HO129 := n1_; clear n0_ n1_; clear ho hb hg hat))
                      go_roundg k1
                      case measure => have := HK1.out; omega
                      case rel => exact ⟨(y127), (x4_1), (wrap64 (x5_1 + 2)), (by first | rfl | (simp; done) | (simp [*]; done)), (by first | rfl | (simp; done) | (simp [*]; done)), H', ⟨by have := HK1.out; omega⟩, ⟨by (with_reducible repeat (first | apply Kd.R_alloc | apply Kd.R_drewN | apply Kd.R_drew)); exact HO129.out⟩, ⟨by repeat (first | (with_reducible first | exact HB.out | apply below_alloc | apply pw_below_drewN | apply below_drew1) | exact HB.out)⟩⟩
                    · rw [if_neg c12] at H
                      exact absurd H (by simp)
                  · rw [if_neg c11] at H
                    have c11b0 : ((bt a0 (ji7)) == 58) = false := beq_eq_false_iff_ne.mpr c11
                    have c11b1 : ((bt a0 (ji7)) != 58) = true := bne_iff_ne.mpr c11
                    by_cases c15 : (bt a0 (ji7)) = 61
                    · rw [if_pos c15] at H
                      have c15b0 : ((bt a0 (ji7)) == 61) = true := beq_iff_eq.mpr c15
                      have c15b1 : ((bt a0 (ji7)) != 61) = false := bne_eq_false_iff_eq.mpr c15
                      clear c15
                      by_cases c16 : x4_1 = true
                      · subst c16
                        have H1 : (if x2_1.length < 5864062014805 then (spec_Bits.l0 k1 a0 (x2_1 ++ [(⟨false, (⟨#[58, 61]⟩ : ByteArray)⟩ : S72)]) (decide ((wrap64 (x5_1 + 2)) < (a0.size : Int))) (wrap64 (x5_1 + 2))) else (none)) = some (r1, r2, r3) := by rw [if_pos rfl] at H; exact H
                        clear H
                        have H := H1
                        clear H1
                        by_cases c17 : x2_1.length < 5864062014805
                        · rw [if_pos c17] at H
                          have LMc17 := Aside0.mk c17
                          clear c17
                          obtain ⟨y130, hy130⟩ : ∃ y_ : List (S72), y_ = (x2_1 ++ [(⟨false, (⟨#[58, 61]⟩ : ByteArray)⟩ : S72)]) := ⟨_, rfl⟩
                          replace H : (spec_Bits.l0 k1 a0 y130 (decide ((wrap64 (x5_1 + 2)) < (a0.size : Int))) (wrap64 (x5_1 + 2))) = some (r1, r2, r3) := by first | (rw [hy130]; with_reducible exact H) | (have H2_ := (Option.bind_some _ _).symm.trans H; rw [hy130]; with_reducible exact H2_) | (have H2_ := (Option.bind_some _ _).symm.trans H; with_reducible exact H2_) | with_reducible exact H | (rw [hy130]; exact H) | exact H
                          have Ny130 := Aside0.mk hy130
                          clear hy130
                          have H' := Aside0.mk H
                          clear H
                          have p4 : 0 ≤ (x5_1 : Int) := of_decide_eq_true (by first | (with_reducible assumption) | assumption)
                          have q4 : x5_1 < (a0.size : Int) := of_decide_eq_true (by first | (with_reducible assumption) | assumption)
                          have hx4 := bt_at a0 x5_1
                          replace p4 := eq_true p4
                          replace q4 := eq_true q4
                          have p10 : 0 ≤ ((ji7) : Int) := of_decide_eq_true (by first | (with_reducible assumption) | assumption)
                          have q10 : (ji7) < (a0.size : Int) := of_decide_eq_true (by first | (with_reducible assumption) | assumption)
                          have hx10 := bt_at a0 (ji7)
                          replace p10 := eq_true p10
                          replace q10 := eq_true q10
                          have p14 : 0 ≤ ((ji7) : Int) := of_decide_eq_true (by first | (with_reducible assumption) | assumption)
                          have q14 : (ji7) < (a0.size : Int) := of_decide_eq_true (by first | (with_reducible assumption) | assumption)
                          have hx14 := bt_at a0 (ji7)
                          replace p14 := eq_true p14
                          replace q14 := eq_true q14
                          go_wp2_with (first | ((with_reducible refine gate_builtin (b := .append) (xs := #[.tmp 68, .tmp 70]) rfl ?_); (try (refine gate_guard (by rfl) ?_; dsimp only)); at_builtin; refine Kd.R_append k72 (w0 := w) w.heap.size rfl (.tmp 68) (.tmp 70) 68 72 (.agg #[(.bool false), (.string ⟨#[]⟩)]) 24 rfl Tryd.underlying68 info72 rfl (by decide) (by omega) u2 x2_1 (⟨false, (⟨#[58, 61]⟩ : ByteArray)⟩ : S72) [.bool false, .string (⟨#[58, 61]⟩ : ByteArray)] (fun _ => True) (fun _ => False) rfl rfl ?aP (fun _ hk => hk.elim) ?aF ?aO ?aB ?aS ?aL ?_; (case aP => exact k72_mkM _ _ _ (⟨false, (⟨#[58, 61]⟩ : ByteArray)⟩ : S72)); (case aB => exact (by repeat (first | (with_reducible first | exact HB.out | apply below_alloc | apply pw_below_drewN | apply below_drew1) | exact HB.out))); (case aF => exact (fun _ _ => trivial)); (case aO => exact (by (with_reducible repeat (first | apply Kd.R_alloc | apply Kd.R_drewN | apply Kd.R_drew)); exact HO_2.out)); (case aS => exact (below_size (by repeat (first | (with_reducible first | exact HB.out | apply below_alloc | apply pw_below_drewN | apply below_drew1) | exact HB.out)))); (case aL => have := LMc17.out; omega); intro v131 w18 ho hb hg hat; rw [← Ny130.out] at ho; have n0_ := Aside0.mk (hb); have n1_ := Aside0.mk (ho); clear HB; clear HO_2; have HB := n0_; have HO132 := n1_; clear n0_ n1_; clear ho hb hg hat))
                          go_roundg k1
                          case measure => have := HK1.out; omega
                          case rel => exact ⟨(y130), (decide ((wrap64 (x5_1 + 2)) < (a0.size : Int))), (wrap64 (x5_1 + 2)), (by first | rfl | (simp; done) | (simp [*]; done)), (by first | rfl | (simp; done) | (simp [*]; done)), H', ⟨by have := HK1.out; omega⟩, ⟨by (with_reducible repeat (first | apply Kd.R_alloc | apply Kd.R_drewN | apply Kd.R_drew)); exact HO132.out⟩, ⟨by repeat (first | (with_reducible first | exact HB.out | apply below_alloc | apply pw_below_drewN | apply below_drew1) | exact HB.out)⟩⟩
                        · rw [if_neg c17] at H
                          exact absurd H (by simp)
                      · replace c16 := Bool.eq_false_iff.mpr c16
                        subst c16
                        have H1 : (if x2_1.length < 5864062014805 then (spec_Bits.l0 k1 a0 (x2_1 ++ [(⟨false, (⟨#[58, 61]⟩ : ByteArray)⟩ : S72)]) false (wrap64 (x5_1 + 2))) else (none)) = some (r1, r2, r3) := by rw [if_neg (show ¬ (false = true) by decide)] at H; exact H
                        clear H
                        have H := H1
                        clear H1
                        by_cases c19 : x2_1.length < 5864062014805
                        · rw [if_pos c19] at H
                          have LMc19 := Aside0.mk c19
                          clear c19
                          obtain ⟨y133, hy133⟩ : ∃ y_ : List (S72), y_ = (x2_1 ++ [(⟨false, (⟨#[58, 61]⟩ : ByteArray)⟩ : S72)]) := ⟨_, rfl⟩
                          replace H : (spec_Bits.l0 k1 a0 y133 false (wrap64 (x5_1 + 2))) = some (r1, r2, r3) := by first | (rw [hy133]; with_reducible exact H) | (have H2_ := (Option.bind_some _ _).symm.trans H; rw [hy133]; with_reducible exact H2_) | (have H2_ := (Option.bind_some _ _).symm.trans H; with_reducible exact H2_) | with_reducible exact H | (rw [hy133]; exact H) | exact H
                          have Ny133 := Aside0.mk hy133
                          clear hy133
                          have H' := Aside0.mk H
                          clear H
                          have p4 : 0 ≤ (x5_1 : Int) := of_decide_eq_true (by first | (with_reducible assumption) | assumption)
                          have q4 : x5_1 < (a0.size : Int) := of_decide_eq_true (by first | (with_reducible assumption) | assumption)
                          have hx4 := bt_at a0 x5_1
                          replace p4 := eq_true p4
                          replace q4 := eq_true q4
                          have p10 : 0 ≤ ((ji7) : Int) := of_decide_eq_true (by first | (with_reducible assumption) | assumption)
                          have q10 : (ji7) < (a0.size : Int) := of_decide_eq_true (by first | (with_reducible assumption) | assumption)
                          have hx10 := bt_at a0 (ji7)
                          replace p10 := eq_true p10
                          replace q10 := eq_true q10
                          have p14 : 0 ≤ ((ji7) : Int) := of_decide_eq_true (by first | (with_reducible assumption) | assumption)
                          have q14 : (ji7) < (a0.size : Int) := of_decide_eq_true (by first | (with_reducible assumption) | assumption)
                          have hx14 := bt_at a0 (ji7)
                          replace p14 := eq_true p14
                          replace q14 := eq_true q14
                          go_wp2_with (first | ((with_reducible refine gate_builtin (b := .append) (xs := #[.tmp 68, .tmp 70]) rfl ?_); (try (refine gate_guard (by rfl) ?_; dsimp only)); at_builtin; refine Kd.R_append k72 (w0 := w) w.heap.size rfl (.tmp 68) (.tmp 70) 68 72 (.agg #[(.bool false), (.string ⟨#[]⟩)]) 24 rfl Tryd.underlying68 info72 rfl (by decide) (by omega) u2 x2_1 (⟨false, (⟨#[58, 61]⟩ : ByteArray)⟩ : S72) [.bool false, .string (⟨#[58, 61]⟩ : ByteArray)] (fun _ => True) (fun _ => False) rfl rfl ?aP (fun _ hk => hk.elim) ?aF ?aO ?aB ?aS ?aL ?_; (case aP => exact k72_mkM _ _ _ (⟨false, (⟨#[58, 61]⟩ : ByteArray)⟩ : S72)); (case aB => exact (by repeat (first | (with_reducible first | exact HB.out | apply below_alloc | apply pw_below_drewN | apply below_drew1) | exact HB.out))); (case aF => exact (fun _ _ => trivial)); (case aO => exact (by (with_reducible repeat (first | apply Kd.R_alloc | apply Kd.R_drewN | apply Kd.R_drew)); exact HO_2.out)); (case aS => exact (below_size (by repeat (first | (with_reducible first | exact HB.out | apply below_alloc | apply pw_below_drewN | apply below_drew1) | exact HB.out)))); (case aL => have := LMc19.out; omega); intro v134 w20 ho hb hg hat; rw [← Ny133.out] at ho; have n0_ := Aside0.mk (hb); have n1_ := Aside0.mk (ho); clear HB; clear HO_2; have HB := n0_; have HO135 := n1_; clear n0_ n1_; clear ho hb hg hat))
                          go_roundg k1
                          case measure => have := HK1.out; omega
                          case rel => exact ⟨(y133), (false), (wrap64 (x5_1 + 2)), (by first | rfl | (simp; done) | (simp [*]; done)), (by first | rfl | (simp; done) | (simp [*]; done)), H', ⟨by have := HK1.out; omega⟩, ⟨by (with_reducible repeat (first | apply Kd.R_alloc | apply Kd.R_drewN | apply Kd.R_drew)); exact HO135.out⟩, ⟨by repeat (first | (with_reducible first | exact HB.out | apply below_alloc | apply pw_below_drewN | apply below_drew1) | exact HB.out)⟩⟩
                        · rw [if_neg c19] at H
                          exact absurd H (by simp)
                    · rw [if_neg c15] at H
                      have c15b0 : ((bt a0 (ji7)) == 61) = false := beq_eq_false_iff_ne.mpr c15
                      have c15b1 : ((bt a0 (ji7)) != 61) = true := bne_iff_ne.mpr c15
                      have HC21 := Aside0.mk H
                      clear H
                      have p4 : 0 ≤ (x5_1 : Int) := of_decide_eq_true (by first | (with_reducible assumption) | assumption)
                      have q4 : x5_1 < (a0.size : Int) := of_decide_eq_true (by first | (with_reducible assumption) | assumption)
                      have hx4 := bt_at a0 x5_1
                      replace p4 := eq_true p4
                      replace q4 := eq_true q4
                      have p10 : 0 ≤ ((ji7) : Int) := of_decide_eq_true (by first | (with_reducible assumption) | assumption)
                      have q10 : (ji7) < (a0.size : Int) := of_decide_eq_true (by first | (with_reducible assumption) | assumption)
                      have hx10 := bt_at a0 (ji7)
                      replace p10 := eq_true p10
                      replace q10 := eq_true q10
                      have p14 : 0 ≤ ((ji7) : Int) := of_decide_eq_true (by first | (with_reducible assumption) | assumption)
                      have q14 : (ji7) < (a0.size : Int) := of_decide_eq_true (by first | (with_reducible assumption) | assumption)
                      have hx14 := bt_at a0 (ji7)
                      replace p14 := eq_true p14
                      replace q14 := eq_true q14
                      go_upto_block 4 with (fail)
                      go_cut [7] (fun v7 wc => ∃ (kq : Nat) (x7_20 : Int), v7 = .int .i64 x7_20 ∧ Aside0 (spec_Bits.j3 kq a0 x2_1 x4_1 x5_1 x7_20 = some (r1, r2, r3)) ∧ Aside0 (kq ≤ k1) ∧ Aside0 (Kd.R k72 72 wc w.heap.size (fun _ => True) u2 x2_1) ∧ Aside0 (Below w.heap.size w wc))
                      case first =>
                        have H := HC21.out
                        clear HC21
                        have H' := Aside0.mk H
                        clear H
                        go_wp2
                        go_loopg [7] k1 (fun kq v7 w' => ∃ (x7_2 : Int), v7 = .int .i64 x7_2 ∧ Aside0 (spec_Bits.l2 kq a0 x2_1 x4_1 x5_1 x7_2 = some (r1, r2, r3)) ∧ Aside0 (kq ≤ k1) ∧ Aside0 (Kd.R k72 72 w' w.heap.size (fun _ => True) u2 x2_1) ∧ Aside0 (Below w.heap.size w w'))
                        case atStart => exact ⟨(ji7), (by first | rfl | (simp; done) | (simp only [← hji7] <;> (first | rfl | simp)) | (simp [*]; done)), H', ⟨Nat.le_refl _⟩, ⟨by (with_reducible repeat (first | apply Kd.R_alloc | apply Kd.R_drewN | apply Kd.R_drew)); exact HO_2.out⟩, ⟨by repeat (first | (with_reducible first | exact HB.out | apply below_alloc | apply pw_below_drewN | apply below_drew1) | exact HB.out)⟩⟩
                        case round =>
                          clear H'
                          try clear c1
                          try clear p1
                          try clear q1
                          try clear hx1
                          try clear c2
                          try clear c2b0
                          try clear p2
                          try clear c3
                          try clear c3b0
                          try clear p4
                          try clear q4
                          try clear hx4
                          try clear c5
                          try clear c5b0
                          try clear c5b1
                          try clear c6
                          try clear c6b0
                          try clear c6b1
                          try clear p6
                          try clear c8
                          try clear c8b0
                          try clear c9
                          try clear c9b0
                          try clear p10
                          try clear q10
                          try clear hx10
                          try clear c11
                          try clear c11b0
                          try clear c11b1
                          try clear c12
                          try clear p14
                          try clear q14
                          try clear hx14
                          try clear c15
                          try clear c15b0
                          try clear c15b1
                          try clear c16
                          try clear c17
                          try clear c19
                          try clear p10
                          try clear p14
                          try clear p4
                          try clear q10
                          try clear q14
                          try clear q4
                          obtain ⟨x7_2, rfl, HA, HK2, HO_2, HB⟩ := hrel
                          cases gk with
                          | zero => exact absurd HA.out (by simp [spec_Bits.l2])
                          | succ k2 =>
                            have H := HA.out
                            clear HA
                            simp only [spec_Bits.l2] at H
                            by_cases c22 : x7_2 < (a0.size : Int)
                            · rw [if_pos c22] at H
                              have c22b0 : decide (x7_2 < (a0.size : Int)) = true := decide_eq_true c22
                              clear c22
                              (first | rw [c22b0] | (simp only [i64_w, i32_w]; rw [c22b0]) | skip)
                              by_cases c23 : 0 ≤ x7_2
                              · rw [if_pos c23] at H
                                have c23b0 : decide (0 ≤ x7_2) = true := decide_eq_true c23
                                clear c23
                                replace H := Option.bind_eq_some_iff.mp H
                                obtain ⟨t136, A250, H⟩ := H
                                replace H : (if t136 = true then (spec_Bits.l2 k2 a0 x2_1 x4_1 x5_1 (wrap64 (x7_2 + 1))) else (spec_Bits.j3 k2 a0 x2_1 x4_1 x5_1 x7_2)) = some (r1, r2, r3) := H
                                have A25 := Aside0.mk A250
                                clear A250
                                by_cases c26 : t136 = true
                                · subst c26
                                  have H1 : (spec_Bits.l2 k2 a0 x2_1 x4_1 x5_1 (wrap64 (x7_2 + 1))) = some (r1, r2, r3) := by rw [if_pos rfl] at H; exact H
                                  clear H
                                  have H := H1
                                  clear H1
                                  have H' := Aside0.mk H
                                  clear H
                                  have p24 : 0 ≤ (x7_2 : Int) := of_decide_eq_true (by first | (with_reducible assumption) | assumption)
                                  have q24 : x7_2 < (a0.size : Int) := of_decide_eq_true (by first | (with_reducible assumption) | assumption)
                                  have hx24 := bt_at a0 x7_2
                                  replace p24 := eq_true p24
                                  replace q24 := eq_true q24
                                  go_wp2_with (first | (go_at_call 53; (with_reducible refine (spec_isNameByte.calls (bt a0 x7_2) true _ A25.out).mono ?_); rintro e w' ⟨rfl, ⟨nd, rfl⟩⟩))
                                  go_roundg k2
                                  case measure => have := HK1.out; have := HK2.out; omega
                                  case rel => exact ⟨(wrap64 (x7_2 + 1)), (by first | rfl | (simp; done) | (simp [*]; done)), H', ⟨by have := HK1.out; have := HK2.out; omega⟩, ⟨by (with_reducible repeat (first | apply Kd.R_alloc | apply Kd.R_drewN | apply Kd.R_drew)); exact HO_2.out⟩, ⟨by repeat (first | (with_reducible first | exact HB.out | apply below_alloc | apply pw_below_drewN | apply below_drew1) | exact HB.out)⟩⟩
                                · replace c26 := Bool.eq_false_iff.mpr c26
                                  subst c26
                                  have H1 : (spec_Bits.j3 k2 a0 x2_1 x4_1 x5_1 x7_2) = some (r1, r2, r3) := by rw [if_neg (show ¬ (false = true) by decide)] at H; exact H
                                  clear H
                                  have H := H1
                                  clear H1
                                  have H' := Aside0.mk H
                                  clear H
                                  have p24 : 0 ≤ (x7_2 : Int) := of_decide_eq_true (by first | (with_reducible assumption) | assumption)
                                  have q24 : x7_2 < (a0.size : Int) := of_decide_eq_true (by first | (with_reducible assumption) | assumption)
                                  have hx24 := bt_at a0 x7_2
                                  replace p24 := eq_true p24
                                  replace q24 := eq_true q24
                                  go_wp2_with (first | (go_at_call 53; (with_reducible refine (spec_isNameByte.calls (bt a0 x7_2) false _ A25.out).mono ?_); rintro e w' ⟨rfl, ⟨nd, rfl⟩⟩))
                                  go_meet
                                  case rel => exact ⟨_, (x7_2), (by first | rfl | (simp; done) | (simp [*]; done)), H', ⟨by have := HK1.out; have := HK2.out; first | omega | exact Nat.le_refl _⟩, ⟨by (with_reducible repeat (first | apply Kd.R_alloc | apply Kd.R_drewN | apply Kd.R_drew)); exact HO_2.out⟩, ⟨by repeat (first | (with_reducible first | exact HB.out | apply below_alloc | apply pw_below_drewN | apply below_drew1) | exact HB.out)⟩⟩
                              · rw [if_neg c23] at H
                                exact absurd H (by simp)
                            · rw [if_neg c22] at H
                              have c22b0 : decide (x7_2 < (a0.size : Int)) = false := decide_eq_false c22
                              clear c22
                              (first | rw [c22b0] | (simp only [i64_w, i32_w]; rw [c22b0]) | skip)
                              have H' := Aside0.mk H
                              clear H
                              go_wp2
                              go_meet
                              case rel => exact ⟨_, (x7_2), (by first | rfl | (simp; done) | (simp [*]; done)), H', ⟨by have := HK1.out; have := HK2.out; first | omega | exact Nat.le_refl _⟩, ⟨by (with_reducible repeat (first | apply Kd.R_alloc | apply Kd.R_drewN | apply Kd.R_drew)); exact HO_2.out⟩, ⟨by repeat (first | (with_reducible first | exact HB.out | apply below_alloc | apply pw_below_drewN | apply below_drew1) | exact HB.out)⟩⟩
                      case rest =>
                        clear HC21
                        try clear c1
                        try clear p1
                        try clear q1
                        try clear hx1
                        try clear c2
                        try clear c2b0
                        try clear p2
                        try clear q2
                        try clear hx2
                        try clear c3
                        try clear c3b0
                        try clear p4
                        try clear q4
                        try clear hx4
                        try clear c5
                        try clear c5b0
                        try clear c5b1
                        try clear c6
                        try clear c6b0
                        try clear c6b1
                        try clear p6
                        try clear c8
                        try clear c8b0
                        try clear c9
                        try clear c9b0
                        try clear p10
                        try clear q10
                        try clear hx10
                        try clear c11
                        try clear c11b0
                        try clear c11b1
                        try clear c12
                        try clear p14
                        try clear q14
                        try clear hx14
                        try clear c15
                        try clear c15b0
                        try clear c15b1
                        try clear c16
                        try clear c17
                        try clear c19
                        try clear c22
                        try clear c22b0
                        try clear c23
                        try clear c23b0
                        try clear p24
                        try clear q24
                        try clear hx24
                        try clear c26
                        try clear p1
                        try clear p10
                        try clear p14
                        try clear p2
                        try clear p24
                        try clear p4
                        try clear p6
                        try clear q1
                        try clear q10
                        try clear q14
                        try clear q24
                        try clear q4
                        obtain ⟨kq, x7_20, rfl, HA, HJ20, HO_2, HB⟩ := hcut
                        cases kq with
                        | zero => exact absurd HA.out (by simp [spec_Bits.j3])
                        | succ kj20 =>
                          have H := HA.out
                          clear HA
                          simp only [spec_Bits.j3] at H
                          obtain ⟨ji27, hji27⟩ : ∃ j_ : Int, (wrap64 (x5_1 + 1)) = j_ := ⟨_, rfl⟩
                          replace H : (if 0 ≤ (ji27) then (if (ji27) ≤ x7_20 then (if x7_20 ≤ (a0.size : Int) then (if x2_1.length < 5864062014805 then ((some (x2_1 ++ [(⟨true, a0.extract ((ji27) : Int).toNat (x7_20 : Int).toNat⟩ : S72)] : List (S72))).bind fun y137 => (if x7_20 = (a0.size : Int) then (if x4_1 = true then (if 0 ≤ (wrap64 (x7_20 - 1)) then (if (wrap64 (x7_20 - 1)) < (a0.size : Int) then (if (bt a0 (wrap64 (x7_20 - 1))) = 95 then (spec_Bits.l0 kj20 a0 y137 false x7_20) else (spec_Bits.l0 kj20 a0 y137 ((bt a0 (wrap64 (x7_20 - 1))) != 46) x7_20)) else (none)) else (none)) else (spec_Bits.l0 kj20 a0 y137 false x7_20)) else (if 0 ≤ x7_20 then (if x7_20 < (a0.size : Int) then (if (bt a0 x7_20) = 58 then (some (([] : List (S72)), false, x4_1)) else (if (bt a0 x7_20) ≥ 128 then (spec_Bits.l0 kj20 a0 y137 false x7_20) else (if x7_20 = (ji27) then (if (wrap64 (x7_20 + 1)) = (a0.size : Int) then (spec_Bits.l0 kj20 a0 y137 false x7_20) else (spec_Bits.l0 kj20 a0 y137 x4_1 x7_20)) else (spec_Bits.l0 kj20 a0 y137 x4_1 x7_20)))) else (none)) else (none)))) else (none)) else (none)) else (none)) else (none)) = some (r1, r2, r3) := by first | (rw [hji27] at H; exact H) | (simp only [hji27] at H ⊢; exact H)
                          (try rw [hji27] at c6b0)
                          (try rw [hji27] at c6b1)
                          have hji27w : (IntKind.i64.wrap (x5_1 + 1)) = ji27 := (i64_w _).trans hji27
                          obtain rfl : ji27 = ji7 := hji27w.symm.trans hji7w
                          by_cases c28 : 0 ≤ (ji27)
                          · rw [if_pos c28] at H
                            have c28b0 := eq_true c28
                            have c28b1 : decide (0 ≤ (ji27)) = true := decide_eq_true c28
                            clear c28
                            by_cases c29 : (ji27) ≤ x7_20
                            · rw [if_pos c29] at H
                              have c29b0 := eq_true c29
                              have c29b1 : decide ((ji27) ≤ x7_20) = true := decide_eq_true c29
                              clear c29
                              by_cases c30 : x7_20 ≤ (a0.size : Int)
                              · rw [if_pos c30] at H
                                have c30b0 := eq_true c30
                                have c30b1 : decide (x7_20 ≤ (a0.size : Int)) = true := decide_eq_true c30
                                clear c30
                                by_cases c31 : x2_1.length < 5864062014805
                                · rw [if_pos c31] at H
                                  have LMc31 := Aside0.mk c31
                                  clear c31
                                  obtain ⟨y137, hy137⟩ : ∃ y_ : List (S72), y_ = (x2_1 ++ [(⟨true, a0.extract ((ji27) : Int).toNat (x7_20 : Int).toNat⟩ : S72)]) := ⟨_, rfl⟩
                                  replace H : (if x7_20 = (a0.size : Int) then (if x4_1 = true then (if 0 ≤ (wrap64 (x7_20 - 1)) then (if (wrap64 (x7_20 - 1)) < (a0.size : Int) then (if (bt a0 (wrap64 (x7_20 - 1))) = 95 then (spec_Bits.l0 kj20 a0 y137 false x7_20) else (spec_Bits.l0 kj20 a0 y137 ((bt a0 (wrap64 (x7_20 - 1))) != 46) x7_20)) else (none)) else (none)) else (spec_Bits.l0 kj20 a0 y137 false x7_20)) else (if 0 ≤ x7_20 then (if x7_20 < (a0.size : Int) then (if (bt a0 x7_20) = 58 then (some (([] : List (S72)), false, x4_1)) else (if (bt a0 x7_20) ≥ 128 then (spec_Bits.l0 kj20 a0 y137 false x7_20) else (if x7_20 = (ji27) then (if (wrap64 (x7_20 + 1)) = (a0.size : Int) then (spec_Bits.l0 kj20 a0 y137 false x7_20) else (spec_Bits.l0 kj20 a0 y137 x4_1 x7_20)) else (spec_Bits.l0 kj20 a0 y137 x4_1 x7_20)))) else (none)) else (none))) = some (r1, r2, r3) := by first | (rw [hy137]; with_reducible exact H) | (have H2_ := (Option.bind_some _ _).symm.trans H; rw [hy137]; with_reducible exact H2_) | (have H2_ := (Option.bind_some _ _).symm.trans H; with_reducible exact H2_) | with_reducible exact H | (rw [hy137]; exact H) | exact H
                                  have Ny137 := Aside0.mk hy137
                                  clear hy137
                                  by_cases c32 : x7_20 = (a0.size : Int)
                                  · rw [if_pos c32] at H
                                    have c32b0 : (x7_20 == (a0.size : Int)) = true := beq_iff_eq.mpr c32
                                    have c32b1 : (x7_20 != (a0.size : Int)) = false := bne_eq_false_iff_eq.mpr c32
                                    clear c32
                                    by_cases c33 : x4_1 = true
                                    · subst c33
                                      have H1 : (if 0 ≤ (wrap64 (x7_20 - 1)) then (if (wrap64 (x7_20 - 1)) < (a0.size : Int) then (if (bt a0 (wrap64 (x7_20 - 1))) = 95 then (spec_Bits.l0 kj20 a0 y137 false x7_20) else (spec_Bits.l0 kj20 a0 y137 ((bt a0 (wrap64 (x7_20 - 1))) != 46) x7_20)) else (none)) else (none)) = some (r1, r2, r3) := by rw [if_pos rfl] at H; exact H
                                      clear H
                                      have H := H1
                                      clear H1
                                      obtain ⟨ji34, hji34⟩ : ∃ j_ : Int, (wrap64 (x7_20 - 1)) = j_ := ⟨_, rfl⟩
                                      replace H : (if 0 ≤ (ji34) then (if (ji34) < (a0.size : Int) then (if (bt a0 (ji34)) = 95 then (spec_Bits.l0 kj20 a0 y137 false x7_20) else (spec_Bits.l0 kj20 a0 y137 ((bt a0 (ji34)) != 46) x7_20)) else (none)) else (none)) = some (r1, r2, r3) := by first | (rw [hji34] at H; exact H) | (simp only [hji34] at H ⊢; exact H)
                                      have hji34w : (IntKind.i64.wrap (x7_20 - 1)) = ji34 := (i64_w _).trans hji34
                                      by_cases c35 : 0 ≤ (ji34)
                                      · rw [if_pos c35] at H
                                        have c35b0 : decide (0 ≤ (ji34)) = true := decide_eq_true c35
                                        clear c35
                                        by_cases c36 : (ji34) < (a0.size : Int)
                                        · rw [if_pos c36] at H
                                          have c36b0 : decide ((ji34) < (a0.size : Int)) = true := decide_eq_true c36
                                          clear c36
                                          by_cases c38 : (bt a0 (ji34)) = 95
                                          · rw [if_pos c38] at H
                                            have c38b0 : ((bt a0 (ji34)) == 95) = true := beq_iff_eq.mpr c38
                                            have c38b1 : ((bt a0 (ji34)) != 95) = false := bne_eq_false_iff_eq.mpr c38
                                            clear c38
                                            have H' := Aside0.mk H
                                            clear H
                                            go_wp2_with (first | ((with_reducible refine gate_builtin (b := .append) (xs := #[.tmp 88, .tmp 95]) rfl ?_); (try (refine gate_guard (by rfl) ?_; dsimp only)); at_builtin; refine Kd.R_append k72 (w0 := w) w.heap.size rfl (.tmp 88) (.tmp 95) 68 72 (.agg #[(.bool false), (.string ⟨#[]⟩)]) 24 rfl Tryd.underlying68 info72 rfl (by decide) (by omega) u2 x2_1 (⟨true, a0.extract ((ji27) : Int).toNat (x7_20 : Int).toNat⟩ : S72) [.bool true, .string (a0.extract ((ji27) : Int).toNat (x7_20 : Int).toNat)] (fun _ => True) (fun _ => False) rfl rfl ?aP (fun _ hk => hk.elim) ?aF ?aO ?aB ?aS ?aL ?_; (case aP => exact k72_mkM _ _ _ (⟨true, a0.extract ((ji27) : Int).toNat (x7_20 : Int).toNat⟩ : S72)); (case aB => exact (by repeat (first | (with_reducible first | exact HB.out | apply below_alloc | apply pw_below_drewN | apply below_drew1) | exact HB.out))); (case aF => exact (fun _ _ => trivial)); (case aO => exact (by (with_reducible repeat (first | apply Kd.R_alloc | apply Kd.R_drewN | apply Kd.R_drew)); exact HO_2.out)); (case aS => exact (below_size (by repeat (first | (with_reducible first | exact HB.out | apply below_alloc | apply pw_below_drewN | apply below_drew1) | exact HB.out)))); (case aL => have := LMc31.out; omega); intro v138 w39 ho hb hg hat; rw [← Ny137.out] at ho; have n0_ := Aside0.mk (hb); have n1_ := Aside0.mk (ho); clear HB; clear HO_2; have HB := n0_; have HO139 := n1_; clear n0_ n1_; clear ho hb hg hat; have p37 : 0 ≤ ((ji34) : Int) := of_decide_eq_true (by first | (with_reducible assumption) | assumption); have q37 : (ji34) < (a0.size : Int) := of_decide_eq_true (by first | (with_reducible assumption) | assumption); have hx37 := bt_at a0 (ji34); replace p37 := eq_true p37; replace q37 := eq_true q37))
                                            go_roundg kj20
                                            case measure => have := HK1.out; have := HJ20.out; omega
                                            case rel => exact ⟨(y137), (false), (x7_20), (by first | rfl | (simp; done) | (simp [*]; done)), (by first | rfl | (simp; done) | (simp [*]; done)), H', ⟨by have := HK1.out; have := HJ20.out; omega⟩, ⟨by (with_reducible repeat (first | apply Kd.R_alloc | apply Kd.R_drewN | apply Kd.R_drew)); exact HO139.out⟩, ⟨by repeat (first | (with_reducible first | exact HB.out | apply below_alloc | apply pw_below_drewN | apply below_drew1) | exact HB.out)⟩⟩
                                          · rw [if_neg c38] at H
                                            have c38b0 : ((bt a0 (ji34)) == 95) = false := beq_eq_false_iff_ne.mpr c38
                                            have c38b1 : ((bt a0 (ji34)) != 95) = true := bne_iff_ne.mpr c38
                                            have H' := Aside0.mk H
                                            clear H
                                            go_wp2_with (first | ((with_reducible refine gate_builtin (b := .append) (xs := #[.tmp 88, .tmp 95]) rfl ?_); (try (refine gate_guard (by rfl) ?_; dsimp only)); at_builtin; refine Kd.R_append k72 (w0 := w) w.heap.size rfl (.tmp 88) (.tmp 95) 68 72 (.agg #[(.bool false), (.string ⟨#[]⟩)]) 24 rfl Tryd.underlying68 info72 rfl (by decide) (by omega) u2 x2_1 (⟨true, a0.extract ((ji27) : Int).toNat (x7_20 : Int).toNat⟩ : S72) [.bool true, .string (a0.extract ((ji27) : Int).toNat (x7_20 : Int).toNat)] (fun _ => True) (fun _ => False) rfl rfl ?aP (fun _ hk => hk.elim) ?aF ?aO ?aB ?aS ?aL ?_; (case aP => exact k72_mkM _ _ _ (⟨true, a0.extract ((ji27) : Int).toNat (x7_20 : Int).toNat⟩ : S72)); (case aB => exact (by repeat (first | (with_reducible first | exact HB.out | apply below_alloc | apply pw_below_drewN | apply below_drew1) | exact HB.out))); (case aF => exact (fun _ _ => trivial)); (case aO => exact (by (with_reducible repeat (first | apply Kd.R_alloc | apply Kd.R_drewN | apply Kd.R_drew)); exact HO_2.out)); (case aS => exact (below_size (by repeat (first | (with_reducible first | exact HB.out | apply below_alloc | apply pw_below_drewN | apply below_drew1) | exact HB.out)))); (case aL => have := LMc31.out; omega); intro v138 w41 ho hb hg hat; rw [← Ny137.out] at ho; have n0_ := Aside0.mk (hb); have n1_ := Aside0.mk (ho); clear HB; clear HO_2; have HB := n0_; have HO139 := n1_; clear n0_ n1_; clear ho hb hg hat; have p37 : 0 ≤ ((ji34) : Int) := of_decide_eq_true (by first | (with_reducible assumption) | assumption); have q37 : (ji34) < (a0.size : Int) := of_decide_eq_true (by first | (with_reducible assumption) | assumption); have hx37 := bt_at a0 (ji34); replace p37 := eq_true p37; replace q37 := eq_true q37; have p40 : 0 ≤ ((ji34) : Int) := of_decide_eq_true (by first | (with_reducible assumption) | assumption); have q40 : (ji34) < (a0.size : Int) := of_decide_eq_true (by first | (with_reducible assumption) | assumption); have hx40 := bt_at a0 (ji34); replace p40 := eq_true p40; replace q40 := eq_true q40))
                                            go_roundg kj20
                                            case measure => have := HK1.out; have := HJ20.out; omega
                                            case rel => exact ⟨(y137), (((bt a0 (ji34)) != 46)), (x7_20), (by first | rfl | (simp; done) | (simp only [← hji34] <;> (first | rfl | simp)) | (simp [*]; done)), (by first | rfl | (simp; done) | (simp [*]; done)), H', ⟨by have := HK1.out; have := HJ20.out; omega⟩, ⟨by (with_reducible repeat (first | apply Kd.R_alloc | apply Kd.R_drewN | apply Kd.R_drew)); exact HO139.out⟩, ⟨by repeat (first | (with_reducible first | exact HB.out | apply below_alloc | apply pw_below_drewN | apply below_drew1) | exact HB.out)⟩⟩
                                        · rw [if_neg c36] at H
                                          exact absurd H (by simp)
                                      · rw [if_neg c35] at H
                                        exact absurd H (by simp)
                                    · replace c33 := Bool.eq_false_iff.mpr c33
                                      subst c33
                                      have H1 : (spec_Bits.l0 kj20 a0 y137 false x7_20) = some (r1, r2, r3) := by rw [if_neg (show ¬ (false = true) by decide)] at H; exact H
                                      clear H
                                      have H := H1
                                      clear H1
                                      have H' := Aside0.mk H
                                      clear H
                                      go_wp2_with (first | ((with_reducible refine gate_builtin (b := .append) (xs := #[.tmp 88, .tmp 95]) rfl ?_); (try (refine gate_guard (by rfl) ?_; dsimp only)); at_builtin; refine Kd.R_append k72 (w0 := w) w.heap.size rfl (.tmp 88) (.tmp 95) 68 72 (.agg #[(.bool false), (.string ⟨#[]⟩)]) 24 rfl Tryd.underlying68 info72 rfl (by decide) (by omega) u2 x2_1 (⟨true, a0.extract ((ji27) : Int).toNat (x7_20 : Int).toNat⟩ : S72) [.bool true, .string (a0.extract ((ji27) : Int).toNat (x7_20 : Int).toNat)] (fun _ => True) (fun _ => False) rfl rfl ?aP (fun _ hk => hk.elim) ?aF ?aO ?aB ?aS ?aL ?_; (case aP => exact k72_mkM _ _ _ (⟨true, a0.extract ((ji27) : Int).toNat (x7_20 : Int).toNat⟩ : S72)); (case aB => exact (by repeat (first | (with_reducible first | exact HB.out | apply below_alloc | apply pw_below_drewN | apply below_drew1) | exact HB.out))); (case aF => exact (fun _ _ => trivial)); (case aO => exact (by (with_reducible repeat (first | apply Kd.R_alloc | apply Kd.R_drewN | apply Kd.R_drew)); exact HO_2.out)); (case aS => exact (below_size (by repeat (first | (with_reducible first | exact HB.out | apply below_alloc | apply pw_below_drewN | apply below_drew1) | exact HB.out)))); (case aL => have := LMc31.out; omega); intro v138 w42 ho hb hg hat; rw [← Ny137.out] at ho; have n0_ := Aside0.mk (hb); have n1_ := Aside0.mk (ho); clear HB; clear HO_2; have HB := n0_; have HO139 := n1_; clear n0_ n1_; clear ho hb hg hat))
                                      go_roundg kj20
                                      case measure => have := HK1.out; have := HJ20.out; omega
                                      case rel => exact ⟨(y137), (false), (x7_20), (by first | rfl | (simp; done) | (simp [*]; done)), (by first | rfl | (simp; done) | (simp [*]; done)), H', ⟨by have := HK1.out; have := HJ20.out; omega⟩, ⟨by (with_reducible repeat (first | apply Kd.R_alloc | apply Kd.R_drewN | apply Kd.R_drew)); exact HO139.out⟩, ⟨by repeat (first | (with_reducible first | exact HB.out | apply below_alloc | apply pw_below_drewN | apply below_drew1) | exact HB.out)⟩⟩
                                  · rw [if_neg c32] at H
                                    have c32b0 : (x7_20 == (a0.size : Int)) = false := beq_eq_false_iff_ne.mpr c32
                                    have c32b1 : (x7_20 != (a0.size : Int)) = true := bne_iff_ne.mpr c32
                                    by_cases c43 : 0 ≤ x7_20
                                    · rw [if_pos c43] at H
                                      have c43b0 : decide (0 ≤ x7_20) = true := decide_eq_true c43
                                      clear c43
                                      by_cases c44 : x7_20 < (a0.size : Int)
                                      · rw [if_pos c44] at H
                                        have c44b0 : decide (x7_20 < (a0.size : Int)) = true := decide_eq_true c44
                                        clear c44
                                        by_cases c46 : (bt a0 x7_20) = 58
                                        · rw [if_pos c46] at H
                                          have c46b0 : ((bt a0 x7_20) == 58) = true := beq_iff_eq.mpr c46
                                          have c46b1 : ((bt a0 x7_20) != 58) = false := bne_eq_false_iff_eq.mpr c46
                                          clear c46
                                          simp only [Option.some.injEq, Prod.mk.injEq] at H
                                          obtain ⟨rfl, rfl, rfl⟩ := H
                                          go_wp2_with (first | ((with_reducible refine gate_builtin (b := .append) (xs := #[.tmp 88, .tmp 95]) rfl ?_); (try (refine gate_guard (by rfl) ?_; dsimp only)); at_builtin; refine Kd.R_append k72 (w0 := w) w.heap.size rfl (.tmp 88) (.tmp 95) 68 72 (.agg #[(.bool false), (.string ⟨#[]⟩)]) 24 rfl Tryd.underlying68 info72 rfl (by decide) (by omega) u2 x2_1 (⟨true, a0.extract ((ji27) : Int).toNat (x7_20 : Int).toNat⟩ : S72) [.bool true, .string (a0.extract ((ji27) : Int).toNat (x7_20 : Int).toNat)] (fun _ => True) (fun _ => False) rfl rfl ?aP (fun _ hk => hk.elim) ?aF ?aO ?aB ?aS ?aL ?_; (case aP => exact k72_mkM _ _ _ (⟨true, a0.extract ((ji27) : Int).toNat (x7_20 : Int).toNat⟩ : S72)); (case aB => exact (by repeat (first | (with_reducible first | exact HB.out | apply below_alloc | apply pw_below_drewN | apply below_drew1) | exact HB.out))); (case aF => exact (fun _ _ => trivial)); (case aO => exact (by (with_reducible repeat (first | apply Kd.R_alloc | apply Kd.R_drewN | apply Kd.R_drew)); exact HO_2.out)); (case aS => exact (below_size (by repeat (first | (with_reducible first | exact HB.out | apply below_alloc | apply pw_below_drewN | apply below_drew1) | exact HB.out)))); (case aL => have := LMc31.out; omega); intro v138 w47 ho hb hg hat; rw [← Ny137.out] at ho; have n0_ := Aside0.mk (hb); have n1_ := Aside0.mk (ho); clear HB; clear HO_2; have HB := n0_; have HO139 := n1_; clear n0_ n1_; clear ho hb hg hat; have p45 : 0 ≤ (x7_20 : Int) := of_decide_eq_true (by first | (with_reducible assumption) | assumption); have q45 : x7_20 < (a0.size : Int) := of_decide_eq_true (by first | (with_reducible assumption) | assumption); have hx45 := bt_at a0 x7_20; replace p45 := eq_true p45; replace q45 := eq_true q45))
                                          go_ret3
                                          exact ⟨_, by first | rfl | (simp [errW_none, errW_some] <;> rfl) | (simp only [← hji7, ← hji27]; first | rfl | (simp [errW_none, errW_some] <;> rfl)) | (simp [*, errW_none, errW_some] <;> rfl), by first | exact Kd.R_nil _ _ _ _ _ | exact Kd.N_nil _ _ _ _ _ | exact Kd.V_nil _ _ _ _ _ | exact Kd.Q_nil _ _ _ _ _ | exact Kd.S_nil _ _ _ _ _, by repeat (first | (with_reducible first | exact HB.out | apply below_alloc | apply pw_below_drewN | apply below_drew1) | exact HB.out)⟩
                                        · rw [if_neg c46] at H
                                          have c46b0 : ((bt a0 x7_20) == 58) = false := beq_eq_false_iff_ne.mpr c46
                                          have c46b1 : ((bt a0 x7_20) != 58) = true := bne_iff_ne.mpr c46
                                          by_cases c49 : (bt a0 x7_20) ≥ 128
                                          · rw [if_pos c49] at H
                                            have c49b0 : decide (128 ≤ (bt a0 x7_20)) = true := decide_eq_true c49
                                            clear c49
                                            have H' := Aside0.mk H
                                            clear H
                                            go_wp2_with (first | ((with_reducible refine gate_builtin (b := .append) (xs := #[.tmp 88, .tmp 95]) rfl ?_); (try (refine gate_guard (by rfl) ?_; dsimp only)); at_builtin; refine Kd.R_append k72 (w0 := w) w.heap.size rfl (.tmp 88) (.tmp 95) 68 72 (.agg #[(.bool false), (.string ⟨#[]⟩)]) 24 rfl Tryd.underlying68 info72 rfl (by decide) (by omega) u2 x2_1 (⟨true, a0.extract ((ji27) : Int).toNat (x7_20 : Int).toNat⟩ : S72) [.bool true, .string (a0.extract ((ji27) : Int).toNat (x7_20 : Int).toNat)] (fun _ => True) (fun _ => False) rfl rfl ?aP (fun _ hk => hk.elim) ?aF ?aO ?aB ?aS ?aL ?_; (case aP => exact k72_mkM _ _ _ (⟨true, a0.extract ((ji27) : Int).toNat (x7_20 : Int).toNat⟩ : S72)); (case aB => exact (by repeat (first | (with_reducible first | exact HB.out | apply below_alloc | apply pw_below_drewN | apply below_drew1) | exact HB.out))); (case aF => exact (fun _ _ => trivial)); (case aO => exact (by (with_reducible repeat (first | apply Kd.R_alloc | apply Kd.R_drewN | apply Kd.R_drew)); exact HO_2.out)); (case aS => exact (below_size (by repeat (first | (with_reducible first | exact HB.out | apply below_alloc | apply pw_below_drewN | apply below_drew1) | exact HB.out)))); (case aL => have := LMc31.out; omega); intro v138 w50 ho hb hg hat; rw [← Ny137.out] at ho; have n0_ := Aside0.mk (hb); have n1_ := Aside0.mk (ho); clear HB; clear HO_2; have HB := n0_; have HO139 := n1_; clear n0_ n1_; clear ho hb hg hat; have p45 : 0 ≤ (x7_20 : Int) := of_decide_eq_true (by first | (with_reducible assumption) | assumption); have q45 : x7_20 < (a0.size : Int) := of_decide_eq_true (by first | (with_reducible assumption) | assumption); have hx45 := bt_at a0 x7_20; replace p45 := eq_true p45; replace q45 := eq_true q45; have p48 : 0 ≤ (x7_20 : Int) := of_decide_eq_true (by first | (with_reducible assumption) | assumption); have q48 : x7_20 < (a0.size : Int) := of_decide_eq_true (by first | (with_reducible assumption) | assumption); have hx48 := bt_at a0 x7_20; replace p48 := eq_true p48; replace q48 := eq_true q48))
                                            go_roundg kj20
                                            case measure => have := HK1.out; have := HJ20.out; omega
                                            case rel => exact ⟨(y137), (false), (x7_20), (by first | rfl | (simp; done) | (simp [*]; done)), (by first | rfl | (simp; done) | (simp [*]; done)), H', ⟨by have := HK1.out; have := HJ20.out; omega⟩, ⟨by (with_reducible repeat (first | apply Kd.R_alloc | apply Kd.R_drewN | apply Kd.R_drew)); exact HO139.out⟩, ⟨by repeat (first | (with_reducible first | exact HB.out | apply below_alloc | apply pw_below_drewN | apply below_drew1) | exact HB.out)⟩⟩
                                          · rw [if_neg c49] at H
                                            have c49b0 : decide (128 ≤ (bt a0 x7_20)) = false := decide_eq_false c49
                                            clear c49
                                            by_cases c51 : x7_20 = (ji27)
                                            · rw [if_pos c51] at H
                                              have c51b0 : (x7_20 == (ji27)) = true := beq_iff_eq.mpr c51
                                              have c51b1 : (x7_20 != (ji27)) = false := bne_eq_false_iff_eq.mpr c51
                                              clear c51
                                              by_cases c52 : (wrap64 (x7_20 + 1)) = (a0.size : Int)
                                              · rw [if_pos c52] at H
                                                have c52b0 : ((wrap64 (x7_20 + 1)) == (a0.size : Int)) = true := beq_iff_eq.mpr c52
                                                have c52b1 : ((wrap64 (x7_20 + 1)) != (a0.size : Int)) = false := bne_eq_false_iff_eq.mpr c52
                                                clear c52
                                                have H' := Aside0.mk H
                                                clear H
                                                go_wp2_with (first | ((with_reducible refine gate_builtin (b := .append) (xs := #[.tmp 88, .tmp 95]) rfl ?_); (try (refine gate_guard (by rfl) ?_; dsimp only)); at_builtin; refine Kd.R_append k72 (w0 := w) w.heap.size rfl (.tmp 88) (.tmp 95) 68 72 (.agg #[(.bool false), (.string ⟨#[]⟩)]) 24 rfl Tryd.underlying68 info72 rfl (by decide) (by omega) u2 x2_1 (⟨true, a0.extract ((ji27) : Int).toNat (x7_20 : Int).toNat⟩ : S72) [.bool true, .string (a0.extract ((ji27) : Int).toNat (x7_20 : Int).toNat)] (fun _ => True) (fun _ => False) rfl rfl ?aP (fun _ hk => hk.elim) ?aF ?aO ?aB ?aS ?aL ?_; (case aP => exact k72_mkM _ _ _ (⟨true, a0.extract ((ji27) : Int).toNat (x7_20 : Int).toNat⟩ : S72)); (case aB => exact (by repeat (first | (with_reducible first | exact HB.out | apply below_alloc | apply pw_below_drewN | apply below_drew1) | exact HB.out))); (case aF => exact (fun _ _ => trivial)); (case aO => exact (by (with_reducible repeat (first | apply Kd.R_alloc | apply Kd.R_drewN | apply Kd.R_drew)); exact HO_2.out)); (case aS => exact (below_size (by repeat (first | (with_reducible first | exact HB.out | apply below_alloc | apply pw_below_drewN | apply below_drew1) | exact HB.out)))); (case aL => have := LMc31.out; omega); intro v138 w53 ho hb hg hat; rw [← Ny137.out] at ho; have n0_ := Aside0.mk (hb); have n1_ := Aside0.mk (ho); clear HB; clear HO_2; have HB := n0_; have HO139 := n1_; clear n0_ n1_; clear ho hb hg hat; have p45 : 0 ≤ (x7_20 : Int) := of_decide_eq_true (by first | (with_reducible assumption) | assumption); have q45 : x7_20 < (a0.size : Int) := of_decide_eq_true (by first | (with_reducible assumption) | assumption); have hx45 := bt_at a0 x7_20; replace p45 := eq_true p45; replace q45 := eq_true q45; have p48 : 0 ≤ (x7_20 : Int) := of_decide_eq_true (by first | (with_reducible assumption) | assumption); have q48 : x7_20 < (a0.size : Int) := of_decide_eq_true (by first | (with_reducible assumption) | assumption); have hx48 := bt_at a0 x7_20; replace p48 := eq_true p48; replace q48 := eq_true q48))
                                                go_roundg kj20
                                                case measure => have := HK1.out; have := HJ20.out; omega
                                                case rel => exact ⟨(y137), (false), (x7_20), (by first | rfl | (simp; done) | (simp [*]; done)), (by first | rfl | (simp; done) | (simp [*]; done)), H', ⟨by have := HK1.out; have := HJ20.out; omega⟩, ⟨by (with_reducible repeat (first | apply Kd.R_alloc | apply Kd.R_drewN | apply Kd.R_drew)); exact HO139.out⟩, ⟨by repeat (first | (with_reducible first | exact HB.out | apply below_alloc | apply pw_below_drewN | apply below_drew1) | exact HB.out)⟩⟩
                                              · rw [if_neg c52] at H
                                                have c52b0 : ((wrap64 (x7_20 + 1)) == (a0.size : Int)) = false := beq_eq_false_iff_ne.mpr c52
                                                have c52b1 : ((wrap64 (x7_20 + 1)) != (a0.size : Int)) = true := bne_iff_ne.mpr c52
                                                have H' := Aside0.mk H
                                                clear H
                                                go_wp2_with (first | ((with_reducible refine gate_builtin (b := .append) (xs := #[.tmp 88, .tmp 95]) rfl ?_); (try (refine gate_guard (by rfl) ?_; dsimp only)); at_builtin; refine Kd.R_append k72 (w0 := w) w.heap.size rfl (.tmp 88) (.tmp 95) 68 72 (.agg #[(.bool false), (.string ⟨#[]⟩)]) 24 rfl Tryd.underlying68 info72 rfl (by decide) (by omega) u2 x2_1 (⟨true, a0.extract ((ji27) : Int).toNat (x7_20 : Int).toNat⟩ : S72) [.bool true, .string (a0.extract ((ji27) : Int).toNat (x7_20 : Int).toNat)] (fun _ => True) (fun _ => False) rfl rfl ?aP (fun _ hk => hk.elim) ?aF ?aO ?aB ?aS ?aL ?_; (case aP => exact k72_mkM _ _ _ (⟨true, a0.extract ((ji27) : Int).toNat (x7_20 : Int).toNat⟩ : S72)); (case aB => exact (by repeat (first | (with_reducible first | exact HB.out | apply below_alloc | apply pw_below_drewN | apply below_drew1) | exact HB.out))); (case aF => exact (fun _ _ => trivial)); (case aO => exact (by (with_reducible repeat (first | apply Kd.R_alloc | apply Kd.R_drewN | apply Kd.R_drew)); exact HO_2.out)); (case aS => exact (below_size (by repeat (first | (with_reducible first | exact HB.out | apply below_alloc | apply pw_below_drewN | apply below_drew1) | exact HB.out)))); (case aL => have := LMc31.out; omega); intro v138 w54 ho hb hg hat; rw [← Ny137.out] at ho; have n0_ := Aside0.mk (hb); have n1_ := Aside0.mk (ho); clear HB; clear HO_2; have HB := n0_; have HO139 := n1_; clear n0_ n1_; clear ho hb hg hat; have p45 : 0 ≤ (x7_20 : Int) := of_decide_eq_true (by first | (with_reducible assumption) | assumption); have q45 : x7_20 < (a0.size : Int) := of_decide_eq_true (by first | (with_reducible assumption) | assumption); have hx45 := bt_at a0 x7_20; replace p45 := eq_true p45; replace q45 := eq_true q45; have p48 : 0 ≤ (x7_20 : Int) := of_decide_eq_true (by first | (with_reducible assumption) | assumption); have q48 : x7_20 < (a0.size : Int) := of_decide_eq_true (by first | (with_reducible assumption) | assumption); have hx48 := bt_at a0 x7_20; replace p48 := eq_true p48; replace q48 := eq_true q48))
                                                go_roundg kj20
                                                case measure => have := HK1.out; have := HJ20.out; omega
                                                case rel => exact ⟨(y137), (x4_1), (x7_20), (by first | rfl | (simp; done) | (simp [*]; done)), (by first | rfl | (simp; done) | (simp [*]; done)), H', ⟨by have := HK1.out; have := HJ20.out; omega⟩, ⟨by (with_reducible repeat (first | apply Kd.R_alloc | apply Kd.R_drewN | apply Kd.R_drew)); exact HO139.out⟩, ⟨by repeat (first | (with_reducible first | exact HB.out | apply below_alloc | apply pw_below_drewN | apply below_drew1) | exact HB.out)⟩⟩
                                            · rw [if_neg c51] at H
                                              have c51b0 : (x7_20 == (ji27)) = false := beq_eq_false_iff_ne.mpr c51
                                              have c51b1 : (x7_20 != (ji27)) = true := bne_iff_ne.mpr c51
                                              have H' := Aside0.mk H
                                              clear H
                                              go_wp2_with (first | ((with_reducible refine gate_builtin (b := .append) (xs := #[.tmp 88, .tmp 95]) rfl ?_); (try (refine gate_guard (by rfl) ?_; dsimp only)); at_builtin; refine Kd.R_append k72 (w0 := w) w.heap.size rfl (.tmp 88) (.tmp 95) 68 72 (.agg #[(.bool false), (.string ⟨#[]⟩)]) 24 rfl Tryd.underlying68 info72 rfl (by decide) (by omega) u2 x2_1 (⟨true, a0.extract ((ji27) : Int).toNat (x7_20 : Int).toNat⟩ : S72) [.bool true, .string (a0.extract ((ji27) : Int).toNat (x7_20 : Int).toNat)] (fun _ => True) (fun _ => False) rfl rfl ?aP (fun _ hk => hk.elim) ?aF ?aO ?aB ?aS ?aL ?_; (case aP => exact k72_mkM _ _ _ (⟨true, a0.extract ((ji27) : Int).toNat (x7_20 : Int).toNat⟩ : S72)); (case aB => exact (by repeat (first | (with_reducible first | exact HB.out | apply below_alloc | apply pw_below_drewN | apply below_drew1) | exact HB.out))); (case aF => exact (fun _ _ => trivial)); (case aO => exact (by (with_reducible repeat (first | apply Kd.R_alloc | apply Kd.R_drewN | apply Kd.R_drew)); exact HO_2.out)); (case aS => exact (below_size (by repeat (first | (with_reducible first | exact HB.out | apply below_alloc | apply pw_below_drewN | apply below_drew1) | exact HB.out)))); (case aL => have := LMc31.out; omega); intro v138 w55 ho hb hg hat; rw [← Ny137.out] at ho; have n0_ := Aside0.mk (hb); have n1_ := Aside0.mk (ho); clear HB; clear HO_2; have HB := n0_; have HO139 := n1_; clear n0_ n1_; clear ho hb hg hat; have p45 : 0 ≤ (x7_20 : Int) := of_decide_eq_true (by first | (with_reducible assumption) | assumption); have q45 : x7_20 < (a0.size : Int) := of_decide_eq_true (by first | (with_reducible assumption) | assumption); have hx45 := bt_at a0 x7_20; replace p45 := eq_true p45; replace q45 := eq_true q45; have p48 : 0 ≤ (x7_20 : Int) := of_decide_eq_true (by first | (with_reducible assumption) | assumption); have q48 : x7_20 < (a0.size : Int) := of_decide_eq_true (by first | (with_reducible assumption) | assumption); have hx48 := bt_at a0 x7_20; replace p48 := eq_true p48; replace q48 := eq_true q48))
                                              go_roundg kj20
                                              case measure => have := HK1.out; have := HJ20.out; omega
                                              case rel => exact ⟨(y137), (x4_1), (x7_20), (by first | rfl | (simp; done) | (simp [*]; done)), (by first | rfl | (simp; done) | (simp [*]; done)), H', ⟨by have := HK1.out; have := HJ20.out; omega⟩, ⟨by (with_reducible repeat (first | apply Kd.R_alloc | apply Kd.R_drewN | apply Kd.R_drew)); exact HO139.out⟩, ⟨by repeat (first | (with_reducible first | exact HB.out | apply below_alloc | apply pw_below_drewN | apply below_drew1) | exact HB.out)⟩⟩
                                      · rw [if_neg c44] at H
                                        exact absurd H (by simp)
                                    · rw [if_neg c43] at H
                                      exact absurd H (by simp)
                                · rw [if_neg c31] at H
                                  exact absurd H (by simp)
                              · rw [if_neg c30] at H
                                exact absurd H (by simp)
                            · rw [if_neg c29] at H
                              exact absurd H (by simp)
                          · rw [if_neg c28] at H
                            exact absurd H (by simp)
                · rw [if_neg c9] at H
                  exact absurd H (by simp)
              · rw [if_neg c8] at H
                exact absurd H (by simp)
          · rw [if_neg c5] at H
            have c5b0 : ((bt a0 x5_1) == 58) = false := beq_eq_false_iff_ne.mpr c5
            have c5b1 : ((bt a0 x5_1) != 58) = true := bne_iff_ne.mpr c5
            have H' := Aside0.mk H
            clear H
            have p4 : 0 ≤ (x5_1 : Int) := of_decide_eq_true (by first | (with_reducible assumption) | assumption)
            have q4 : x5_1 < (a0.size : Int) := of_decide_eq_true (by first | (with_reducible assumption) | assumption)
            have hx4 := bt_at a0 x5_1
            replace p4 := eq_true p4
            replace q4 := eq_true q4
            go_wp2
            go_loopg [6] k1 (fun kq v6 w' => ∃ (x6_2 : Int), v6 = .int .i64 x6_2 ∧ Aside0 (spec_Bits.l1 kq a0 x2_1 x4_1 x5_1 x6_2 = some (r1, r2, r3)) ∧ Aside0 (kq ≤ k1) ∧ Aside0 (Kd.R k72 72 w' w.heap.size (fun _ => True) u2 x2_1) ∧ Aside0 (Below w.heap.size w w'))
            case atStart => exact ⟨(x5_1), (by first | rfl | (simp; done) | (simp [*]; done)), H', ⟨Nat.le_refl _⟩, ⟨by (with_reducible repeat (first | apply Kd.R_alloc | apply Kd.R_drewN | apply Kd.R_drew)); exact HO_2.out⟩, ⟨by repeat (first | (with_reducible first | exact HB.out | apply below_alloc | apply pw_below_drewN | apply below_drew1) | exact HB.out)⟩⟩
            case round =>
              clear H'
              try clear c1
              try clear p1
              try clear q1
              try clear hx1
              try clear c2
              try clear c2b0
              try clear p2
              try clear q2
              try clear hx2
              try clear c3
              try clear c3b0
              try clear p3
              try clear q3
              try clear hx3
              try clear c4
              try clear p4
              try clear q4
              try clear hx4
              try clear c5
              try clear c5b0
              try clear c5b1
              try clear c6
              try clear c6b0
              try clear c6b1
              try clear p6
              try clear c8
              try clear c8b0
              try clear c9
              try clear c9b0
              try clear p10
              try clear q10
              try clear hx10
              try clear c11
              try clear c11b0
              try clear c11b1
              try clear c12
              try clear p14
              try clear q14
              try clear hx14
              try clear c15
              try clear c15b0
              try clear c15b1
              try clear c16
              try clear c17
              try clear c19
              try clear c22
              try clear c22b0
              try clear c23
              try clear c23b0
              try clear p24
              try clear q24
              try clear hx24
              try clear c26
              try clear c28
              try clear c28b0
              try clear c28b1
              try clear c29
              try clear c29b0
              try clear c29b1
              try clear c30
              try clear c30b0
              try clear c30b1
              try clear c31
              try clear c32
              try clear c32b0
              try clear c32b1
              try clear c33
              try clear c35
              try clear c35b0
              try clear c36
              try clear c36b0
              try clear p37
              try clear q37
              try clear hx37
              try clear c38
              try clear c38b0
              try clear c38b1
              try clear p40
              try clear q40
              try clear hx40
              try clear c43
              try clear c43b0
              try clear c44
              try clear c44b0
              try clear p45
              try clear q45
              try clear hx45
              try clear c46
              try clear c46b0
              try clear c46b1
              try clear p48
              try clear q48
              try clear hx48
              try clear c49
              try clear c49b0
              try clear c51
              try clear c51b0
              try clear c51b1
              try clear c52
              try clear c52b0
              try clear c52b1
              try clear p1
              try clear p10
              try clear p14
              try clear p2
              try clear p24
              try clear p37
              try clear p4
              try clear p40
              try clear p45
              try clear p48
              try clear p6
              try clear q1
              try clear q10
              try clear q14
              try clear q2
              try clear q24
              try clear q37
              try clear q4
              try clear q40
              try clear q45
              try clear q48
              obtain ⟨x6_2, rfl, HA, HK2, HO_2, HB⟩ := hrel
              cases gk with
              | zero => exact absurd HA.out (by simp [spec_Bits.l1])
              | succ k2 =>
                have H := HA.out
                clear HA
                simp only [spec_Bits.l1] at H
                by_cases c56 : x6_2 < (a0.size : Int)
                · rw [if_pos c56] at H
                  have c56b0 : decide (x6_2 < (a0.size : Int)) = true := decide_eq_true c56
                  clear c56
                  by_cases c57 : 0 ≤ x6_2
                  · rw [if_pos c57] at H
                    have c57b0 : decide (0 ≤ x6_2) = true := decide_eq_true c57
                    clear c57
                    by_cases c59 : (bt a0 x6_2) = 58
                    · rw [if_pos c59] at H
                      have c59b0 : ((bt a0 x6_2) == 58) = true := beq_iff_eq.mpr c59
                      have c59b1 : ((bt a0 x6_2) != 58) = false := bne_eq_false_iff_eq.mpr c59
                      clear c59
                      by_cases c60 : 0 ≤ x5_1
                      · rw [if_pos c60] at H
                        have c60b0 := eq_true c60
                        have c60b1 : decide (0 ≤ x5_1) = true := decide_eq_true c60
                        clear c60
                        by_cases c61 : x5_1 ≤ x6_2
                        · rw [if_pos c61] at H
                          have c61b0 := eq_true c61
                          have c61b1 : decide (x5_1 ≤ x6_2) = true := decide_eq_true c61
                          clear c61
                          by_cases c62 : x6_2 ≤ (a0.size : Int)
                          · rw [if_pos c62] at H
                            have c62b0 := eq_true c62
                            have c62b1 : decide (x6_2 ≤ (a0.size : Int)) = true := decide_eq_true c62
                            clear c62
                            by_cases c63 : x2_1.length < 5864062014805
                            · rw [if_pos c63] at H
                              have LMc63 := Aside0.mk c63
                              clear c63
                              obtain ⟨y121, hy121⟩ : ∃ y_ : List (S72), y_ = (x2_1 ++ [(⟨false, a0.extract (x5_1 : Int).toNat (x6_2 : Int).toNat⟩ : S72)]) := ⟨_, rfl⟩
                              replace H : (spec_Bits.l0 k2 a0 y121 x4_1 x6_2) = some (r1, r2, r3) := by first | (rw [hy121]; with_reducible exact H) | (have H2_ := (Option.bind_some _ _).symm.trans H; rw [hy121]; with_reducible exact H2_) | (have H2_ := (Option.bind_some _ _).symm.trans H; with_reducible exact H2_) | with_reducible exact H | (rw [hy121]; exact H) | exact H
                              have Ny121 := Aside0.mk hy121
                              clear hy121
                              have H' := Aside0.mk H
                              clear H
                              have p58 : 0 ≤ (x6_2 : Int) := of_decide_eq_true (by first | (with_reducible assumption) | assumption)
                              have q58 : x6_2 < (a0.size : Int) := of_decide_eq_true (by first | (with_reducible assumption) | assumption)
                              have hx58 := bt_at a0 x6_2
                              replace p58 := eq_true p58
                              replace q58 := eq_true q58
                              go_wp2_with (first | ((with_reducible refine gate_builtin (b := .append) (xs := #[.tmp 29, .tmp 35]) rfl ?_); (try (refine gate_guard (by rfl) ?_; dsimp only)); at_builtin; refine Kd.R_append k72 (w0 := w) w.heap.size rfl (.tmp 29) (.tmp 35) 68 72 (.agg #[(.bool false), (.string ⟨#[]⟩)]) 24 rfl Tryd.underlying68 info72 rfl (by decide) (by omega) u2 x2_1 (⟨false, a0.extract (x5_1 : Int).toNat (x6_2 : Int).toNat⟩ : S72) [.bool false, .string (a0.extract (x5_1 : Int).toNat (x6_2 : Int).toNat)] (fun _ => True) (fun _ => False) rfl rfl ?aP (fun _ hk => hk.elim) ?aF ?aO ?aB ?aS ?aL ?_; (case aP => exact k72_mkM _ _ _ (⟨false, a0.extract (x5_1 : Int).toNat (x6_2 : Int).toNat⟩ : S72)); (case aB => exact (by repeat (first | (with_reducible first | exact HB.out | apply below_alloc | apply pw_below_drewN | apply below_drew1) | exact HB.out))); (case aF => exact (fun _ _ => trivial)); (case aO => exact (by (with_reducible repeat (first | apply Kd.R_alloc | apply Kd.R_drewN | apply Kd.R_drew)); exact HO_2.out)); (case aS => exact (below_size (by repeat (first | (with_reducible first | exact HB.out | apply below_alloc | apply pw_below_drewN | apply below_drew1) | exact HB.out)))); (case aL => have := LMc63.out; omega); intro v122 w64 ho hb hg hat; rw [← Ny121.out] at ho; have n0_ := Aside0.mk (hb); have n1_ := Aside0.mk (ho); clear HB; clear HO_2; have HB := n0_; have HO123 := n1_; clear n0_ n1_; clear ho hb hg hat))
                              go_roundg k2
                              case measure => have := HK1.out; have := HK2.out; omega
                              case rel => exact ⟨(y121), (x4_1), (x6_2), (by first | rfl | (simp; done) | (simp [*]; done)), (by first | rfl | (simp; done) | (simp [*]; done)), H', ⟨by have := HK1.out; have := HK2.out; omega⟩, ⟨by (with_reducible repeat (first | apply Kd.R_alloc | apply Kd.R_drewN | apply Kd.R_drew)); exact HO123.out⟩, ⟨by repeat (first | (with_reducible first | exact HB.out | apply below_alloc | apply pw_below_drewN | apply below_drew1) | exact HB.out)⟩⟩
                            · rw [if_neg c63] at H
                              exact absurd H (by simp)
                          · rw [if_neg c62] at H
                            exact absurd H (by simp)
                        · rw [if_neg c61] at H
                          exact absurd H (by simp)
                      · rw [if_neg c60] at H
                        exact absurd H (by simp)
                    · rw [if_neg c59] at H
                      have c59b0 : ((bt a0 x6_2) == 58) = false := beq_eq_false_iff_ne.mpr c59
                      have c59b1 : ((bt a0 x6_2) != 58) = true := bne_iff_ne.mpr c59
                      have H' := Aside0.mk H
                      clear H
                      have p58 : 0 ≤ (x6_2 : Int) := of_decide_eq_true (by first | (with_reducible assumption) | assumption)
                      have q58 : x6_2 < (a0.size : Int) := of_decide_eq_true (by first | (with_reducible assumption) | assumption)
                      have hx58 := bt_at a0 x6_2
                      replace p58 := eq_true p58
                      replace q58 := eq_true q58
                      go_wp2
                      go_roundg k2
                      case measure => have := HK1.out; have := HK2.out; omega
                      case rel => exact ⟨(wrap64 (x6_2 + 1)), (by first | rfl | (simp; done) | (simp [*]; done)), H', ⟨by have := HK1.out; have := HK2.out; omega⟩, ⟨by (with_reducible repeat (first | apply Kd.R_alloc | apply Kd.R_drewN | apply Kd.R_drew)); exact HO_2.out⟩, ⟨by repeat (first | (with_reducible first | exact HB.out | apply below_alloc | apply pw_below_drewN | apply below_drew1) | exact HB.out)⟩⟩
                  · rw [if_neg c57] at H
                    exact absurd H (by simp)
                · rw [if_neg c56] at H
                  have c56b0 : decide (x6_2 < (a0.size : Int)) = false := decide_eq_false c56
                  clear c56
                  by_cases c65 : 0 ≤ x5_1
                  · rw [if_pos c65] at H
                    have c65b0 := eq_true c65
                    have c65b1 : decide (0 ≤ x5_1) = true := decide_eq_true c65
                    clear c65
                    by_cases c66 : x5_1 ≤ x6_2
                    · rw [if_pos c66] at H
                      have c66b0 := eq_true c66
                      have c66b1 : decide (x5_1 ≤ x6_2) = true := decide_eq_true c66
                      clear c66
                      by_cases c67 : x6_2 ≤ (a0.size : Int)
                      · rw [if_pos c67] at H
                        have c67b0 := eq_true c67
                        have c67b1 : decide (x6_2 ≤ (a0.size : Int)) = true := decide_eq_true c67
                        clear c67
                        by_cases c68 : x2_1.length < 5864062014805
                        · rw [if_pos c68] at H
                          have LMc68 := Aside0.mk c68
                          clear c68
                          obtain ⟨y124, hy124⟩ : ∃ y_ : List (S72), y_ = (x2_1 ++ [(⟨false, a0.extract (x5_1 : Int).toNat (x6_2 : Int).toNat⟩ : S72)]) := ⟨_, rfl⟩
                          replace H : (spec_Bits.l0 k2 a0 y124 x4_1 x6_2) = some (r1, r2, r3) := by first | (rw [hy124]; with_reducible exact H) | (have H2_ := (Option.bind_some _ _).symm.trans H; rw [hy124]; with_reducible exact H2_) | (have H2_ := (Option.bind_some _ _).symm.trans H; with_reducible exact H2_) | with_reducible exact H | (rw [hy124]; exact H) | exact H
                          have Ny124 := Aside0.mk hy124
                          clear hy124
                          have H' := Aside0.mk H
                          clear H
                          go_wp2_with (first | ((with_reducible refine gate_builtin (b := .append) (xs := #[.tmp 29, .tmp 35]) rfl ?_); (try (refine gate_guard (by rfl) ?_; dsimp only)); at_builtin; refine Kd.R_append k72 (w0 := w) w.heap.size rfl (.tmp 29) (.tmp 35) 68 72 (.agg #[(.bool false), (.string ⟨#[]⟩)]) 24 rfl Tryd.underlying68 info72 rfl (by decide) (by omega) u2 x2_1 (⟨false, a0.extract (x5_1 : Int).toNat (x6_2 : Int).toNat⟩ : S72) [.bool false, .string (a0.extract (x5_1 : Int).toNat (x6_2 : Int).toNat)] (fun _ => True) (fun _ => False) rfl rfl ?aP (fun _ hk => hk.elim) ?aF ?aO ?aB ?aS ?aL ?_; (case aP => exact k72_mkM _ _ _ (⟨false, a0.extract (x5_1 : Int).toNat (x6_2 : Int).toNat⟩ : S72)); (case aB => exact (by repeat (first | (with_reducible first | exact HB.out | apply below_alloc | apply pw_below_drewN | apply below_drew1) | exact HB.out))); (case aF => exact (fun _ _ => trivial)); (case aO => exact (by (with_reducible repeat (first | apply Kd.R_alloc | apply Kd.R_drewN | apply Kd.R_drew)); exact HO_2.out)); (case aS => exact (below_size (by repeat (first | (with_reducible first | exact HB.out | apply below_alloc | apply pw_below_drewN | apply below_drew1) | exact HB.out)))); (case aL => have := LMc68.out; omega); intro v125 w69 ho hb hg hat; rw [← Ny124.out] at ho; have n0_ := Aside0.mk (hb); have n1_ := Aside0.mk (ho); clear HB; clear HO_2; have HB := n0_; have HO126 := n1_; clear n0_ n1_; clear ho hb hg hat))
                          go_roundg k2
                          case measure => have := HK1.out; have := HK2.out; omega
                          case rel => exact ⟨(y124), (x4_1), (x6_2), (by first | rfl | (simp; done) | (simp [*]; done)), (by first | rfl | (simp; done) | (simp [*]; done)), H', ⟨by have := HK1.out; have := HK2.out; omega⟩, ⟨by (with_reducible repeat (first | apply Kd.R_alloc | apply Kd.R_drewN | apply Kd.R_drew)); exact HO126.out⟩, ⟨by repeat (first | (with_reducible first | exact HB.out | apply below_alloc | apply pw_below_drewN | apply below_drew1) | exact HB.out)⟩⟩
                        · rw [if_neg c68] at H
                          exact absurd H (by simp)
                      · rw [if_neg c67] at H
                        exact absurd H (by simp)
                    · rw [if_neg c66] at H
                      exact absurd H (by simp)
                  · rw [if_neg c65] at H
                    exact absurd H (by simp)
        · rw [if_neg c3] at H
          exact absurd H (by simp)
      · rw [if_neg c2] at H
        have c2b0 : decide (x5_1 < (a0.size : Int)) = false := decide_eq_false c2
        clear c2
        simp only [Option.some.injEq, Prod.mk.injEq] at H
        obtain ⟨rfl, rfl, rfl⟩ := H
        go_wp2
        go_ret3
        exact ⟨_, by first | rfl | (simp [errW_none, errW_some] <;> rfl) | (simp [*, errW_none, errW_some] <;> rfl), by (with_reducible repeat (first | apply Kd.R_alloc | apply Kd.R_drewN | apply Kd.R_drew)); exact HO_2.out, by repeat (first | (with_reducible first | exact HB.out | apply below_alloc | apply pw_below_drewN | apply below_drew1) | exact HB.out)⟩

end Go.Proofs.YtnmhoghmhglimaaDoor.QN
-- WRITTEN BY A PROGRAM OF THIS SESSION (wip/print2.py): the print, with contracts of this session's own let in. Not trusted: Lean checks it.
namespace Go.Proofs.YtnmhoghmhglimaaDoor.QN
open Go.RowKit Go.Proofs.YtnmhoghmhglimaaDoorW.PrintWords Go.Proofs.YtnmhoghmhglimaaDoorW.PrintLast Go.Proofs.YtnmhoghmhglimaaDoorW.PrintMore
attribute [local go_sem] max2_int min2_int max_two min_two max_three min_three max_four min_four   -- for this text's walks alone
set_option linter.unusedVariables false
set_option linter.unusedSimpArgs false

/-! ### spec_Compiled: function 26 -/
mutual
def spec_Compiled.l0 : Nat → Int → ByteArray → List ByteArray → Bool → Bool → List (S72) → Int → Option (ByteArray × List ByteArray × Bool × Bool)
  | 0, _, _, _, _, _, _, _ => none
  | k + 1, x0, x4, x5, x6, x7, x8, x9 => if x9 < (x8.length : Int) then (spec_Compiled.j1 k x0 x4 x5 x6 x7 x8 x9 x6) else (spec_Compiled.j1 k x0 x4 x5 x6 x7 x8 x9 false)
def spec_Compiled.j1 : Nat → Int → ByteArray → List ByteArray → Bool → Bool → List (S72) → Int → Bool → Option (ByteArray × List ByteArray × Bool × Bool)
  | 0, _, _, _, _, _, _, _, _ => none
  | k + 1, x0, x4, x5, x6, x7, x8, x9, x22 => if x22 = true then (if 0 ≤ x9 then (if x9 < (x8.length : Int) then (if ((rd_T72 x8 x9).f0 = true) then (if x5.length < 8796093022208 then ((some (x5 ++ [(rd_T72 x8 x9).f1] : List ByteArray)).bind fun y147 => ((spec_Mark.f k x0 (y147.length : Int) ((rd_T72 x8 x9).f1)).bind fun t151 => (if x4.size + t151.size ≤ 9223372036854775807 then (spec_Compiled.l0 k x0 (x4 ++ t151) y147 x6 x7 x8 (wrap64 (x9 + 1))) else (none)))) else (none)) else (if x4.size + ((rd_T72 x8 x9).f1).size ≤ 9223372036854775807 then (spec_Compiled.l0 k x0 (x4 ++ ((rd_T72 x8 x9).f1)) x5 x6 x7 x8 (wrap64 (x9 + 1))) else (none))) else (none)) else (none)) else (if x6 = true then (some (x4, x5, true, x7)) else (some ((⟨#[]⟩ : ByteArray), ([] : List ByteArray), false, x7)))
end
def spec_Compiled.f (k : Nat) (a0 : Int) (a1 : ByteArray) : Option (ByteArray × List ByteArray × Bool × Bool) := (spec_Bits.f k a1).bind fun bt140 => (spec_Compiled.l0 k a0 (⟨#[]⟩ : ByteArray) ([] : List ByteArray) bt140.2.1 bt140.2.2 bt140.1 0)
set_option maxHeartbeats 8000000 in
set_option maxRecDepth 100000 in
theorem spec_Compiled.calls (k : Nat) (a0 : Int) (a1 : ByteArray) (r1 : ByteArray) (r2 : List ByteArray) (r3 : Bool) (r4 : Bool) (w : World) (h : spec_Compiled.f k a0 a1 = some (r1, r2, r3, r4)) :
    Calls Tryd.prog 26 #[.int .i64 a0, .string a1] w fun e w' => ∃ v1_ : Value, e = .returned (.tuple #[.string r1, v1_, .bool r3, .bool r4]) ∧ Kd.R Kd.string 9 w' w.heap.size (fun _ => True) v1_ r2 ∧ Below w.heap.size w w' := by
  have HB := Aside0.mk (Below.refl w.heap.size w)
  have H : ((spec_Bits.f k a1).bind fun bt140 => (spec_Compiled.l0 k a0 (⟨#[]⟩ : ByteArray) ([] : List ByteArray) bt140.2.1 bt140.2.2 bt140.1 0)) = some (r1, r2, r3, r4) := h
  clear h
  replace H := Option.bind_eq_some_iff.mp H
  obtain ⟨⟨t140, t141, t142⟩, A30, H⟩ := H
  replace H : (spec_Compiled.l0 k a0 (⟨#[]⟩ : ByteArray) ([] : List ByteArray) t141 t142 t140 0) = some (r1, r2, r3, r4) := H
  have A3 := Aside0.mk A30
  clear A30
  have H' := Aside0.mk H
  clear H
  go_enter Tryd.func26, Tryd.ntmps26
  go_wp2_with (first | ((with_reducible refine gate_callee (f := 51) rfl ?_); refine goesL_ (some 12) rfl rfl Tryd.func51 (by kernel_rfl) rfl #[.string a1] rfl (by (try simp only [List.map_toArray, List.map_cons, List.map_nil]); first | done | rfl | (simp only [List.length_drop, List.length_take]; rfl)) ?_; (with_reducible refine (spec_Bits.calls k a1 t140 t141 t142 _ A3.out).mono ?_); rintro e w4 ⟨v143, rfl, ho0, hb⟩; refine ⟨_, rfl, ?_⟩; have n0_ := Aside0.mk (Kd.R_lower ho0 (below_size (by repeat (first | (with_reducible first | exact HB.out | apply below_alloc | apply pw_below_drewN | apply below_drew1) | exact HB.out)))); have n1_ := Aside0.mk (below_step (by repeat (first | (with_reducible first | exact HB.out | apply below_alloc | apply pw_below_drewN | apply below_drew1) | exact HB.out)) hb); clear HB; have HO144 := n0_; have HB := n1_; clear n0_ n1_; (try clear hb); (try clear hb2); (try clear hk); (try clear hi); (try clear ho0)))
  go_loopg [4, 5, 9] k (fun kq v4 v5 v9 w' => ∃ (x4_1 : ByteArray) (x5_1 : List ByteArray) (x9_1 : Int), v4 = .string x4_1 ∧ v9 = .int .i64 x9_1 ∧ Aside0 (spec_Compiled.l0 kq a0 x4_1 x5_1 t141 t142 t140 x9_1 = some (r1, r2, r3, r4)) ∧ Aside0 (kq ≤ k) ∧ Aside0 (Kd.R Kd.string 9 w' w.heap.size (fun _ => True) v5 x5_1) ∧ Aside0 (Kd.R k72 72 w' w.heap.size (fun _ => True) v143 t140) ∧ Aside0 (Below w.heap.size w w'))
  case atStart => exact ⟨((⟨#[]⟩ : ByteArray)), (([] : List ByteArray)), (0), (by first | rfl | (simp; done) | (simp [*]; done)), (by first | rfl | (simp; done) | (simp [*]; done)), H', ⟨Nat.le_refl _⟩, ⟨by first | exact Kd.R_nil _ _ _ _ _ | exact Kd.N_nil _ _ _ _ _ | exact Kd.V_nil _ _ _ _ _ | exact Kd.Q_nil _ _ _ _ _ | exact Kd.S_nil _ _ _ _ _⟩, ⟨by (with_reducible repeat (first | apply Kd.R_alloc | apply Kd.R_drewN | apply Kd.R_drew)); exact HO144.out⟩, ⟨by repeat (first | (with_reducible first | exact HB.out | apply below_alloc | apply pw_below_drewN | apply below_drew1) | exact HB.out)⟩⟩
  case round =>
    clear H'
    try clear c2
    try clear p2
    obtain ⟨x4_1, x5_1, x9_1, rfl, rfl, HA, HK1, HO_5, HO_8, HB⟩ := hrel
    cases gk with
    | zero => exact absurd HA.out (by simp [spec_Compiled.l0])
    | succ k1 =>
      have H := HA.out
      clear HA
      simp only [spec_Compiled.l0] at H
      have HC5 := Aside0.mk H
      clear H
      go_upto_region 3 with (fail)
      go_cut [22] (fun v22 wc => ∃ (kq : Nat) (x22_4 : Bool), v22 = .bool x22_4 ∧ Aside0 (spec_Compiled.j1 kq a0 x4_1 x5_1 t141 t142 t140 x9_1 x22_4 = some (r1, r2, r3, r4)) ∧ Aside0 (kq ≤ k1) ∧ Aside0 (Kd.R Kd.string 9 wc w.heap.size (fun _ => True) u5 x5_1) ∧ Aside0 (Kd.R k72 72 wc w.heap.size (fun _ => True) v143 t140) ∧ Aside0 (Below w.heap.size w wc))
      case first =>
        have H := HC5.out
        clear HC5
        by_cases c6 : x9_1 < (t140.length : Int)
        · rw [if_pos c6] at H
          have c6b0 : decide (x9_1 < (t140.length : Int)) = true := decide_eq_true c6
          clear c6
          (first | rw [c6b0] | (simp only [i64_w, i32_w]; rw [c6b0]) | skip)
          have H' := Aside0.mk H
          clear H
          obtain ⟨Ao7, co7, eo7⟩ := Kd.R_slice HO_8.out
          subst eo7
          go_wp2
          go_meet
          case rel => exact ⟨_, (t141), (by first | rfl | (simp; done) | (simp [*]; done)), H', ⟨by have := HK1.out; first | omega | exact Nat.le_refl _⟩, ⟨by (with_reducible repeat (first | apply Kd.R_alloc | apply Kd.R_drewN | apply Kd.R_drew)); exact HO_5.out⟩, ⟨by (with_reducible repeat (first | apply Kd.R_alloc | apply Kd.R_drewN | apply Kd.R_drew)); exact HO_8.out⟩, ⟨by repeat (first | (with_reducible first | exact HB.out | apply below_alloc | apply pw_below_drewN | apply below_drew1) | exact HB.out)⟩⟩
        · rw [if_neg c6] at H
          have c6b0 : decide (x9_1 < (t140.length : Int)) = false := decide_eq_false c6
          clear c6
          (first | rw [c6b0] | (simp only [i64_w, i32_w]; rw [c6b0]) | skip)
          have H' := Aside0.mk H
          clear H
          obtain ⟨Ao8, co8, eo8⟩ := Kd.R_slice HO_8.out
          subst eo8
          go_wp2
          go_meet
          case rel => exact ⟨_, (false), (by first | rfl | (simp; done) | (simp [*]; done)), H', ⟨by have := HK1.out; first | omega | exact Nat.le_refl _⟩, ⟨by (with_reducible repeat (first | apply Kd.R_alloc | apply Kd.R_drewN | apply Kd.R_drew)); exact HO_5.out⟩, ⟨by (with_reducible repeat (first | apply Kd.R_alloc | apply Kd.R_drewN | apply Kd.R_drew)); exact HO_8.out⟩, ⟨by repeat (first | (with_reducible first | exact HB.out | apply below_alloc | apply pw_below_drewN | apply below_drew1) | exact HB.out)⟩⟩
      case rest =>
        clear HC5
        try clear c2
        try clear p2
        try clear c5
        try clear c6
        try clear c6b0
        try clear p2
        obtain ⟨kq, x22_4, rfl, HA, HJ4, HO_5, HO_8, HB⟩ := hcut
        cases kq with
        | zero => exact absurd HA.out (by simp [spec_Compiled.j1])
        | succ kj4 =>
          have H := HA.out
          clear HA
          simp only [spec_Compiled.j1] at H
          by_cases c9 : x22_4 = true
          · subst c9
            have H1 : (if 0 ≤ x9_1 then (if x9_1 < (t140.length : Int) then (if ((rd_T72 t140 x9_1).f0 = true) then (if x5_1.length < 8796093022208 then ((some (x5_1 ++ [(rd_T72 t140 x9_1).f1] : List ByteArray)).bind fun y147 => ((spec_Mark.f kj4 a0 (y147.length : Int) ((rd_T72 t140 x9_1).f1)).bind fun t151 => (if x4_1.size + t151.size ≤ 9223372036854775807 then (spec_Compiled.l0 kj4 a0 (x4_1 ++ t151) y147 t141 t142 t140 (wrap64 (x9_1 + 1))) else (none)))) else (none)) else (if x4_1.size + ((rd_T72 t140 x9_1).f1).size ≤ 9223372036854775807 then (spec_Compiled.l0 kj4 a0 (x4_1 ++ ((rd_T72 t140 x9_1).f1)) x5_1 t141 t142 t140 (wrap64 (x9_1 + 1))) else (none))) else (none)) else (none)) = some (r1, r2, r3, r4) := by rw [if_pos rfl] at H; exact H
            clear H
            have H := H1
            clear H1
            by_cases c10 : 0 ≤ x9_1
            · rw [if_pos c10] at H
              have c10b0 : decide (0 ≤ x9_1) = true := decide_eq_true c10
              clear c10
              by_cases c11 : x9_1 < (t140.length : Int)
              · rw [if_pos c11] at H
                have c11b0 : decide (x9_1 < (t140.length : Int)) = true := decide_eq_true c11
                clear c11
                obtain ⟨bq12, hbq12⟩ : ∃ b_ : Bool, b_ = ((rd_T72 t140 x9_1).f0) := ⟨_, rfl⟩
                replace H : (if (bq12 = true) then (if x5_1.length < 8796093022208 then ((some (x5_1 ++ [(rd_T72 t140 x9_1).f1] : List ByteArray)).bind fun y147 => ((spec_Mark.f kj4 a0 (y147.length : Int) ((rd_T72 t140 x9_1).f1)).bind fun t151 => (if x4_1.size + t151.size ≤ 9223372036854775807 then (spec_Compiled.l0 kj4 a0 (x4_1 ++ t151) y147 t141 t142 t140 (wrap64 (x9_1 + 1))) else (none)))) else (none)) else (if x4_1.size + ((rd_T72 t140 x9_1).f1).size ≤ 9223372036854775807 then (spec_Compiled.l0 kj4 a0 (x4_1 ++ ((rd_T72 t140 x9_1).f1)) x5_1 t141 t142 t140 (wrap64 (x9_1 + 1))) else (none))) = some (r1, r2, r3, r4) := by rw [← hbq12] at H; exact H
                have Nbq12 := Aside0.mk hbq12
                clear hbq12
                by_cases c13 : (bq12 = true)
                · subst c13
                  have H1 : (if x5_1.length < 8796093022208 then ((some (x5_1 ++ [(rd_T72 t140 x9_1).f1] : List ByteArray)).bind fun y147 => ((spec_Mark.f kj4 a0 (y147.length : Int) ((rd_T72 t140 x9_1).f1)).bind fun t151 => (if x4_1.size + t151.size ≤ 9223372036854775807 then (spec_Compiled.l0 kj4 a0 (x4_1 ++ t151) y147 t141 t142 t140 (wrap64 (x9_1 + 1))) else (none)))) else (none)) = some (r1, r2, r3, r4) := by rw [if_pos rfl] at H; exact H
                  clear H
                  have H := H1
                  clear H1
                  by_cases c14 : x5_1.length < 8796093022208
                  · rw [if_pos c14] at H
                    have LMc14 := Aside0.mk c14
                    clear c14
                    obtain ⟨y147, hy147⟩ : ∃ y_ : List ByteArray, y_ = (x5_1 ++ [(rd_T72 t140 x9_1).f1]) := ⟨_, rfl⟩
                    replace H : ((spec_Mark.f kj4 a0 (y147.length : Int) ((rd_T72 t140 x9_1).f1)).bind fun t151 => (if x4_1.size + t151.size ≤ 9223372036854775807 then (spec_Compiled.l0 kj4 a0 (x4_1 ++ t151) y147 t141 t142 t140 (wrap64 (x9_1 + 1))) else (none))) = some (r1, r2, r3, r4) := by first | (rw [hy147]; with_reducible exact H) | (have H2_ := (Option.bind_some _ _).symm.trans H; rw [hy147]; with_reducible exact H2_) | (have H2_ := (Option.bind_some _ _).symm.trans H; with_reducible exact H2_) | with_reducible exact H | (rw [hy147]; exact H) | exact H
                    have Ny147 := Aside0.mk hy147
                    clear hy147
                    replace H := Option.bind_eq_some_iff.mp H
                    obtain ⟨t151, A150, H⟩ := H
                    replace H : (if x4_1.size + t151.size ≤ 9223372036854775807 then (spec_Compiled.l0 kj4 a0 (x4_1 ++ t151) y147 t141 t142 t140 (wrap64 (x9_1 + 1))) else (none)) = some (r1, r2, r3, r4) := H
                    have A15 := Aside0.mk A150
                    clear A150
                    by_cases c16 : x4_1.size + t151.size ≤ 9223372036854775807
                    · rw [if_pos c16] at H
                      have c16b0 := eq_true c16
                      have c16b1 : decide (x4_1.size + t151.size ≤ 9223372036854775807) = true := decide_eq_true c16
                      try have c16b2 : (9223372036854775807 < x4_1.size + t151.size) = False := eq_false (Nat.not_lt.2 c16)
                      have H' := Aside0.mk H
                      clear H
                      obtain ⟨Ao17, co17, eo17⟩ := Kd.R_slice HO_8.out
                      subst eo17
                      have p145 : 0 ≤ (x9_1 : Int) := of_decide_eq_true (by first | (with_reducible assumption) | assumption)
                      have q145 : x9_1 < (t140.length : Int) := of_decide_eq_true (by first | (with_reducible assumption) | assumption)
                      obtain ⟨ad145, e145, hx145_0, hx145_1⟩ := at_T72 (Kd.R_reads' HO_8.out).2.2 x9_1 p145 q145
                      (try rw [← Nbq12.out] at hx145_0)
                      cases e145
                      replace p145 := eq_true p145
                      replace q145 := eq_true q145
                      have p146 : 0 ≤ (x9_1 : Int) := of_decide_eq_true (by first | (with_reducible assumption) | assumption)
                      have q146 : x9_1 < (t140.length : Int) := of_decide_eq_true (by first | (with_reducible assumption) | assumption)
                      obtain ⟨ad146, e146, hx146_0, hx146_1⟩ := at_T72 (Kd.R_reads' HO_8.out).2.2 x9_1 p146 q146
                      (try rw [← Nbq12.out] at hx146_0)
                      obtain rfl : ad145 = ad146 := (by injection e146)
                      replace p146 := eq_true p146
                      replace q146 := eq_true q146
                      go_wp2_with (first | ((with_reducible refine gate_builtin (b := .append) (xs := #[.tmp 38, .tmp 44]) rfl ?_); at_builtin; refine Kd.R_append Kd.string (w0 := w) w.heap.size rfl (.tmp 38) (.tmp 44) 30 9 (.string ⟨#[]⟩) 16 rfl Tryd.underlying30 info9 rfl (by decide) (by omega) u5 x5_1 ((rd_T72 t140 x9_1).f1) [.string ((rd_T72 t140 x9_1).f1)] (fun _ => True) (fun _ => False) rfl rfl ?aP (fun _ hk => hk.elim) ?aF ?aO ?aB ?aS ?aL ?_; (case aP => exact rfl); (case aB => exact (by repeat (first | (with_reducible first | exact HB.out | apply below_alloc | apply pw_below_drewN | apply below_drew1) | exact HB.out))); (case aF => exact (fun _ _ => trivial)); (case aO => exact (by (with_reducible repeat (first | apply Kd.R_alloc | apply Kd.R_drewN | apply Kd.R_drew)); exact HO_5.out)); (case aS => exact (below_size (by repeat (first | (with_reducible first | exact HB.out | apply below_alloc | apply pw_below_drewN | apply below_drew1) | exact HB.out)))); (case aL => have := LMc14.out; omega); intro v148 w18 ho hb hg hat; rw [← Ny147.out] at ho; have n0_ := Aside0.mk (Kd.R_over' (by (with_reducible repeat (first | apply Kd.R_alloc | apply Kd.R_drewN | apply Kd.R_drew)); exact HO_8.out) (Kd.R_typed (by (with_reducible repeat (first | apply Kd.R_alloc | apply Kd.R_drewN | apply Kd.R_drew)); exact HO_5.out)) (by decide) hg); have n1_ := Aside0.mk (hb); have n2_ := Aside0.mk (ho); clear HO_8; clear HB; clear HO_5; have HO_8 := n0_; have HB := n1_; have HO149 := n2_; clear n0_ n1_ n2_; clear ho hb hg hat; obtain ⟨Ao19, co19, eo19⟩ := Kd.R_slice HO149.out; subst eo19; have p150 : 0 ≤ (x9_1 : Int) := of_decide_eq_true (by first | (with_reducible assumption) | assumption); have q150 : x9_1 < (t140.length : Int) := of_decide_eq_true (by first | (with_reducible assumption) | assumption); obtain ⟨ad150, e150, hx150_0, hx150_1⟩ := at_T72 (Kd.R_reads' HO_8.out).2.2 x9_1 p150 q150; (try rw [← Nbq12.out] at hx150_0); obtain rfl : ad145 = ad150 := (by injection e150); replace p150 := eq_true p150; replace q150 := eq_true q150) | ((with_reducible refine gate_callee (f := 32) rfl ?_); refine goesL_ (some 55) rfl rfl Tryd.func32 (by kernel_rfl) rfl #[.int .i64 a0, .int .i64 (y147.length : Int), .string ((rd_T72 t140 x9_1).f1)] rfl (by (try simp only [List.map_toArray, List.map_cons, List.map_nil]); first | done | rfl | (simp only [List.length_drop, List.length_take]; rfl)) ?_; (with_reducible refine (spec_Mark.calls kj4 a0 (y147.length : Int) ((rd_T72 t140 x9_1).f1) t151 _ A15.out).mono ?_); rintro e w20 ⟨rfl, hb⟩; refine ⟨_, rfl, ?_⟩; have n0_ := Aside0.mk (Kd.R_below (by (with_reducible repeat (first | apply Kd.R_alloc | apply Kd.R_drewN | apply Kd.R_drew)); exact HO_8.out) hb); have n1_ := Aside0.mk (Kd.R_below (by (with_reducible repeat (first | apply Kd.R_alloc | apply Kd.R_drewN | apply Kd.R_drew)); exact HO149.out) hb); have n2_ := Aside0.mk (below_step (by repeat (first | (with_reducible first | exact HB.out | apply below_alloc | apply pw_below_drewN | apply below_drew1) | exact HB.out)) hb); clear HO_8; clear HO149; clear HB; have HO_8 := n0_; have HO149 := n1_; have HB := n2_; clear n0_ n1_ n2_; (try clear hb); (try clear hb2); (try clear hk); (try clear hi)))
                      go_roundg kj4
                      case measure => have := HK1.out; have := HJ4.out; omega
                      case rel => exact ⟨(x4_1 ++ t151), (y147), (wrap64 (x9_1 + 1)), (by first | rfl | (simp; done) | (simp [*]; done)), (by first | rfl | (simp; done) | (simp [*]; done)), H', ⟨by have := HK1.out; have := HJ4.out; omega⟩, ⟨by (with_reducible repeat (first | apply Kd.R_alloc | apply Kd.R_drewN | apply Kd.R_drew)); exact HO149.out⟩, ⟨by (with_reducible repeat (first | apply Kd.R_alloc | apply Kd.R_drewN | apply Kd.R_drew)); exact HO_8.out⟩, ⟨by repeat (first | (with_reducible first | exact HB.out | apply below_alloc | apply pw_below_drewN | apply below_drew1) | exact HB.out)⟩⟩
                    · rw [if_neg c16] at H
                      exact absurd H (by simp)
                  · rw [if_neg c14] at H
                    exact absurd H (by simp)
                · replace c13 := Bool.eq_false_iff.mpr c13
                  subst c13
                  have H1 : (if x4_1.size + ((rd_T72 t140 x9_1).f1).size ≤ 9223372036854775807 then (spec_Compiled.l0 kj4 a0 (x4_1 ++ ((rd_T72 t140 x9_1).f1)) x5_1 t141 t142 t140 (wrap64 (x9_1 + 1))) else (none)) = some (r1, r2, r3, r4) := by rw [if_neg (show ¬ (false = true) by decide)] at H; exact H
                  clear H
                  have H := H1
                  clear H1
                  by_cases c21 : x4_1.size + ((rd_T72 t140 x9_1).f1).size ≤ 9223372036854775807
                  · rw [if_pos c21] at H
                    have c21b0 := eq_true c21
                    have c21b1 : decide (x4_1.size + ((rd_T72 t140 x9_1).f1).size ≤ 9223372036854775807) = true := decide_eq_true c21
                    try have c21b2 : (9223372036854775807 < x4_1.size + ((rd_T72 t140 x9_1).f1).size) = False := eq_false (Nat.not_lt.2 c21)
                    have H' := Aside0.mk H
                    clear H
                    obtain ⟨Ao22, co22, eo22⟩ := Kd.R_slice HO_8.out
                    subst eo22
                    have p145 : 0 ≤ (x9_1 : Int) := of_decide_eq_true (by first | (with_reducible assumption) | assumption)
                    have q145 : x9_1 < (t140.length : Int) := of_decide_eq_true (by first | (with_reducible assumption) | assumption)
                    obtain ⟨ad145, e145, hx145_0, hx145_1⟩ := at_T72 (Kd.R_reads' HO_8.out).2.2 x9_1 p145 q145
                    (try rw [← Nbq12.out] at hx145_0)
                    cases e145
                    replace p145 := eq_true p145
                    replace q145 := eq_true q145
                    have p152 : 0 ≤ (x9_1 : Int) := of_decide_eq_true (by first | (with_reducible assumption) | assumption)
                    have q152 : x9_1 < (t140.length : Int) := of_decide_eq_true (by first | (with_reducible assumption) | assumption)
                    obtain ⟨ad152, e152, hx152_0, hx152_1⟩ := at_T72 (Kd.R_reads' HO_8.out).2.2 x9_1 p152 q152
                    (try rw [← Nbq12.out] at hx152_0)
                    obtain rfl : ad145 = ad152 := (by injection e152)
                    replace p152 := eq_true p152
                    replace q152 := eq_true q152
                    go_wp2
                    go_roundg kj4
                    case measure => have := HK1.out; have := HJ4.out; omega
                    case rel => exact ⟨(x4_1 ++ ((rd_T72 t140 x9_1).f1)), (x5_1), (wrap64 (x9_1 + 1)), (by first | rfl | (simp; done) | (simp [*]; done)), (by first | rfl | (simp; done) | (simp [*]; done)), H', ⟨by have := HK1.out; have := HJ4.out; omega⟩, ⟨by (with_reducible repeat (first | apply Kd.R_alloc | apply Kd.R_drewN | apply Kd.R_drew)); exact HO_5.out⟩, ⟨by (with_reducible repeat (first | apply Kd.R_alloc | apply Kd.R_drewN | apply Kd.R_drew)); exact HO_8.out⟩, ⟨by repeat (first | (with_reducible first | exact HB.out | apply below_alloc | apply pw_below_drewN | apply below_drew1) | exact HB.out)⟩⟩
                  · rw [if_neg c21] at H
                    exact absurd H (by simp)
              · rw [if_neg c11] at H
                exact absurd H (by simp)
            · rw [if_neg c10] at H
              exact absurd H (by simp)
          · replace c9 := Bool.eq_false_iff.mpr c9
            subst c9
            have H1 : (if t141 = true then (some (x4_1, x5_1, true, t142)) else (some ((⟨#[]⟩ : ByteArray), ([] : List ByteArray), false, t142))) = some (r1, r2, r3, r4) := by rw [if_neg (show ¬ (false = true) by decide)] at H; exact H
            clear H
            have H := H1
            clear H1
            by_cases c23 : t141 = true
            · subst c23
              have H1 : (some (x4_1, x5_1, true, t142)) = some (r1, r2, r3, r4) := by rw [if_pos rfl] at H; exact H
              clear H
              have H := H1
              clear H1
              simp only [Option.some.injEq, Prod.mk.injEq] at H
              obtain ⟨rfl, rfl, rfl, rfl⟩ := H
              go_wp2
              refine bodyPost_ret (results_list (rs := [.tmp 4, .tmp 5, .tmp 6, .tmp 7]) rfl (by simp) (.tmp (.tmp (.tmp (.tmp .nil))))) rfl ?_
              exact ⟨_, by first | rfl | (simp [errW_none, errW_some] <;> rfl) | (simp [*, errW_none, errW_some] <;> rfl), by (with_reducible repeat (first | apply Kd.R_alloc | apply Kd.R_drewN | apply Kd.R_drew)); exact HO_5.out, by repeat (first | (with_reducible first | exact HB.out | apply below_alloc | apply pw_below_drewN | apply below_drew1) | exact HB.out)⟩
            · replace c23 := Bool.eq_false_iff.mpr c23
              subst c23
              have H1 : (some ((⟨#[]⟩ : ByteArray), ([] : List ByteArray), false, t142)) = some (r1, r2, r3, r4) := by rw [if_neg (show ¬ (false = true) by decide)] at H; exact H
              clear H
              have H := H1
              clear H1
              simp only [Option.some.injEq, Prod.mk.injEq] at H
              obtain ⟨rfl, rfl, rfl, rfl⟩ := H
              go_wp2
              refine bodyPost_ret (results_list (rs := [.tmp 4, .tmp 5, .tmp 6, .tmp 7]) rfl (by simp) (.tmp (.tmp (.tmp (.tmp .nil))))) rfl ?_
              exact ⟨_, by first | rfl | (simp [errW_none, errW_some] <;> rfl) | (simp [*, errW_none, errW_some] <;> rfl), by first | exact Kd.R_nil _ _ _ _ _ | exact Kd.N_nil _ _ _ _ _ | exact Kd.V_nil _ _ _ _ _ | exact Kd.Q_nil _ _ _ _ _ | exact Kd.S_nil _ _ _ _ _, by repeat (first | (with_reducible first | exact HB.out | apply below_alloc | apply pw_below_drewN | apply below_drew1) | exact HB.out)⟩

end Go.Proofs.YtnmhoghmhglimaaDoor.QN
-- WRITTEN BY A PROGRAM OF THIS SESSION (wip/print2.py): the print, with contracts of this session's own let in. Not trusted: Lean checks it.
namespace Go.Proofs.YtnmhoghmhglimaaDoor.QN
open Go.RowKit Go.Proofs.YtnmhoghmhglimaaDoorW.PrintWords Go.Proofs.YtnmhoghmhglimaaDoorW.PrintLast Go.Proofs.YtnmhoghmhglimaaDoorW.PrintMore
attribute [local go_sem] max2_int min2_int max_two min_two max_three min_three max_four min_four   -- for this text's walks alone
set_option linter.unusedVariables false
set_option linter.unusedSimpArgs false

/-! ### spec_NamedOf: function 35 -/
def spec_NamedOf.j0 : Nat → List (S54) → ByteArray → Bool → List ByteArray → Bool → Option (ByteArray × (List (S52)) × Bool × Bool)
  | 0, _, _, _, _, _ => none
  | k + 1, x2, x6, x9, x10, x24 => if x24 = true then (some ((⟨#[]⟩ : ByteArray), ([] : List (S52)), false, x9)) else ((spec_ValuesOf.f k x10 x2).bind fun bt165 => (if bt165.2 = true then (some (x6, bt165.1, true, true)) else (some ((⟨#[]⟩ : ByteArray), ([] : List (S52)), false, true))))
def spec_NamedOf.f (k : Nat) (a0 : Int) (a1 : ByteArray) (l2 : List (S54)) : Option (ByteArray × (List (S52)) × Bool × Bool) := (spec_Compiled.f k a0 a1).bind fun bt159 => (if bt159.2.2.1 = true then (spec_NamedOf.j0 k l2 bt159.1 bt159.2.2.2 bt159.2.1 (!bt159.2.2.2)) else (spec_NamedOf.j0 k l2 bt159.1 bt159.2.2.2 bt159.2.1 true))
-- BY HAND: function 36 (impl_NamedOf)

-- BY HAND: function 37 (spec_EqualValues)

end Go.Proofs.YtnmhoghmhglimaaDoor.QN
