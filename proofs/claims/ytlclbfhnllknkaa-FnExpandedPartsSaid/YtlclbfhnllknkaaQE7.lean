-- WRITTEN BY A PROGRAM OF THIS SESSION (wip/print2.py): the print, with contracts of this session's own let in. Not trusted: Lean checks it.
import Derived.Test.YtlclbfhnllknkaaQE0
namespace Go.Proofs.Ytlclbfhnllknkaa.QE
open Go.RowKit Go.Proofs.YtlclbfhnllknkaaW.PrintWords Go.Proofs.YtlclbfhnllknkaaW.PrintLast Go.Proofs.YtlclbfhnllknkaaW.PrintMore
attribute [local go_sem] max2_int min2_int max_two min_two max_three min_three max_four min_four   -- for this text's walks alone
set_option linter.unusedVariables false
set_option linter.unusedSimpArgs false

/-! ### spec_Expanded: function 13 -/
mutual
def spec_Expanded.l0 : Nat → ByteArray → List (S37) → ByteArray → List (S37) → Bool → Int → Option (ByteArray × (List (S37)) × Bool)
  | 0, _, _, _, _, _, _ => none
  | k + 1, x0, x1, x4, x5, x7, x8 => if x8 < (x1.length : Int) then (if x7 = true then (if 0 ≤ x8 then (if ((rd_T37 x1 x8).f0) = 5 then (if (((rd_T37 x1 x8).f3).length : Int) = 0 then (some ((⟨#[]⟩ : ByteArray), ([] : List (S37)), false)) else (spec_Expanded.l0 k x0 x1 x4 x5 true (wrap64 (x8 + 1)))) else (spec_Expanded.l0 k x0 x1 x4 x5 true (wrap64 (x8 + 1)))) else (none)) else (if 0 ≤ x8 then (if ((rd_T37 x1 x8).f0) = 5 then (if (((rd_T37 x1 x8).f3).length : Int) = 0 then (some ((⟨#[]⟩ : ByteArray), ([] : List (S37)), false)) else (spec_Expanded.l0 k x0 x1 x4 x5 (((rd_T37 x1 x8).f0) == 5) (wrap64 (x8 + 1)))) else (spec_Expanded.l0 k x0 x1 x4 x5 (((rd_T37 x1 x8).f0) == 5) (wrap64 (x8 + 1)))) else (none))) else (if x7 = true then (spec_Expanded.l1 k x0 x1 x4 x5 0 0) else (some (x0, x1, true)))
def spec_Expanded.l1 : Nat → ByteArray → List (S37) → ByteArray → List (S37) → Int → Int → Option (ByteArray × (List (S37)) × Bool)
  | 0, _, _, _, _, _, _ => none
  | k + 1, x0, x1, x4, x5, x9, x10 => if x10 < (x0.size : Int) then (if 0 ≤ x10 then (if (bt x0 x10) = 63 then (if x9 ≥ (x1.length : Int) then (some ((⟨#[]⟩ : ByteArray), ([] : List (S37)), false)) else (if 0 ≤ x9 then (if x9 < (x1.length : Int) then (if ((rd_T37 x1 x9).f0) = 5 then (spec_Expanded.l2 k x0 x1 x4 x5 x9 x10 0) else (if x4.size + 1 ≤ 9223372036854775807 then (if x5.length < 2513169434916 then (spec_Expanded.l1 k x0 x1 (x4 ++ (⟨#[63]⟩ : ByteArray)) (x5 ++ [(⟨(rd_T37 x1 x9).f0, (rd_T37 x1 x9).f1, (rd_T37 x1 x9).f2, (rd_T37 x1 x9).f3⟩ : S37)]) (wrap64 (x9 + 1)) (wrap64 (x10 + 1))) else (none)) else (none))) else (none)) else (none))) else (if x10 ≤ (wrap64 (x10 + 1)) then (if (wrap64 (x10 + 1)) ≤ (x0.size : Int) then (if x4.size + (x0.extract (x10 : Int).toNat ((wrap64 (x10 + 1)) : Int).toNat).size ≤ 9223372036854775807 then (spec_Expanded.l1 k x0 x1 (x4 ++ (x0.extract (x10 : Int).toNat ((wrap64 (x10 + 1)) : Int).toNat)) x5 x9 (wrap64 (x10 + 1))) else (none)) else (none)) else (none))) else (none)) else (if x9 < (x1.length : Int) then (some ((⟨#[]⟩ : ByteArray), ([] : List (S37)), false)) else (some (x4, x5, true)))
def spec_Expanded.l2 : Nat → ByteArray → List (S37) → ByteArray → List (S37) → Int → Int → Int → Option (ByteArray × (List (S37)) × Bool)
  | 0, _, _, _, _, _, _, _ => none
  | k + 1, x0, x1, x4, x5, x9, x10, x11 => if 0 ≤ x9 then (if x9 < (x1.length : Int) then (if x11 < (((rd_T37 x1 x9).f3).length : Int) then (if x11 > 0 then (if x4.size + 2 ≤ 9223372036854775807 then (if (x4 ++ (⟨#[44, 32]⟩ : ByteArray)).size + 1 ≤ 9223372036854775807 then (spec_Expanded.l2 k x0 x1 ((x4 ++ (⟨#[44, 32]⟩ : ByteArray)) ++ (⟨#[63]⟩ : ByteArray)) x5 x9 x10 (wrap64 (x11 + 1))) else (none)) else (none)) else (if x4.size + 1 ≤ 9223372036854775807 then (spec_Expanded.l2 k x0 x1 (x4 ++ (⟨#[63]⟩ : ByteArray)) x5 x9 x10 (wrap64 (x11 + 1))) else (none))) else (if x5.length + ((rd_T37 x1 x9).f3).length < 2513169434916 then (spec_Expanded.l1 k x0 x1 x4 (x5 ++ ((rd_T37 x1 x9).f3)) (wrap64 (x9 + 1)) (wrap64 (x10 + 1))) else (none))) else (none)) else (none)
end
def spec_Expanded.f (k : Nat) (a0 : ByteArray) (l1 : List (S37)) : Option (ByteArray × (List (S37)) × Bool) := spec_Expanded.l0 k a0 l1 (⟨#[]⟩ : ByteArray) ([] : List (S37)) false 0
theorem spec_Expanded.mono_l : ∀ k, (∀ y0 y1 y2 y3 y4 y5, LeO (spec_Expanded.l0 k y0 y1 y2 y3 y4 y5) (spec_Expanded.l0 (k + 1) y0 y1 y2 y3 y4 y5)) ∧ (∀ y0 y1 y2 y3 y4 y5, LeO (spec_Expanded.l1 k y0 y1 y2 y3 y4 y5) (spec_Expanded.l1 (k + 1) y0 y1 y2 y3 y4 y5)) ∧ (∀ y0 y1 y2 y3 y4 y5 y6, LeO (spec_Expanded.l2 k y0 y1 y2 y3 y4 y5 y6) (spec_Expanded.l2 (k + 1) y0 y1 y2 y3 y4 y5 y6))
  | 0 => ⟨fun _ _ _ _ _ _ r h => by simp [spec_Expanded.l0] at h, fun _ _ _ _ _ _ r h => by simp [spec_Expanded.l1] at h, fun _ _ _ _ _ _ _ r h => by simp [spec_Expanded.l2] at h⟩
  | k + 1 => by
    obtain ⟨ih0, ih1, ih2⟩ := spec_Expanded.mono_l k
    refine ⟨?_, ?_, ?_⟩
    · intro y0 y1 y2 y3 y4 y5
      unfold spec_Expanded.l0
      repeat' first
      | (with_reducible exact ih0 _ _ _ _ _ _)
      | (with_reducible exact ih1 _ _ _ _ _ _)
      | (with_reducible exact ih2 _ _ _ _ _ _ _)
      | (with_reducible exact LeO.refl _)
      | (with_reducible exact LeO.none _)
      | (with_reducible refine LeO.ite ?_ ?_)
      | (with_reducible refine LeO.bind ?_ (fun _ => ?_))
      | exact ih0 _ _ _ _ _ _
      | exact ih1 _ _ _ _ _ _
      | exact ih2 _ _ _ _ _ _ _
      | exact LeO.none _
      | refine LeO.ite ?_ ?_
      | refine LeO.bind ?_ (fun _ => ?_)
    · intro y0 y1 y2 y3 y4 y5
      unfold spec_Expanded.l1
      repeat' first
      | (with_reducible exact ih0 _ _ _ _ _ _)
      | (with_reducible exact ih1 _ _ _ _ _ _)
      | (with_reducible exact ih2 _ _ _ _ _ _ _)
      | (with_reducible exact LeO.refl _)
      | (with_reducible exact LeO.none _)
      | (with_reducible refine LeO.ite ?_ ?_)
      | (with_reducible refine LeO.bind ?_ (fun _ => ?_))
      | exact ih0 _ _ _ _ _ _
      | exact ih1 _ _ _ _ _ _
      | exact ih2 _ _ _ _ _ _ _
      | exact LeO.none _
      | refine LeO.ite ?_ ?_
      | refine LeO.bind ?_ (fun _ => ?_)
    · intro y0 y1 y2 y3 y4 y5 y6
      unfold spec_Expanded.l2
      repeat' first
      | (with_reducible exact ih0 _ _ _ _ _ _)
      | (with_reducible exact ih1 _ _ _ _ _ _)
      | (with_reducible exact ih2 _ _ _ _ _ _ _)
      | (with_reducible exact LeO.refl _)
      | (with_reducible exact LeO.none _)
      | (with_reducible refine LeO.ite ?_ ?_)
      | (with_reducible refine LeO.bind ?_ (fun _ => ?_))
      | exact ih0 _ _ _ _ _ _
      | exact ih1 _ _ _ _ _ _
      | exact ih2 _ _ _ _ _ _ _
      | exact LeO.none _
      | refine LeO.ite ?_ ?_
      | refine LeO.bind ?_ (fun _ => ?_)
theorem spec_Expanded.mono : ∀ a0 a1 k, LeO (spec_Expanded.f k a0 a1) (spec_Expanded.f (k + 1) a0 a1) := by
  intro a0 a1 k
  obtain ⟨ih0, ih1, ih2⟩ := spec_Expanded.mono_l k
  unfold spec_Expanded.f
  repeat' first
      | (with_reducible exact ih0 _ _ _ _ _ _)
      | (with_reducible exact ih1 _ _ _ _ _ _)
      | (with_reducible exact ih2 _ _ _ _ _ _ _)
      | (with_reducible exact LeO.refl _)
      | (with_reducible exact LeO.none _)
      | (with_reducible refine LeO.ite ?_ ?_)
      | (with_reducible refine LeO.bind ?_ (fun _ => ?_))
      | exact ih0 _ _ _ _ _ _
      | exact ih1 _ _ _ _ _ _
      | exact ih2 _ _ _ _ _ _ _
      | exact LeO.none _
      | refine LeO.ite ?_ ?_
      | refine LeO.bind ?_ (fun _ => ?_)
set_option maxHeartbeats 8000000 in
set_option maxRecDepth 100000 in
theorem spec_Expanded.calls (k : Nat) (a0 : ByteArray) (P1_ : Nat → Prop) (A1 : Option Addr) (c1 : Nat) (l1 : List (S37)) (r1 : ByteArray) (r2 : List (S37)) (r3 : Bool) (w : World) (hs1 : Kd.V k37 37 w w.heap.size (fun k_ => P1_ k_) (.slice A1 l1.length c1) l1) (h : spec_Expanded.f k a0 l1 = some (r1, r2, r3)) :
    Calls Try.prog 13 #[.string a0, .slice A1 l1.length c1] w fun e w' => ∃ v1_ : Value, e = .returned (.tuple #[.string r1, v1_, .bool r3]) ∧ Kd.V k37 37 w' w.heap.size (fun k_ => (P1_ k_ ∨ w.heap.size ≤ k_)) v1_ r2 ∧ Below w.heap.size w w' := by
  have hu37 := Try.underlying37
  have HO1 := Aside0.mk (show Kd.V k37 37 w w.heap.size (fun k_ => (P1_ k_ ∨ w.heap.size ≤ k_)) (.slice A1 l1.length c1) l1 from Kd.V_mono hs1 (fun k_ hk => .inl hk))
  have HB := Aside0.mk (Below.refl w.heap.size w)
  have H : (spec_Expanded.l0 k a0 l1 (⟨#[]⟩ : ByteArray) ([] : List (S37)) false 0) = some (r1, r2, r3) := h
  clear h
  have H' := Aside0.mk H
  clear H
  go_enter Try.func13, Try.ntmps13
  go_wp2
  go_loopg [4, 5, 7, 8] k (fun kq v4 v5 v7 v8 w' => ∃ (x4_1 : ByteArray) (x5_1 : List (S37)) (x7_1 : Bool) (x8_1 : Int), v4 = .string x4_1 ∧ v7 = .bool x7_1 ∧ v8 = .int .i64 x8_1 ∧ Aside0 (spec_Expanded.l0 kq a0 l1 x4_1 x5_1 x7_1 x8_1 = some (r1, r2, r3)) ∧ Aside0 (kq ≤ k) ∧ Aside0 (Kd.V k37 37 w' w.heap.size (fun k_ => (P1_ k_ ∨ w.heap.size ≤ k_) ∧ some k_ ≠ (v5 : Value).ownBlock) (.slice A1 l1.length c1) l1) ∧ Aside0 (Kd.N k37 37 w' w.heap.size (fun k_ => (P1_ k_ ∨ w.heap.size ≤ k_)) v5 x5_1) ∧ Aside0 (Below w.heap.size w w'))
  case atStart => exact ⟨((⟨#[]⟩ : ByteArray)), (([] : List (S37))), (false), (0), (by first | rfl | (simp; done) | (simp [*]; done)), (by first | rfl | (simp; done) | (simp [*]; done)), (by first | rfl | (simp; done) | (simp [*]; done)), H', ⟨Nat.le_refl _⟩, ⟨by (with_reducible repeat (first | apply Kd.V_alloc | apply Kd.V_drewN | apply Kd.V_drew)); exact Kd.V_mono HO1.out (fun _ hk => ⟨hk, (by simp [Value.ownBlock])⟩)⟩, ⟨by first | exact Kd.R_nil _ _ _ _ _ | exact Kd.N_nil _ _ _ _ _ | exact Kd.V_nil _ _ _ _ _ | exact Kd.Q_nil _ _ _ _ _ | exact Kd.S_nil _ _ _ _ _⟩, ⟨by repeat (first | (with_reducible first | exact HB.out | apply below_alloc | apply pw_below_drewN | apply below_drew1) | exact HB.out)⟩⟩
  case round =>
    clear H'
    try clear c1
    try clear p2
    obtain ⟨x4_1, x5_1, x7_1, x8_1, rfl, rfl, rfl, HA, HK1, HO_1, HO_5, HB⟩ := hrel
    cases gk with
    | zero => exact absurd HA.out (by simp [spec_Expanded.l0])
    | succ k1 =>
      have H := HA.out
      clear HA
      simp only [spec_Expanded.l0] at H
      by_cases c3 : x8_1 < (l1.length : Int)
      · rw [if_pos c3] at H
        have c3b0 : decide (x8_1 < (l1.length : Int)) = true := decide_eq_true c3
        clear c3
        by_cases c4 : x7_1 = true
        · subst c4
          have H1 : (if 0 ≤ x8_1 then (if ((rd_T37 l1 x8_1).f0) = 5 then (if (((rd_T37 l1 x8_1).f3).length : Int) = 0 then (some ((⟨#[]⟩ : ByteArray), ([] : List (S37)), false)) else (spec_Expanded.l0 k1 a0 l1 x4_1 x5_1 true (wrap64 (x8_1 + 1)))) else (spec_Expanded.l0 k1 a0 l1 x4_1 x5_1 true (wrap64 (x8_1 + 1)))) else (none)) = some (r1, r2, r3) := by rw [if_pos rfl] at H; exact H
          clear H
          have H := H1
          clear H1
          by_cases c5 : 0 ≤ x8_1
          · rw [if_pos c5] at H
            have c5b0 : decide (0 ≤ x8_1) = true := decide_eq_true c5
            clear c5
            by_cases c6 : ((rd_T37 l1 x8_1).f0) = 5
            · rw [if_pos c6] at H
              have c6b0 : (((rd_T37 l1 x8_1).f0) == 5) = true := beq_iff_eq.mpr c6
              have c6b1 : (((rd_T37 l1 x8_1).f0) != 5) = false := bne_eq_false_iff_eq.mpr c6
              clear c6
              by_cases c7 : (((rd_T37 l1 x8_1).f3).length : Int) = 0
              · rw [if_pos c7] at H
                have c7b0 : ((((rd_T37 l1 x8_1).f3).length : Int) == 0) = true := beq_iff_eq.mpr c7
                have c7b1 : ((((rd_T37 l1 x8_1).f3).length : Int) != 0) = false := bne_eq_false_iff_eq.mpr c7
                clear c7
                simp only [Option.some.injEq, Prod.mk.injEq] at H
                obtain ⟨rfl, rfl, rfl⟩ := H
                have p132 : 0 ≤ (x8_1 : Int) := of_decide_eq_true (by first | (with_reducible assumption) | assumption)
                have q132 : x8_1 < (l1.length : Int) := of_decide_eq_true (by first | (with_reducible assumption) | assumption)
                obtain ⟨ad132, A132_3, c132_3, e132, hx132_0, hx132_1, hx132_2, hx132_3, hl132_3, hi132_3⟩ := at_T37 (Kd.V_reads' HO_1.out).2.2 x8_1 p132 q132
                cases e132
                obtain ⟨ce132, hce132, hMe132, hcc132⟩ := Kd.V_get HO_1.out z37 x8_1 p132 (by first | exact q132 | exact of_decide_eq_true (by first | (with_reducible assumption) | assumption) | (have e_ := (Kd.V_reads' HO_1.out).1; omega))
                obtain ⟨ua132_3, uc132_3, rfl, ul132_3, ge132_3⟩ := k37_openF hMe132
                have hv132_3 := hcc132 3 _ rfl
                rw [add_field _ _ 3 (by omega)] at hv132_3
                replace hv132_3 := Option.some.inj (hv132_3.symm.trans hx132_3)
                injection hv132_3 with hva_ hvn_ hvc_
                rw [hva_] at ge132_3
                rw [hvc_] at ul132_3
                have HL132_3 := Aside0.mk (show Kd.V k37 37 _ w.heap.size _ _ ((rd_T37 l1 x8_1).f3) from Kd.V_mk ul132_3 ge132_3)
                clear hva_ hvn_ hvc_ ge132_3 ul132_3
                clear hcc132 hce132
                have HR132_3 := Aside0.mk hi132_3
                have HC132_3 := Aside0.mk hl132_3
                clear hi132_3 hl132_3
                replace p132 := eq_true p132
                replace q132 := eq_true q132
                have p133 : 0 ≤ (x8_1 : Int) := of_decide_eq_true (by first | (with_reducible assumption) | assumption)
                have q133 : x8_1 < (l1.length : Int) := of_decide_eq_true (by first | (with_reducible assumption) | assumption)
                obtain ⟨ad133, A133_3, c133_3, e133, hx133_0, hx133_1, hx133_2, hx133_3, hl133_3, hi133_3⟩ := at_T37 (Kd.V_reads' HO_1.out).2.2 x8_1 p133 q133
                obtain rfl : ad132 = ad133 := (by injection e133)
                obtain ⟨ce133, hce133, hMe133, hcc133⟩ := Kd.V_get HO_1.out z37 x8_1 p133 (by first | exact q133 | exact of_decide_eq_true (by first | (with_reducible assumption) | assumption) | (have e_ := (Kd.V_reads' HO_1.out).1; omega))
                obtain ⟨ua133_3, uc133_3, rfl, ul133_3, ge133_3⟩ := k37_openF hMe133
                have hv133_3 := hcc133 3 _ rfl
                rw [add_field _ _ 3 (by omega)] at hv133_3
                replace hv133_3 := Option.some.inj (hv133_3.symm.trans hx133_3)
                injection hv133_3 with hva_ hvn_ hvc_
                rw [hva_] at ge133_3
                rw [hvc_] at ul133_3
                have HL133_3 := Aside0.mk (show Kd.V k37 37 _ w.heap.size _ _ ((rd_T37 l1 x8_1).f3) from Kd.V_mk ul133_3 ge133_3)
                clear hva_ hvn_ hvc_ ge133_3 ul133_3
                clear hcc133 hce133
                have HR133_3 := Aside0.mk hi133_3
                have HC133_3 := Aside0.mk hl133_3
                clear hi133_3 hl133_3
                replace p133 := eq_true p133
                replace q133 := eq_true q133
                have ea_ := Option.some.inj (hx132_3.symm.trans hx133_3)
                injection ea_ with ea_ en_ ec_
                subst ea_
                subst ec_
                clear en_
                go_wp2
                go_ret3
                exact ⟨_, by first | rfl | (simp [errW_none, errW_some] <;> rfl) | (simp [*, errW_none, errW_some] <;> rfl), (by first | exact Kd.V_nil _ _ _ _ _ | exact Kd.N_V (Kd.N_nil _ _ _ _ _)), by repeat (first | (with_reducible first | exact HB.out | apply below_alloc | apply pw_below_drewN | apply below_drew1) | exact HB.out)⟩
              · rw [if_neg c7] at H
                have c7b0 : ((((rd_T37 l1 x8_1).f3).length : Int) == 0) = false := beq_eq_false_iff_ne.mpr c7
                have c7b1 : ((((rd_T37 l1 x8_1).f3).length : Int) != 0) = true := bne_iff_ne.mpr c7
                have c7b2 : ¬ (((rd_T37 l1 x8_1).f3) = []) := fun h_ => c7 (by rw [h_]; rfl)
                have H' := Aside0.mk H
                clear H
                have p132 : 0 ≤ (x8_1 : Int) := of_decide_eq_true (by first | (with_reducible assumption) | assumption)
                have q132 : x8_1 < (l1.length : Int) := of_decide_eq_true (by first | (with_reducible assumption) | assumption)
                obtain ⟨ad132, A132_3, c132_3, e132, hx132_0, hx132_1, hx132_2, hx132_3, hl132_3, hi132_3⟩ := at_T37 (Kd.V_reads' HO_1.out).2.2 x8_1 p132 q132
                cases e132
                obtain ⟨ce132, hce132, hMe132, hcc132⟩ := Kd.V_get HO_1.out z37 x8_1 p132 (by first | exact q132 | exact of_decide_eq_true (by first | (with_reducible assumption) | assumption) | (have e_ := (Kd.V_reads' HO_1.out).1; omega))
                obtain ⟨ua132_3, uc132_3, rfl, ul132_3, ge132_3⟩ := k37_openF hMe132
                have hv132_3 := hcc132 3 _ rfl
                rw [add_field _ _ 3 (by omega)] at hv132_3
                replace hv132_3 := Option.some.inj (hv132_3.symm.trans hx132_3)
                injection hv132_3 with hva_ hvn_ hvc_
                rw [hva_] at ge132_3
                rw [hvc_] at ul132_3
                have HL132_3 := Aside0.mk (show Kd.V k37 37 _ w.heap.size _ _ ((rd_T37 l1 x8_1).f3) from Kd.V_mk ul132_3 ge132_3)
                clear hva_ hvn_ hvc_ ge132_3 ul132_3
                clear hcc132 hce132
                have HR132_3 := Aside0.mk hi132_3
                have HC132_3 := Aside0.mk hl132_3
                clear hi132_3 hl132_3
                replace p132 := eq_true p132
                replace q132 := eq_true q132
                have p133 : 0 ≤ (x8_1 : Int) := of_decide_eq_true (by first | (with_reducible assumption) | assumption)
                have q133 : x8_1 < (l1.length : Int) := of_decide_eq_true (by first | (with_reducible assumption) | assumption)
                obtain ⟨ad133, A133_3, c133_3, e133, hx133_0, hx133_1, hx133_2, hx133_3, hl133_3, hi133_3⟩ := at_T37 (Kd.V_reads' HO_1.out).2.2 x8_1 p133 q133
                obtain rfl : ad132 = ad133 := (by injection e133)
                obtain ⟨ce133, hce133, hMe133, hcc133⟩ := Kd.V_get HO_1.out z37 x8_1 p133 (by first | exact q133 | exact of_decide_eq_true (by first | (with_reducible assumption) | assumption) | (have e_ := (Kd.V_reads' HO_1.out).1; omega))
                obtain ⟨ua133_3, uc133_3, rfl, ul133_3, ge133_3⟩ := k37_openF hMe133
                have hv133_3 := hcc133 3 _ rfl
                rw [add_field _ _ 3 (by omega)] at hv133_3
                replace hv133_3 := Option.some.inj (hv133_3.symm.trans hx133_3)
                injection hv133_3 with hva_ hvn_ hvc_
                rw [hva_] at ge133_3
                rw [hvc_] at ul133_3
                have HL133_3 := Aside0.mk (show Kd.V k37 37 _ w.heap.size _ _ ((rd_T37 l1 x8_1).f3) from Kd.V_mk ul133_3 ge133_3)
                clear hva_ hvn_ hvc_ ge133_3 ul133_3
                clear hcc133 hce133
                have HR133_3 := Aside0.mk hi133_3
                have HC133_3 := Aside0.mk hl133_3
                clear hi133_3 hl133_3
                replace p133 := eq_true p133
                replace q133 := eq_true q133
                have ea_ := Option.some.inj (hx132_3.symm.trans hx133_3)
                injection ea_ with ea_ en_ ec_
                subst ea_
                subst ec_
                clear en_
                go_wp2
                go_roundg k1
                case measure => have := HK1.out; omega
                case rel => exact ⟨(x4_1), (x5_1), (true), (wrap64 (x8_1 + 1)), (by first | rfl | (simp; done) | (simp [*]; done)), (by first | rfl | (simp; done) | (simp [*]; done)), (by first | rfl | (simp; done) | (simp [*]; done)), H', ⟨by have := HK1.out; omega⟩, ⟨by (with_reducible repeat (first | apply Kd.V_alloc | apply Kd.V_drewN | apply Kd.V_drew)); exact HO_1.out⟩, ⟨by (with_reducible repeat (first | apply Kd.N_alloc | apply Kd.N_drewN | apply Kd.N_drew)); exact HO_5.out⟩, ⟨by repeat (first | (with_reducible first | exact HB.out | apply below_alloc | apply pw_below_drewN | apply below_drew1) | exact HB.out)⟩⟩
            · rw [if_neg c6] at H
              have c6b0 : (((rd_T37 l1 x8_1).f0) == 5) = false := beq_eq_false_iff_ne.mpr c6
              have c6b1 : (((rd_T37 l1 x8_1).f0) != 5) = true := bne_iff_ne.mpr c6
              have H' := Aside0.mk H
              clear H
              have p132 : 0 ≤ (x8_1 : Int) := of_decide_eq_true (by first | (with_reducible assumption) | assumption)
              have q132 : x8_1 < (l1.length : Int) := of_decide_eq_true (by first | (with_reducible assumption) | assumption)
              obtain ⟨ad132, A132_3, c132_3, e132, hx132_0, hx132_1, hx132_2, hx132_3, hl132_3, hi132_3⟩ := at_T37 (Kd.V_reads' HO_1.out).2.2 x8_1 p132 q132
              cases e132
              obtain ⟨ce132, hce132, hMe132, hcc132⟩ := Kd.V_get HO_1.out z37 x8_1 p132 (by first | exact q132 | exact of_decide_eq_true (by first | (with_reducible assumption) | assumption) | (have e_ := (Kd.V_reads' HO_1.out).1; omega))
              obtain ⟨ua132_3, uc132_3, rfl, ul132_3, ge132_3⟩ := k37_openF hMe132
              have hv132_3 := hcc132 3 _ rfl
              rw [add_field _ _ 3 (by omega)] at hv132_3
              replace hv132_3 := Option.some.inj (hv132_3.symm.trans hx132_3)
              injection hv132_3 with hva_ hvn_ hvc_
              rw [hva_] at ge132_3
              rw [hvc_] at ul132_3
              have HL132_3 := Aside0.mk (show Kd.V k37 37 _ w.heap.size _ _ ((rd_T37 l1 x8_1).f3) from Kd.V_mk ul132_3 ge132_3)
              clear hva_ hvn_ hvc_ ge132_3 ul132_3
              clear hcc132 hce132
              have HR132_3 := Aside0.mk hi132_3
              have HC132_3 := Aside0.mk hl132_3
              clear hi132_3 hl132_3
              replace p132 := eq_true p132
              replace q132 := eq_true q132
              go_wp2
              go_roundg k1
              case measure => have := HK1.out; omega
              case rel => exact ⟨(x4_1), (x5_1), (true), (wrap64 (x8_1 + 1)), (by first | rfl | (simp; done) | (simp [*]; done)), (by first | rfl | (simp; done) | (simp [*]; done)), (by first | rfl | (simp; done) | (simp [*]; done)), H', ⟨by have := HK1.out; omega⟩, ⟨by (with_reducible repeat (first | apply Kd.V_alloc | apply Kd.V_drewN | apply Kd.V_drew)); exact HO_1.out⟩, ⟨by (with_reducible repeat (first | apply Kd.N_alloc | apply Kd.N_drewN | apply Kd.N_drew)); exact HO_5.out⟩, ⟨by repeat (first | (with_reducible first | exact HB.out | apply below_alloc | apply pw_below_drewN | apply below_drew1) | exact HB.out)⟩⟩
          · rw [if_neg c5] at H
            exact absurd H (by simp)
        · replace c4 := Bool.eq_false_iff.mpr c4
          subst c4
          have H1 : (if 0 ≤ x8_1 then (if ((rd_T37 l1 x8_1).f0) = 5 then (if (((rd_T37 l1 x8_1).f3).length : Int) = 0 then (some ((⟨#[]⟩ : ByteArray), ([] : List (S37)), false)) else (spec_Expanded.l0 k1 a0 l1 x4_1 x5_1 (((rd_T37 l1 x8_1).f0) == 5) (wrap64 (x8_1 + 1)))) else (spec_Expanded.l0 k1 a0 l1 x4_1 x5_1 (((rd_T37 l1 x8_1).f0) == 5) (wrap64 (x8_1 + 1)))) else (none)) = some (r1, r2, r3) := by rw [if_neg (show ¬ (false = true) by decide)] at H; exact H
          clear H
          have H := H1
          clear H1
          by_cases c8 : 0 ≤ x8_1
          · rw [if_pos c8] at H
            have c8b0 : decide (0 ≤ x8_1) = true := decide_eq_true c8
            clear c8
            by_cases c9 : ((rd_T37 l1 x8_1).f0) = 5
            · rw [if_pos c9] at H
              have c9b0 : (((rd_T37 l1 x8_1).f0) == 5) = true := beq_iff_eq.mpr c9
              have c9b1 : (((rd_T37 l1 x8_1).f0) != 5) = false := bne_eq_false_iff_eq.mpr c9
              clear c9
              by_cases c10 : (((rd_T37 l1 x8_1).f3).length : Int) = 0
              · rw [if_pos c10] at H
                have c10b0 : ((((rd_T37 l1 x8_1).f3).length : Int) == 0) = true := beq_iff_eq.mpr c10
                have c10b1 : ((((rd_T37 l1 x8_1).f3).length : Int) != 0) = false := bne_eq_false_iff_eq.mpr c10
                clear c10
                simp only [Option.some.injEq, Prod.mk.injEq] at H
                obtain ⟨rfl, rfl, rfl⟩ := H
                have p134 : 0 ≤ (x8_1 : Int) := of_decide_eq_true (by first | (with_reducible assumption) | assumption)
                have q134 : x8_1 < (l1.length : Int) := of_decide_eq_true (by first | (with_reducible assumption) | assumption)
                obtain ⟨ad134, A134_3, c134_3, e134, hx134_0, hx134_1, hx134_2, hx134_3, hl134_3, hi134_3⟩ := at_T37 (Kd.V_reads' HO_1.out).2.2 x8_1 p134 q134
                cases e134
                obtain ⟨ce134, hce134, hMe134, hcc134⟩ := Kd.V_get HO_1.out z37 x8_1 p134 (by first | exact q134 | exact of_decide_eq_true (by first | (with_reducible assumption) | assumption) | (have e_ := (Kd.V_reads' HO_1.out).1; omega))
                obtain ⟨ua134_3, uc134_3, rfl, ul134_3, ge134_3⟩ := k37_openF hMe134
                have hv134_3 := hcc134 3 _ rfl
                rw [add_field _ _ 3 (by omega)] at hv134_3
                replace hv134_3 := Option.some.inj (hv134_3.symm.trans hx134_3)
                injection hv134_3 with hva_ hvn_ hvc_
                rw [hva_] at ge134_3
                rw [hvc_] at ul134_3
                have HL134_3 := Aside0.mk (show Kd.V k37 37 _ w.heap.size _ _ ((rd_T37 l1 x8_1).f3) from Kd.V_mk ul134_3 ge134_3)
                clear hva_ hvn_ hvc_ ge134_3 ul134_3
                clear hcc134 hce134
                have HR134_3 := Aside0.mk hi134_3
                have HC134_3 := Aside0.mk hl134_3
                clear hi134_3 hl134_3
                replace p134 := eq_true p134
                replace q134 := eq_true q134
                have p135 : 0 ≤ (x8_1 : Int) := of_decide_eq_true (by first | (with_reducible assumption) | assumption)
                have q135 : x8_1 < (l1.length : Int) := of_decide_eq_true (by first | (with_reducible assumption) | assumption)
                obtain ⟨ad135, A135_3, c135_3, e135, hx135_0, hx135_1, hx135_2, hx135_3, hl135_3, hi135_3⟩ := at_T37 (Kd.V_reads' HO_1.out).2.2 x8_1 p135 q135
                obtain rfl : ad134 = ad135 := (by injection e135)
                obtain ⟨ce135, hce135, hMe135, hcc135⟩ := Kd.V_get HO_1.out z37 x8_1 p135 (by first | exact q135 | exact of_decide_eq_true (by first | (with_reducible assumption) | assumption) | (have e_ := (Kd.V_reads' HO_1.out).1; omega))
                obtain ⟨ua135_3, uc135_3, rfl, ul135_3, ge135_3⟩ := k37_openF hMe135
                have hv135_3 := hcc135 3 _ rfl
                rw [add_field _ _ 3 (by omega)] at hv135_3
                replace hv135_3 := Option.some.inj (hv135_3.symm.trans hx135_3)
                injection hv135_3 with hva_ hvn_ hvc_
                rw [hva_] at ge135_3
                rw [hvc_] at ul135_3
                have HL135_3 := Aside0.mk (show Kd.V k37 37 _ w.heap.size _ _ ((rd_T37 l1 x8_1).f3) from Kd.V_mk ul135_3 ge135_3)
                clear hva_ hvn_ hvc_ ge135_3 ul135_3
                clear hcc135 hce135
                have HR135_3 := Aside0.mk hi135_3
                have HC135_3 := Aside0.mk hl135_3
                clear hi135_3 hl135_3
                replace p135 := eq_true p135
                replace q135 := eq_true q135
                have ea_ := Option.some.inj (hx134_3.symm.trans hx135_3)
                injection ea_ with ea_ en_ ec_
                subst ea_
                subst ec_
                clear en_
                have p136 : 0 ≤ (x8_1 : Int) := of_decide_eq_true (by first | (with_reducible assumption) | assumption)
                have q136 : x8_1 < (l1.length : Int) := of_decide_eq_true (by first | (with_reducible assumption) | assumption)
                obtain ⟨ad136, A136_3, c136_3, e136, hx136_0, hx136_1, hx136_2, hx136_3, hl136_3, hi136_3⟩ := at_T37 (Kd.V_reads' HO_1.out).2.2 x8_1 p136 q136
                obtain rfl : ad134 = ad136 := (by injection e136)
                obtain ⟨ce136, hce136, hMe136, hcc136⟩ := Kd.V_get HO_1.out z37 x8_1 p136 (by first | exact q136 | exact of_decide_eq_true (by first | (with_reducible assumption) | assumption) | (have e_ := (Kd.V_reads' HO_1.out).1; omega))
                obtain ⟨ua136_3, uc136_3, rfl, ul136_3, ge136_3⟩ := k37_openF hMe136
                have hv136_3 := hcc136 3 _ rfl
                rw [add_field _ _ 3 (by omega)] at hv136_3
                replace hv136_3 := Option.some.inj (hv136_3.symm.trans hx136_3)
                injection hv136_3 with hva_ hvn_ hvc_
                rw [hva_] at ge136_3
                rw [hvc_] at ul136_3
                have HL136_3 := Aside0.mk (show Kd.V k37 37 _ w.heap.size _ _ ((rd_T37 l1 x8_1).f3) from Kd.V_mk ul136_3 ge136_3)
                clear hva_ hvn_ hvc_ ge136_3 ul136_3
                clear hcc136 hce136
                have HR136_3 := Aside0.mk hi136_3
                have HC136_3 := Aside0.mk hl136_3
                clear hi136_3 hl136_3
                replace p136 := eq_true p136
                replace q136 := eq_true q136
                have ea_ := Option.some.inj (hx134_3.symm.trans hx136_3)
                injection ea_ with ea_ en_ ec_
                subst ea_
                subst ec_
                clear en_
                go_wp2
                go_ret3
                exact ⟨_, by first | rfl | (simp [errW_none, errW_some] <;> rfl) | (simp [*, errW_none, errW_some] <;> rfl), (by first | exact Kd.V_nil _ _ _ _ _ | exact Kd.N_V (Kd.N_nil _ _ _ _ _)), by repeat (first | (with_reducible first | exact HB.out | apply below_alloc | apply pw_below_drewN | apply below_drew1) | exact HB.out)⟩
              · rw [if_neg c10] at H
                have c10b0 : ((((rd_T37 l1 x8_1).f3).length : Int) == 0) = false := beq_eq_false_iff_ne.mpr c10
                have c10b1 : ((((rd_T37 l1 x8_1).f3).length : Int) != 0) = true := bne_iff_ne.mpr c10
                have c10b2 : ¬ (((rd_T37 l1 x8_1).f3) = []) := fun h_ => c10 (by rw [h_]; rfl)
                have H' := Aside0.mk H
                clear H
                have p134 : 0 ≤ (x8_1 : Int) := of_decide_eq_true (by first | (with_reducible assumption) | assumption)
                have q134 : x8_1 < (l1.length : Int) := of_decide_eq_true (by first | (with_reducible assumption) | assumption)
                obtain ⟨ad134, A134_3, c134_3, e134, hx134_0, hx134_1, hx134_2, hx134_3, hl134_3, hi134_3⟩ := at_T37 (Kd.V_reads' HO_1.out).2.2 x8_1 p134 q134
                cases e134
                obtain ⟨ce134, hce134, hMe134, hcc134⟩ := Kd.V_get HO_1.out z37 x8_1 p134 (by first | exact q134 | exact of_decide_eq_true (by first | (with_reducible assumption) | assumption) | (have e_ := (Kd.V_reads' HO_1.out).1; omega))
                obtain ⟨ua134_3, uc134_3, rfl, ul134_3, ge134_3⟩ := k37_openF hMe134
                have hv134_3 := hcc134 3 _ rfl
                rw [add_field _ _ 3 (by omega)] at hv134_3
                replace hv134_3 := Option.some.inj (hv134_3.symm.trans hx134_3)
                injection hv134_3 with hva_ hvn_ hvc_
                rw [hva_] at ge134_3
                rw [hvc_] at ul134_3
                have HL134_3 := Aside0.mk (show Kd.V k37 37 _ w.heap.size _ _ ((rd_T37 l1 x8_1).f3) from Kd.V_mk ul134_3 ge134_3)
                clear hva_ hvn_ hvc_ ge134_3 ul134_3
                clear hcc134 hce134
                have HR134_3 := Aside0.mk hi134_3
                have HC134_3 := Aside0.mk hl134_3
                clear hi134_3 hl134_3
                replace p134 := eq_true p134
                replace q134 := eq_true q134
                have p135 : 0 ≤ (x8_1 : Int) := of_decide_eq_true (by first | (with_reducible assumption) | assumption)
                have q135 : x8_1 < (l1.length : Int) := of_decide_eq_true (by first | (with_reducible assumption) | assumption)
                obtain ⟨ad135, A135_3, c135_3, e135, hx135_0, hx135_1, hx135_2, hx135_3, hl135_3, hi135_3⟩ := at_T37 (Kd.V_reads' HO_1.out).2.2 x8_1 p135 q135
                obtain rfl : ad134 = ad135 := (by injection e135)
                obtain ⟨ce135, hce135, hMe135, hcc135⟩ := Kd.V_get HO_1.out z37 x8_1 p135 (by first | exact q135 | exact of_decide_eq_true (by first | (with_reducible assumption) | assumption) | (have e_ := (Kd.V_reads' HO_1.out).1; omega))
                obtain ⟨ua135_3, uc135_3, rfl, ul135_3, ge135_3⟩ := k37_openF hMe135
                have hv135_3 := hcc135 3 _ rfl
                rw [add_field _ _ 3 (by omega)] at hv135_3
                replace hv135_3 := Option.some.inj (hv135_3.symm.trans hx135_3)
                injection hv135_3 with hva_ hvn_ hvc_
                rw [hva_] at ge135_3
                rw [hvc_] at ul135_3
                have HL135_3 := Aside0.mk (show Kd.V k37 37 _ w.heap.size _ _ ((rd_T37 l1 x8_1).f3) from Kd.V_mk ul135_3 ge135_3)
                clear hva_ hvn_ hvc_ ge135_3 ul135_3
                clear hcc135 hce135
                have HR135_3 := Aside0.mk hi135_3
                have HC135_3 := Aside0.mk hl135_3
                clear hi135_3 hl135_3
                replace p135 := eq_true p135
                replace q135 := eq_true q135
                have ea_ := Option.some.inj (hx134_3.symm.trans hx135_3)
                injection ea_ with ea_ en_ ec_
                subst ea_
                subst ec_
                clear en_
                have p136 : 0 ≤ (x8_1 : Int) := of_decide_eq_true (by first | (with_reducible assumption) | assumption)
                have q136 : x8_1 < (l1.length : Int) := of_decide_eq_true (by first | (with_reducible assumption) | assumption)
                obtain ⟨ad136, A136_3, c136_3, e136, hx136_0, hx136_1, hx136_2, hx136_3, hl136_3, hi136_3⟩ := at_T37 (Kd.V_reads' HO_1.out).2.2 x8_1 p136 q136
                obtain rfl : ad134 = ad136 := (by injection e136)
                obtain ⟨ce136, hce136, hMe136, hcc136⟩ := Kd.V_get HO_1.out z37 x8_1 p136 (by first | exact q136 | exact of_decide_eq_true (by first | (with_reducible assumption) | assumption) | (have e_ := (Kd.V_reads' HO_1.out).1; omega))
                obtain ⟨ua136_3, uc136_3, rfl, ul136_3, ge136_3⟩ := k37_openF hMe136
                have hv136_3 := hcc136 3 _ rfl
                rw [add_field _ _ 3 (by omega)] at hv136_3
                replace hv136_3 := Option.some.inj (hv136_3.symm.trans hx136_3)
                injection hv136_3 with hva_ hvn_ hvc_
                rw [hva_] at ge136_3
                rw [hvc_] at ul136_3
                have HL136_3 := Aside0.mk (show Kd.V k37 37 _ w.heap.size _ _ ((rd_T37 l1 x8_1).f3) from Kd.V_mk ul136_3 ge136_3)
                clear hva_ hvn_ hvc_ ge136_3 ul136_3
                clear hcc136 hce136
                have HR136_3 := Aside0.mk hi136_3
                have HC136_3 := Aside0.mk hl136_3
                clear hi136_3 hl136_3
                replace p136 := eq_true p136
                replace q136 := eq_true q136
                have ea_ := Option.some.inj (hx134_3.symm.trans hx136_3)
                injection ea_ with ea_ en_ ec_
                subst ea_
                subst ec_
                clear en_
                go_wp2
                go_roundg k1
                case measure => have := HK1.out; omega
                case rel => exact ⟨(x4_1), (x5_1), ((((rd_T37 l1 x8_1).f0) == 5)), (wrap64 (x8_1 + 1)), (by first | rfl | (simp; done) | (simp [*]; done)), (by first | rfl | (simp; done) | (simp [*]; done)), (by first | rfl | (simp; done) | (simp [*]; done)), H', ⟨by have := HK1.out; omega⟩, ⟨by (with_reducible repeat (first | apply Kd.V_alloc | apply Kd.V_drewN | apply Kd.V_drew)); exact HO_1.out⟩, ⟨by (with_reducible repeat (first | apply Kd.N_alloc | apply Kd.N_drewN | apply Kd.N_drew)); exact HO_5.out⟩, ⟨by repeat (first | (with_reducible first | exact HB.out | apply below_alloc | apply pw_below_drewN | apply below_drew1) | exact HB.out)⟩⟩
            · rw [if_neg c9] at H
              have c9b0 : (((rd_T37 l1 x8_1).f0) == 5) = false := beq_eq_false_iff_ne.mpr c9
              have c9b1 : (((rd_T37 l1 x8_1).f0) != 5) = true := bne_iff_ne.mpr c9
              have H' := Aside0.mk H
              clear H
              have p134 : 0 ≤ (x8_1 : Int) := of_decide_eq_true (by first | (with_reducible assumption) | assumption)
              have q134 : x8_1 < (l1.length : Int) := of_decide_eq_true (by first | (with_reducible assumption) | assumption)
              obtain ⟨ad134, A134_3, c134_3, e134, hx134_0, hx134_1, hx134_2, hx134_3, hl134_3, hi134_3⟩ := at_T37 (Kd.V_reads' HO_1.out).2.2 x8_1 p134 q134
              cases e134
              obtain ⟨ce134, hce134, hMe134, hcc134⟩ := Kd.V_get HO_1.out z37 x8_1 p134 (by first | exact q134 | exact of_decide_eq_true (by first | (with_reducible assumption) | assumption) | (have e_ := (Kd.V_reads' HO_1.out).1; omega))
              obtain ⟨ua134_3, uc134_3, rfl, ul134_3, ge134_3⟩ := k37_openF hMe134
              have hv134_3 := hcc134 3 _ rfl
              rw [add_field _ _ 3 (by omega)] at hv134_3
              replace hv134_3 := Option.some.inj (hv134_3.symm.trans hx134_3)
              injection hv134_3 with hva_ hvn_ hvc_
              rw [hva_] at ge134_3
              rw [hvc_] at ul134_3
              have HL134_3 := Aside0.mk (show Kd.V k37 37 _ w.heap.size _ _ ((rd_T37 l1 x8_1).f3) from Kd.V_mk ul134_3 ge134_3)
              clear hva_ hvn_ hvc_ ge134_3 ul134_3
              clear hcc134 hce134
              have HR134_3 := Aside0.mk hi134_3
              have HC134_3 := Aside0.mk hl134_3
              clear hi134_3 hl134_3
              replace p134 := eq_true p134
              replace q134 := eq_true q134
              have p135 : 0 ≤ (x8_1 : Int) := of_decide_eq_true (by first | (with_reducible assumption) | assumption)
              have q135 : x8_1 < (l1.length : Int) := of_decide_eq_true (by first | (with_reducible assumption) | assumption)
              obtain ⟨ad135, A135_3, c135_3, e135, hx135_0, hx135_1, hx135_2, hx135_3, hl135_3, hi135_3⟩ := at_T37 (Kd.V_reads' HO_1.out).2.2 x8_1 p135 q135
              obtain rfl : ad134 = ad135 := (by injection e135)
              obtain ⟨ce135, hce135, hMe135, hcc135⟩ := Kd.V_get HO_1.out z37 x8_1 p135 (by first | exact q135 | exact of_decide_eq_true (by first | (with_reducible assumption) | assumption) | (have e_ := (Kd.V_reads' HO_1.out).1; omega))
              obtain ⟨ua135_3, uc135_3, rfl, ul135_3, ge135_3⟩ := k37_openF hMe135
              have hv135_3 := hcc135 3 _ rfl
              rw [add_field _ _ 3 (by omega)] at hv135_3
              replace hv135_3 := Option.some.inj (hv135_3.symm.trans hx135_3)
              injection hv135_3 with hva_ hvn_ hvc_
              rw [hva_] at ge135_3
              rw [hvc_] at ul135_3
              have HL135_3 := Aside0.mk (show Kd.V k37 37 _ w.heap.size _ _ ((rd_T37 l1 x8_1).f3) from Kd.V_mk ul135_3 ge135_3)
              clear hva_ hvn_ hvc_ ge135_3 ul135_3
              clear hcc135 hce135
              have HR135_3 := Aside0.mk hi135_3
              have HC135_3 := Aside0.mk hl135_3
              clear hi135_3 hl135_3
              replace p135 := eq_true p135
              replace q135 := eq_true q135
              have ea_ := Option.some.inj (hx134_3.symm.trans hx135_3)
              injection ea_ with ea_ en_ ec_
              subst ea_
              subst ec_
              clear en_
              go_wp2
              go_roundg k1
              case measure => have := HK1.out; omega
              case rel => exact ⟨(x4_1), (x5_1), ((((rd_T37 l1 x8_1).f0) == 5)), (wrap64 (x8_1 + 1)), (by first | rfl | (simp; done) | (simp [*]; done)), (by first | rfl | (simp; done) | (simp [*]; done)), (by first | rfl | (simp; done) | (simp [*]; done)), H', ⟨by have := HK1.out; omega⟩, ⟨by (with_reducible repeat (first | apply Kd.V_alloc | apply Kd.V_drewN | apply Kd.V_drew)); exact HO_1.out⟩, ⟨by (with_reducible repeat (first | apply Kd.N_alloc | apply Kd.N_drewN | apply Kd.N_drew)); exact HO_5.out⟩, ⟨by repeat (first | (with_reducible first | exact HB.out | apply below_alloc | apply pw_below_drewN | apply below_drew1) | exact HB.out)⟩⟩
          · rw [if_neg c8] at H
            exact absurd H (by simp)
      · rw [if_neg c3] at H
        have c3b0 : decide (x8_1 < (l1.length : Int)) = false := decide_eq_false c3
        clear c3
        by_cases c11 : x7_1 = true
        · subst c11
          have H1 : (spec_Expanded.l1 k1 a0 l1 x4_1 x5_1 0 0) = some (r1, r2, r3) := by rw [if_pos rfl] at H; exact H
          clear H
          have H := H1
          clear H1
          have H' := Aside0.mk H
          clear H
          go_wp2
          go_loopg [4, 5, 9, 10] k1 (fun kq v4 v5 v9 v10 w' => ∃ (x4_2 : ByteArray) (x5_2 : List (S37)) (x9_2 : Int) (x10_2 : Int), v4 = .string x4_2 ∧ v9 = .int .i64 x9_2 ∧ v10 = .int .i64 x10_2 ∧ Aside0 (spec_Expanded.l1 kq a0 l1 x4_2 x5_2 x9_2 x10_2 = some (r1, r2, r3)) ∧ Aside0 (kq ≤ k1) ∧ Aside0 (Kd.V k37 37 w' w.heap.size (fun k_ => (P1_ k_ ∨ w.heap.size ≤ k_) ∧ some k_ ≠ (v5 : Value).ownBlock) (.slice A1 l1.length c1) l1) ∧ Aside0 (Kd.N k37 37 w' w.heap.size (fun k_ => (P1_ k_ ∨ w.heap.size ≤ k_)) v5 x5_2) ∧ Aside0 (Below w.heap.size w w'))
          case atStart => exact ⟨(x4_1), (x5_1), (0), (0), (by first | rfl | (simp; done) | (simp [*]; done)), (by first | rfl | (simp; done) | (simp [*]; done)), (by first | rfl | (simp; done) | (simp [*]; done)), H', ⟨Nat.le_refl _⟩, ⟨by (with_reducible repeat (first | apply Kd.V_alloc | apply Kd.V_drewN | apply Kd.V_drew)); exact HO_1.out⟩, ⟨by (with_reducible repeat (first | apply Kd.N_alloc | apply Kd.N_drewN | apply Kd.N_drew)); exact HO_5.out⟩, ⟨by repeat (first | (with_reducible first | exact HB.out | apply below_alloc | apply pw_below_drewN | apply below_drew1) | exact HB.out)⟩⟩
          case round =>
            clear H'
            try clear c1
            try clear p1
            try clear q1
            try clear hx1
            try clear p2
            try clear c3
            try clear c3b0
            try clear c4
            try clear c5
            try clear c5b0
            try clear c6
            try clear c6b0
            try clear c6b1
            try clear p6
            try clear c7
            try clear c7b0
            try clear c7b1
            try clear c7b2
            try clear c8
            try clear c8b0
            try clear c9
            try clear c9b0
            try clear c9b1
            try clear c10
            try clear c10b0
            try clear c10b1
            try clear c10b2
            try clear c11
            try clear hx132_0
            try clear hx132_1
            try clear hx132_2
            try clear hx132_3
            try clear hx133_0
            try clear hx133_1
            try clear hx133_2
            try clear hx133_3
            try clear hx134_0
            try clear hx134_1
            try clear hx134_2
            try clear hx134_3
            try clear hx135_0
            try clear hx135_1
            try clear hx135_2
            try clear hx135_3
            try clear hx136_0
            try clear hx136_1
            try clear hx136_2
            try clear hx136_3
            try clear p132
            try clear p133
            try clear p134
            try clear p135
            try clear p136
            try clear p2
            try clear q132
            try clear q133
            try clear q134
            try clear q135
            try clear q136
            obtain ⟨x4_2, x5_2, x9_2, x10_2, rfl, rfl, rfl, HA, HK2, HO_1, HO_5, HB⟩ := hrel
            cases gk with
            | zero => exact absurd HA.out (by simp [spec_Expanded.l1])
            | succ k2 =>
              have H := HA.out
              clear HA
              simp only [spec_Expanded.l1] at H
              by_cases c12 : x10_2 < (a0.size : Int)
              · rw [if_pos c12] at H
                have c12b0 : decide (x10_2 < (a0.size : Int)) = true := decide_eq_true c12
                clear c12
                by_cases c13 : 0 ≤ x10_2
                · rw [if_pos c13] at H
                  have c13b0 : decide (0 ≤ x10_2) = true := decide_eq_true c13
                  clear c13
                  by_cases c15 : (bt a0 x10_2) = 63
                  · rw [if_pos c15] at H
                    have c15b0 : ((bt a0 x10_2) == 63) = true := beq_iff_eq.mpr c15
                    have c15b1 : ((bt a0 x10_2) != 63) = false := bne_eq_false_iff_eq.mpr c15
                    clear c15
                    by_cases c16 : x9_2 ≥ (l1.length : Int)
                    · rw [if_pos c16] at H
                      have c16b0 : decide ((l1.length : Int) ≤ x9_2) = true := decide_eq_true c16
                      clear c16
                      simp only [Option.some.injEq, Prod.mk.injEq] at H
                      obtain ⟨rfl, rfl, rfl⟩ := H
                      have p14 : 0 ≤ (x10_2 : Int) := of_decide_eq_true (by first | (with_reducible assumption) | assumption)
                      have q14 : x10_2 < (a0.size : Int) := of_decide_eq_true (by first | (with_reducible assumption) | assumption)
                      have hx14 := bt_at a0 x10_2
                      replace p14 := eq_true p14
                      replace q14 := eq_true q14
                      go_wp2
                      go_ret3
                      exact ⟨_, by first | rfl | (simp [errW_none, errW_some] <;> rfl) | (simp [*, errW_none, errW_some] <;> rfl), (by first | exact Kd.V_nil _ _ _ _ _ | exact Kd.N_V (Kd.N_nil _ _ _ _ _)), by repeat (first | (with_reducible first | exact HB.out | apply below_alloc | apply pw_below_drewN | apply below_drew1) | exact HB.out)⟩
                    · rw [if_neg c16] at H
                      have c16b0 : decide ((l1.length : Int) ≤ x9_2) = false := decide_eq_false c16
                      clear c16
                      by_cases c17 : 0 ≤ x9_2
                      · rw [if_pos c17] at H
                        have c17b0 : decide (0 ≤ x9_2) = true := decide_eq_true c17
                        clear c17
                        by_cases c18 : x9_2 < (l1.length : Int)
                        · rw [if_pos c18] at H
                          have c18b0 : decide (x9_2 < (l1.length : Int)) = true := decide_eq_true c18
                          clear c18
                          by_cases c19 : ((rd_T37 l1 x9_2).f0) = 5
                          · rw [if_pos c19] at H
                            have c19b0 : (((rd_T37 l1 x9_2).f0) == 5) = true := beq_iff_eq.mpr c19
                            have c19b1 : (((rd_T37 l1 x9_2).f0) != 5) = false := bne_eq_false_iff_eq.mpr c19
                            clear c19
                            have H' := Aside0.mk H
                            clear H
                            have p14 : 0 ≤ (x10_2 : Int) := of_decide_eq_true (by first | (with_reducible assumption) | assumption)
                            have q14 : x10_2 < (a0.size : Int) := of_decide_eq_true (by first | (with_reducible assumption) | assumption)
                            have hx14 := bt_at a0 x10_2
                            replace p14 := eq_true p14
                            replace q14 := eq_true q14
                            have p137 : 0 ≤ (x9_2 : Int) := of_decide_eq_true (by first | (with_reducible assumption) | assumption)
                            have q137 : x9_2 < (l1.length : Int) := of_decide_eq_true (by first | (with_reducible assumption) | assumption)
                            obtain ⟨ad137, A137_3, c137_3, e137, hx137_0, hx137_1, hx137_2, hx137_3, hl137_3, hi137_3⟩ := at_T37 (Kd.V_reads' HO_1.out).2.2 x9_2 p137 q137
                            cases e137
                            obtain ⟨ce137, hce137, hMe137, hcc137⟩ := Kd.V_get HO_1.out z37 x9_2 p137 (by first | exact q137 | exact of_decide_eq_true (by first | (with_reducible assumption) | assumption) | (have e_ := (Kd.V_reads' HO_1.out).1; omega))
                            obtain ⟨ua137_3, uc137_3, rfl, ul137_3, ge137_3⟩ := k37_openF hMe137
                            have hv137_3 := hcc137 3 _ rfl
                            rw [add_field _ _ 3 (by omega)] at hv137_3
                            replace hv137_3 := Option.some.inj (hv137_3.symm.trans hx137_3)
                            injection hv137_3 with hva_ hvn_ hvc_
                            rw [hva_] at ge137_3
                            rw [hvc_] at ul137_3
                            have HL137_3 := Aside0.mk (show Kd.V k37 37 _ w.heap.size _ _ ((rd_T37 l1 x9_2).f3) from Kd.V_mk ul137_3 ge137_3)
                            clear hva_ hvn_ hvc_ ge137_3 ul137_3
                            clear hcc137 hce137
                            have HR137_3 := Aside0.mk hi137_3
                            have HC137_3 := Aside0.mk hl137_3
                            clear hi137_3 hl137_3
                            replace p137 := eq_true p137
                            replace q137 := eq_true q137
                            go_wp2
                            go_loopg [4, 11] k2 (fun kq v4 v11 w' => ∃ (x4_3 : ByteArray) (x11_3 : Int), v4 = .string x4_3 ∧ v11 = .int .i64 x11_3 ∧ Aside0 (spec_Expanded.l2 kq a0 l1 x4_3 x5_2 x9_2 x10_2 x11_3 = some (r1, r2, r3)) ∧ Aside0 (kq ≤ k2) ∧ Aside0 (Kd.V k37 37 w' w.heap.size (fun k_ => (P1_ k_ ∨ w.heap.size ≤ k_) ∧ some k_ ≠ (u5 : Value).ownBlock) (.slice (some ad137) l1.length c1) l1) ∧ Aside0 (Kd.N k37 37 w' w.heap.size (fun k_ => (P1_ k_ ∨ w.heap.size ≤ k_)) u5 x5_2) ∧ Aside0 (Kd.C k37 w' A137_3 ((rd_T37 l1 x9_2).f3).length ((rd_T37 l1 x9_2).f3)) ∧ Aside0 (Below w.heap.size w w'))
                            case atStart => exact ⟨(x4_2), (0), (by first | rfl | (simp; done) | (simp [*]; done)), (by first | rfl | (simp; done) | (simp [*]; done)), H', ⟨Nat.le_refl _⟩, ⟨by (with_reducible repeat (first | apply Kd.V_alloc | apply Kd.V_drewN | apply Kd.V_drew)); exact HO_1.out⟩, ⟨by (with_reducible repeat (first | apply Kd.N_alloc | apply Kd.N_drewN | apply Kd.N_drew)); exact HO_5.out⟩, ⟨by repeat (first | (with_reducible exact HR137_3.out) | (with_reducible refine Kd.C_alloc ?_ _) | (with_reducible refine Kd.C_drewN ?_ _) | (with_reducible refine Kd.C_drew ?_) | exact HR137_3.out)⟩, ⟨by repeat (first | (with_reducible first | exact HB.out | apply below_alloc | apply pw_below_drewN | apply below_drew1) | exact HB.out)⟩⟩
                            case round =>
                              clear H'
                              try clear c1
                              try clear p1
                              try clear q1
                              try clear hx1
                              try clear p2
                              try clear c3
                              try clear c3b0
                              try clear c4
                              try clear c5
                              try clear c5b0
                              try clear c6
                              try clear c6b0
                              try clear c6b1
                              try clear p6
                              try clear c7
                              try clear c7b0
                              try clear c7b1
                              try clear c7b2
                              try clear c8
                              try clear c8b0
                              try clear c9
                              try clear c9b0
                              try clear c9b1
                              try clear c10
                              try clear c10b0
                              try clear c10b1
                              try clear c10b2
                              try clear c11
                              try clear c12
                              try clear c12b0
                              try clear c13
                              try clear c13b0
                              try clear p13
                              try clear q13
                              try clear hx13
                              try clear p14
                              try clear q14
                              try clear hx14
                              try clear c15
                              try clear c15b0
                              try clear c15b1
                              try clear c16
                              try clear c16b0
                              try clear c17
                              try clear c17b0
                              try clear c18
                              try clear c18b0
                              try clear c19
                              try clear c19b0
                              try clear c19b1
                              try clear hx132_0
                              try clear hx132_1
                              try clear hx132_2
                              try clear hx132_3
                              try clear hx133_0
                              try clear hx133_1
                              try clear hx133_2
                              try clear hx133_3
                              try clear hx134_0
                              try clear hx134_1
                              try clear hx134_2
                              try clear hx134_3
                              try clear hx135_0
                              try clear hx135_1
                              try clear hx135_2
                              try clear hx135_3
                              try clear hx136_0
                              try clear hx136_1
                              try clear hx136_2
                              try clear hx136_3
                              try clear hx137_0
                              try clear hx137_1
                              try clear hx137_2
                              try clear hx137_3
                              try clear p1
                              try clear p132
                              try clear p133
                              try clear p134
                              try clear p135
                              try clear p136
                              try clear p137
                              try clear p14
                              try clear p2
                              try clear p6
                              try clear q1
                              try clear q132
                              try clear q133
                              try clear q134
                              try clear q135
                              try clear q136
                              try clear q137
                              try clear q14
                              obtain ⟨x4_3, x11_3, rfl, rfl, HA, HK3, HO_1, HO_5, HR137_3, HB⟩ := hrel
                              cases gk with
                              | zero => exact absurd HA.out (by simp [spec_Expanded.l2])
                              | succ k3 =>
                                have H := HA.out
                                clear HA
                                simp only [spec_Expanded.l2] at H
                                by_cases c20 : 0 ≤ x9_2
                                · rw [if_pos c20] at H
                                  have c20b0 : decide (0 ≤ x9_2) = true := decide_eq_true c20
                                  clear c20
                                  by_cases c21 : x9_2 < (l1.length : Int)
                                  · rw [if_pos c21] at H
                                    have c21b0 : decide (x9_2 < (l1.length : Int)) = true := decide_eq_true c21
                                    clear c21
                                    by_cases c22 : x11_3 < (((rd_T37 l1 x9_2).f3).length : Int)
                                    · rw [if_pos c22] at H
                                      have c22b0 : decide (x11_3 < (((rd_T37 l1 x9_2).f3).length : Int)) = true := decide_eq_true c22
                                      clear c22
                                      by_cases c23 : x11_3 > 0
                                      · rw [if_pos c23] at H
                                        have c23b0 : decide (0 < x11_3) = true := decide_eq_true c23
                                        clear c23
                                        by_cases c24 : x4_3.size + 2 ≤ 9223372036854775807
                                        · rw [if_pos c24] at H
                                          have c24b0 := eq_true c24
                                          have c24b1 : decide (x4_3.size + 2 ≤ 9223372036854775807) = true := decide_eq_true c24
                                          try have c24b2 : (9223372036854775807 < x4_3.size + 2) = False := eq_false (Nat.not_lt.2 c24)
                                          by_cases c25 : (x4_3 ++ (⟨#[44, 32]⟩ : ByteArray)).size + 1 ≤ 9223372036854775807
                                          · rw [if_pos c25] at H
                                            have c25b0 := eq_true c25
                                            have c25b1 : decide ((x4_3 ++ (⟨#[44, 32]⟩ : ByteArray)).size + 1 ≤ 9223372036854775807) = true := decide_eq_true c25
                                            try have c25b2 : (9223372036854775807 < (x4_3 ++ (⟨#[44, 32]⟩ : ByteArray)).size + 1) = False := eq_false (Nat.not_lt.2 c25)
                                            have c25b3 : (9223372036854775807 < x4_3.size + 2 + 1) = False := eq_false (Nat.not_lt.2 (by have h := c25; rw [ByteArray.size_append] at h; exact h))
                                            have H' := Aside0.mk H
                                            clear H
                                            have p138 : 0 ≤ (x9_2 : Int) := of_decide_eq_true (by first | (with_reducible assumption) | assumption)
                                            have q138 : x9_2 < (l1.length : Int) := of_decide_eq_true (by first | (with_reducible assumption) | assumption)
                                            obtain ⟨ad138, A138_3, c138_3, e138, hx138_0, hx138_1, hx138_2, hx138_3, hl138_3, hi138_3⟩ := at_T37 (Kd.V_reads' HO_1.out).2.2 x9_2 p138 q138
                                            obtain rfl : ad137 = ad138 := (by injection e138)
                                            obtain ⟨ce138, hce138, hMe138, hcc138⟩ := Kd.V_get HO_1.out z37 x9_2 p138 (by first | exact q138 | exact of_decide_eq_true (by first | (with_reducible assumption) | assumption) | (have e_ := (Kd.V_reads' HO_1.out).1; omega))
                                            obtain ⟨ua138_3, uc138_3, rfl, ul138_3, ge138_3⟩ := k37_openF hMe138
                                            have hv138_3 := hcc138 3 _ rfl
                                            rw [add_field _ _ 3 (by omega)] at hv138_3
                                            replace hv138_3 := Option.some.inj (hv138_3.symm.trans hx138_3)
                                            injection hv138_3 with hva_ hvn_ hvc_
                                            rw [hva_] at ge138_3
                                            rw [hvc_] at ul138_3
                                            have HL138_3 := Aside0.mk (show Kd.V k37 37 _ w.heap.size _ _ ((rd_T37 l1 x9_2).f3) from Kd.V_mk ul138_3 ge138_3)
                                            clear hva_ hvn_ hvc_ ge138_3 ul138_3
                                            clear hcc138 hce138
                                            have HR138_3 := Aside0.mk hi138_3
                                            have HC138_3 := Aside0.mk hl138_3
                                            clear hi138_3 hl138_3
                                            replace p138 := eq_true p138
                                            replace q138 := eq_true q138
                                            go_wp2
                                            go_roundg k3
                                            case measure => have := HK1.out; have := HK2.out; have := HK3.out; omega
                                            case rel => exact ⟨((x4_3 ++ (⟨#[44, 32]⟩ : ByteArray)) ++ (⟨#[63]⟩ : ByteArray)), (wrap64 (x11_3 + 1)), (by first | rfl | (simp; done) | (simp [*]; done)), (by first | rfl | (simp; done) | (simp [*]; done)), H', ⟨by have := HK1.out; have := HK2.out; have := HK3.out; omega⟩, ⟨by (with_reducible repeat (first | apply Kd.V_alloc | apply Kd.V_drewN | apply Kd.V_drew)); exact HO_1.out⟩, ⟨by (with_reducible repeat (first | apply Kd.N_alloc | apply Kd.N_drewN | apply Kd.N_drew)); exact HO_5.out⟩, ⟨by repeat (first | (with_reducible exact HR137_3.out) | (with_reducible refine Kd.C_alloc ?_ _) | (with_reducible refine Kd.C_drewN ?_ _) | (with_reducible refine Kd.C_drew ?_) | exact HR137_3.out)⟩, ⟨by repeat (first | (with_reducible first | exact HB.out | apply below_alloc | apply pw_below_drewN | apply below_drew1) | exact HB.out)⟩⟩
                                          · rw [if_neg c25] at H
                                            exact absurd H (by simp)
                                        · rw [if_neg c24] at H
                                          exact absurd H (by simp)
                                      · rw [if_neg c23] at H
                                        have c23b0 : decide (0 < x11_3) = false := decide_eq_false c23
                                        clear c23
                                        by_cases c26 : x4_3.size + 1 ≤ 9223372036854775807
                                        · rw [if_pos c26] at H
                                          have c26b0 := eq_true c26
                                          have c26b1 : decide (x4_3.size + 1 ≤ 9223372036854775807) = true := decide_eq_true c26
                                          try have c26b2 : (9223372036854775807 < x4_3.size + 1) = False := eq_false (Nat.not_lt.2 c26)
                                          have H' := Aside0.mk H
                                          clear H
                                          have p138 : 0 ≤ (x9_2 : Int) := of_decide_eq_true (by first | (with_reducible assumption) | assumption)
                                          have q138 : x9_2 < (l1.length : Int) := of_decide_eq_true (by first | (with_reducible assumption) | assumption)
                                          obtain ⟨ad138, A138_3, c138_3, e138, hx138_0, hx138_1, hx138_2, hx138_3, hl138_3, hi138_3⟩ := at_T37 (Kd.V_reads' HO_1.out).2.2 x9_2 p138 q138
                                          obtain rfl : ad137 = ad138 := (by injection e138)
                                          obtain ⟨ce138, hce138, hMe138, hcc138⟩ := Kd.V_get HO_1.out z37 x9_2 p138 (by first | exact q138 | exact of_decide_eq_true (by first | (with_reducible assumption) | assumption) | (have e_ := (Kd.V_reads' HO_1.out).1; omega))
                                          obtain ⟨ua138_3, uc138_3, rfl, ul138_3, ge138_3⟩ := k37_openF hMe138
                                          have hv138_3 := hcc138 3 _ rfl
                                          rw [add_field _ _ 3 (by omega)] at hv138_3
                                          replace hv138_3 := Option.some.inj (hv138_3.symm.trans hx138_3)
                                          injection hv138_3 with hva_ hvn_ hvc_
                                          rw [hva_] at ge138_3
                                          rw [hvc_] at ul138_3
                                          have HL138_3 := Aside0.mk (show Kd.V k37 37 _ w.heap.size _ _ ((rd_T37 l1 x9_2).f3) from Kd.V_mk ul138_3 ge138_3)
                                          clear hva_ hvn_ hvc_ ge138_3 ul138_3
                                          clear hcc138 hce138
                                          have HR138_3 := Aside0.mk hi138_3
                                          have HC138_3 := Aside0.mk hl138_3
                                          clear hi138_3 hl138_3
                                          replace p138 := eq_true p138
                                          replace q138 := eq_true q138
                                          go_wp2
                                          go_roundg k3
                                          case measure => have := HK1.out; have := HK2.out; have := HK3.out; omega
                                          case rel => exact ⟨(x4_3 ++ (⟨#[63]⟩ : ByteArray)), (wrap64 (x11_3 + 1)), (by first | rfl | (simp; done) | (simp [*]; done)), (by first | rfl | (simp; done) | (simp [*]; done)), H', ⟨by have := HK1.out; have := HK2.out; have := HK3.out; omega⟩, ⟨by (with_reducible repeat (first | apply Kd.V_alloc | apply Kd.V_drewN | apply Kd.V_drew)); exact HO_1.out⟩, ⟨by (with_reducible repeat (first | apply Kd.N_alloc | apply Kd.N_drewN | apply Kd.N_drew)); exact HO_5.out⟩, ⟨by repeat (first | (with_reducible exact HR137_3.out) | (with_reducible refine Kd.C_alloc ?_ _) | (with_reducible refine Kd.C_drewN ?_ _) | (with_reducible refine Kd.C_drew ?_) | exact HR137_3.out)⟩, ⟨by repeat (first | (with_reducible first | exact HB.out | apply below_alloc | apply pw_below_drewN | apply below_drew1) | exact HB.out)⟩⟩
                                        · rw [if_neg c26] at H
                                          exact absurd H (by simp)
                                    · rw [if_neg c22] at H
                                      have c22b0 : decide (x11_3 < (((rd_T37 l1 x9_2).f3).length : Int)) = false := decide_eq_false c22
                                      clear c22
                                      by_cases c27 : x5_2.length + ((rd_T37 l1 x9_2).f3).length < 2513169434916
                                      · rw [if_pos c27] at H
                                        have LMc27 := Aside0.mk c27
                                        clear c27
                                        obtain ⟨y140, hy140⟩ : ∃ y_ : List (S37), y_ = (x5_2 ++ ((rd_T37 l1 x9_2).f3)) := ⟨_, rfl⟩
                                        replace H : (spec_Expanded.l1 k3 a0 l1 x4_3 y140 (wrap64 (x9_2 + 1)) (wrap64 (x10_2 + 1))) = some (r1, r2, r3) := by first | (rw [hy140]; with_reducible exact H) | (have H2_ := (Option.bind_some _ _).symm.trans H; rw [hy140]; with_reducible exact H2_) | (have H2_ := (Option.bind_some _ _).symm.trans H; with_reducible exact H2_) | with_reducible exact H | (rw [hy140]; exact H) | exact H
                                        have Ny140 := Aside0.mk hy140
                                        clear hy140
                                        have H' := Aside0.mk H
                                        clear H
                                        have p138 : 0 ≤ (x9_2 : Int) := of_decide_eq_true (by first | (with_reducible assumption) | assumption)
                                        have q138 : x9_2 < (l1.length : Int) := of_decide_eq_true (by first | (with_reducible assumption) | assumption)
                                        obtain ⟨ad138, A138_3, c138_3, e138, hx138_0, hx138_1, hx138_2, hx138_3, hl138_3, hi138_3⟩ := at_T37 (Kd.V_reads' HO_1.out).2.2 x9_2 p138 q138
                                        obtain rfl : ad137 = ad138 := (by injection e138)
                                        obtain ⟨ce138, hce138, hMe138, hcc138⟩ := Kd.V_get HO_1.out z37 x9_2 p138 (by first | exact q138 | exact of_decide_eq_true (by first | (with_reducible assumption) | assumption) | (have e_ := (Kd.V_reads' HO_1.out).1; omega))
                                        obtain ⟨ua138_3, uc138_3, rfl, ul138_3, ge138_3⟩ := k37_openF hMe138
                                        have hv138_3 := hcc138 3 _ rfl
                                        rw [add_field _ _ 3 (by omega)] at hv138_3
                                        replace hv138_3 := Option.some.inj (hv138_3.symm.trans hx138_3)
                                        injection hv138_3 with hva_ hvn_ hvc_
                                        rw [hva_] at ge138_3
                                        rw [hvc_] at ul138_3
                                        have HL138_3 := Aside0.mk (show Kd.V k37 37 _ w.heap.size _ _ ((rd_T37 l1 x9_2).f3) from Kd.V_mk ul138_3 ge138_3)
                                        clear hva_ hvn_ hvc_ ge138_3 ul138_3
                                        clear hcc138 hce138
                                        have HR138_3 := Aside0.mk hi138_3
                                        have HC138_3 := Aside0.mk hl138_3
                                        clear hi138_3 hl138_3
                                        replace p138 := eq_true p138
                                        replace q138 := eq_true q138
                                        have p139 : 0 ≤ (x9_2 : Int) := of_decide_eq_true (by first | (with_reducible assumption) | assumption)
                                        have q139 : x9_2 < (l1.length : Int) := of_decide_eq_true (by first | (with_reducible assumption) | assumption)
                                        obtain ⟨ad139, A139_3, c139_3, e139, hx139_0, hx139_1, hx139_2, hx139_3, hl139_3, hi139_3⟩ := at_T37 (Kd.V_reads' HO_1.out).2.2 x9_2 p139 q139
                                        obtain rfl : ad137 = ad139 := (by injection e139)
                                        obtain ⟨ce139, hce139, hMe139, hcc139⟩ := Kd.V_get HO_1.out z37 x9_2 p139 (by first | exact q139 | exact of_decide_eq_true (by first | (with_reducible assumption) | assumption) | (have e_ := (Kd.V_reads' HO_1.out).1; omega))
                                        obtain ⟨ua139_3, uc139_3, rfl, ul139_3, ge139_3⟩ := k37_openF hMe139
                                        have hv139_3 := hcc139 3 _ rfl
                                        rw [add_field _ _ 3 (by omega)] at hv139_3
                                        replace hv139_3 := Option.some.inj (hv139_3.symm.trans hx139_3)
                                        injection hv139_3 with hva_ hvn_ hvc_
                                        rw [hva_] at ge139_3
                                        rw [hvc_] at ul139_3
                                        have HL139_3 := Aside0.mk (show Kd.V k37 37 _ w.heap.size _ _ ((rd_T37 l1 x9_2).f3) from Kd.V_mk ul139_3 ge139_3)
                                        clear hva_ hvn_ hvc_ ge139_3 ul139_3
                                        clear hcc139 hce139
                                        have HR139_3 := Aside0.mk hi139_3
                                        have HC139_3 := Aside0.mk hl139_3
                                        clear hi139_3 hl139_3
                                        replace p139 := eq_true p139
                                        replace q139 := eq_true q139
                                        have ea_ := Option.some.inj (hx138_3.symm.trans hx139_3)
                                        injection ea_ with ea_ en_ ec_
                                        subst ea_
                                        subst ec_
                                        clear en_
                                        go_wp2_with (first | ((with_reducible refine gate_builtin (b := .append) (xs := #[.tmp 103, .tmp 108]) rfl ?_); (try (refine gate_guard (by rfl) ?_; dsimp only)); at_builtin; refine Kd.N_append_rows k37 (w0 := w) w.heap.size rfl (.tmp 103) (.tmp 108) 26 37 (.agg #[(.int .i64 0), (.int .i64 0), (.string ⟨#[]⟩), (.slice none 0 0)]) 56 rfl Try.underlying26 info37 rfl (by decide) (by omega) u5 x5_2 ((rd_T37 l1 x9_2).f3) _ _ _ (fun k_ => (P1_ k_ ∨ w.heap.size ≤ k_)) (fun k_ => ((fun k_ => (P1_ k_ ∨ w.heap.size ≤ k_))) k_ ∧ some k_ ≠ (u5 : Value).ownBlock) rfl rfl ?aO ?aR (fun _ hk => hk) ?aF ?aB ?aS ?aL ?_; (case aR => exact (by skip; exact Kd.V_F (Kd.V_mono (ok' := (fun k_ => ((fun k_ => (P1_ k_ ∨ w.heap.size ≤ k_))) k_ ∧ some k_ ≠ (u5 : Value).ownBlock)) (HL139_3.out) (fun k_ hk => ⟨hk.1, hk.2⟩)))); (case aB => exact (by repeat (first | (with_reducible first | exact HB.out | apply below_alloc | apply pw_below_drewN | apply below_drew1) | exact HB.out))); (case aF => exact (fun k_ hk => (.inr (Nat.le_trans (below_size (by repeat (first | (with_reducible first | exact HB.out | apply below_alloc | apply pw_below_drewN | apply below_drew1) | exact HB.out))) hk)))); (case aO => exact (by (with_reducible repeat (first | apply Kd.N_alloc | apply Kd.N_drewN | apply Kd.N_drew)); exact HO_5.out)); (case aS => exact (below_size (by repeat (first | (with_reducible first | exact HB.out | apply below_alloc | apply pw_below_drewN | apply below_drew1) | exact HB.out)))); (case aL => have := LMc27.out; omega); intro v141 w28 ho hb hg hat; rw [← Ny140.out] at ho; have n0_ := Aside0.mk (Kd.V_afterv (ok := (fun k_ => (P1_ k_ ∨ w.heap.size ≤ k_))) (by (with_reducible repeat (first | apply Kd.V_alloc | apply Kd.V_drewN | apply Kd.V_drew)); exact HO_1.out) hg hat); have n1_ := Aside0.mk (Kd.V_afterv (ok := (fun k_ => (P1_ k_ ∨ w.heap.size ≤ k_))) (by (with_reducible repeat (first | apply Kd.V_alloc | apply Kd.V_drewN | apply Kd.V_drew)); exact HL138_3.out) hg hat); have n2_ := Aside0.mk (Kd.V_afterv (ok := (fun k_ => (P1_ k_ ∨ w.heap.size ≤ k_))) (by (with_reducible repeat (first | apply Kd.V_alloc | apply Kd.V_drewN | apply Kd.V_drew)); exact HL139_3.out) hg hat); have n3_ := Aside0.mk (hb); have n4_ := Aside0.mk (ho); clear HO_1; clear HL138_3; clear HL139_3; clear HB; clear HO_5; have HO_1 := n0_; have HL138_3 := n1_; have HL139_3 := n2_; have HB := n3_; have HO142 := n4_; clear n0_ n1_ n2_ n3_ n4_; clear ho hb hg hat))
                                        go_roundg k3
                                        case measure => have := HK1.out; have := HK2.out; have := HK3.out; omega
                                        case rel => exact ⟨(x4_3), (y140), (wrap64 (x9_2 + 1)), (wrap64 (x10_2 + 1)), (by first | rfl | (simp; done) | (simp [*]; done)), (by first | rfl | (simp; done) | (simp [*]; done)), (by first | rfl | (simp; done) | (simp [*]; done)), H', ⟨by have := HK1.out; have := HK2.out; have := HK3.out; omega⟩, ⟨by (with_reducible repeat (first | apply Kd.V_alloc | apply Kd.V_drewN | apply Kd.V_drew)); exact HO_1.out⟩, ⟨by (with_reducible repeat (first | apply Kd.N_alloc | apply Kd.N_drewN | apply Kd.N_drew)); exact HO142.out⟩, ⟨by repeat (first | (with_reducible first | exact HB.out | apply below_alloc | apply pw_below_drewN | apply below_drew1) | exact HB.out)⟩⟩
                                      · rw [if_neg c27] at H
                                        exact absurd H (by simp)
                                  · rw [if_neg c21] at H
                                    exact absurd H (by simp)
                                · rw [if_neg c20] at H
                                  exact absurd H (by simp)
                          · rw [if_neg c19] at H
                            have c19b0 : (((rd_T37 l1 x9_2).f0) == 5) = false := beq_eq_false_iff_ne.mpr c19
                            have c19b1 : (((rd_T37 l1 x9_2).f0) != 5) = true := bne_iff_ne.mpr c19
                            by_cases c29 : x4_2.size + 1 ≤ 9223372036854775807
                            · rw [if_pos c29] at H
                              have c29b0 := eq_true c29
                              have c29b1 : decide (x4_2.size + 1 ≤ 9223372036854775807) = true := decide_eq_true c29
                              try have c29b2 : (9223372036854775807 < x4_2.size + 1) = False := eq_false (Nat.not_lt.2 c29)
                              by_cases c30 : x5_2.length < 2513169434916
                              · rw [if_pos c30] at H
                                have LMc30 := Aside0.mk c30
                                clear c30
                                obtain ⟨y144, hy144⟩ : ∃ y_ : List (S37), y_ = (x5_2 ++ [(⟨(rd_T37 l1 x9_2).f0, (rd_T37 l1 x9_2).f1, (rd_T37 l1 x9_2).f2, (rd_T37 l1 x9_2).f3⟩ : S37)]) := ⟨_, rfl⟩
                                replace H : (spec_Expanded.l1 k2 a0 l1 (x4_2 ++ (⟨#[63]⟩ : ByteArray)) y144 (wrap64 (x9_2 + 1)) (wrap64 (x10_2 + 1))) = some (r1, r2, r3) := by first | (rw [hy144]; with_reducible exact H) | (have H2_ := (Option.bind_some _ _).symm.trans H; rw [hy144]; with_reducible exact H2_) | (have H2_ := (Option.bind_some _ _).symm.trans H; with_reducible exact H2_) | with_reducible exact H | (rw [hy144]; exact H) | exact H
                                have Ny144 := Aside0.mk hy144
                                clear hy144
                                have H' := Aside0.mk H
                                clear H
                                have p14 : 0 ≤ (x10_2 : Int) := of_decide_eq_true (by first | (with_reducible assumption) | assumption)
                                have q14 : x10_2 < (a0.size : Int) := of_decide_eq_true (by first | (with_reducible assumption) | assumption)
                                have hx14 := bt_at a0 x10_2
                                replace p14 := eq_true p14
                                replace q14 := eq_true q14
                                have p137 : 0 ≤ (x9_2 : Int) := of_decide_eq_true (by first | (with_reducible assumption) | assumption)
                                have q137 : x9_2 < (l1.length : Int) := of_decide_eq_true (by first | (with_reducible assumption) | assumption)
                                obtain ⟨ad137, A137_3, c137_3, e137, hx137_0, hx137_1, hx137_2, hx137_3, hl137_3, hi137_3⟩ := at_T37 (Kd.V_reads' HO_1.out).2.2 x9_2 p137 q137
                                cases e137
                                obtain ⟨ce137, hce137, hMe137, hcc137⟩ := Kd.V_get HO_1.out z37 x9_2 p137 (by first | exact q137 | exact of_decide_eq_true (by first | (with_reducible assumption) | assumption) | (have e_ := (Kd.V_reads' HO_1.out).1; omega))
                                obtain ⟨ua137_3, uc137_3, rfl, ul137_3, ge137_3⟩ := k37_openF hMe137
                                have hv137_3 := hcc137 3 _ rfl
                                rw [add_field _ _ 3 (by omega)] at hv137_3
                                replace hv137_3 := Option.some.inj (hv137_3.symm.trans hx137_3)
                                injection hv137_3 with hva_ hvn_ hvc_
                                rw [hva_] at ge137_3
                                rw [hvc_] at ul137_3
                                have HL137_3 := Aside0.mk (show Kd.V k37 37 _ w.heap.size _ _ ((rd_T37 l1 x9_2).f3) from Kd.V_mk ul137_3 ge137_3)
                                clear hva_ hvn_ hvc_ ge137_3 ul137_3
                                clear hcc137 hce137
                                have HR137_3 := Aside0.mk hi137_3
                                have HC137_3 := Aside0.mk hl137_3
                                clear hi137_3 hl137_3
                                replace p137 := eq_true p137
                                replace q137 := eq_true q137
                                have p143 : 0 ≤ (x9_2 : Int) := of_decide_eq_true (by first | (with_reducible assumption) | assumption)
                                have q143 : x9_2 < (l1.length : Int) := of_decide_eq_true (by first | (with_reducible assumption) | assumption)
                                obtain ⟨ad143, A143_3, c143_3, e143, hx143_0, hx143_1, hx143_2, hx143_3, hl143_3, hi143_3⟩ := at_T37 (Kd.V_reads' HO_1.out).2.2 x9_2 p143 q143
                                obtain rfl : ad137 = ad143 := (by injection e143)
                                obtain ⟨ce143, hce143, hMe143, hcc143⟩ := Kd.V_get HO_1.out z37 x9_2 p143 (by first | exact q143 | exact of_decide_eq_true (by first | (with_reducible assumption) | assumption) | (have e_ := (Kd.V_reads' HO_1.out).1; omega))
                                obtain ⟨ua143_3, uc143_3, rfl, ul143_3, ge143_3⟩ := k37_openF hMe143
                                have hv143_3 := hcc143 3 _ rfl
                                rw [add_field _ _ 3 (by omega)] at hv143_3
                                replace hv143_3 := Option.some.inj (hv143_3.symm.trans hx143_3)
                                injection hv143_3 with hva_ hvn_ hvc_
                                rw [hva_] at ge143_3
                                rw [hvc_] at ul143_3
                                have HL143_3 := Aside0.mk (show Kd.V k37 37 _ w.heap.size _ _ ((rd_T37 l1 x9_2).f3) from Kd.V_mk ul143_3 ge143_3)
                                clear hva_ hvn_ hvc_ ge143_3 ul143_3
                                clear hcc143 hce143
                                have HR143_3 := Aside0.mk hi143_3
                                have HC143_3 := Aside0.mk hl143_3
                                clear hi143_3 hl143_3
                                replace p143 := eq_true p143
                                replace q143 := eq_true q143
                                have ea_ := Option.some.inj (hx137_3.symm.trans hx143_3)
                                injection ea_ with ea_ en_ ec_
                                subst ea_
                                subst ec_
                                clear en_
                                go_wp2_with (first | ((with_reducible refine gate_builtin (b := .append) (xs := #[.tmp 54, .tmp 59]) rfl ?_); (try (refine gate_guard (by rfl) ?_; dsimp only)); at_builtin; refine Kd.N_append k37 (w0 := w) w.heap.size rfl (.tmp 54) (.tmp 59) 26 37 (.agg #[(.int .i64 0), (.int .i64 0), (.string ⟨#[]⟩), (.slice none 0 0)]) 56 rfl Try.underlying26 info37 rfl (by decide) (by omega) u5 x5_2 (⟨(rd_T37 l1 x9_2).f0, (rd_T37 l1 x9_2).f1, (rd_T37 l1 x9_2).f2, (rd_T37 l1 x9_2).f3⟩ : S37) [.int .i64 ((rd_T37 l1 x9_2).f0), .int .i64 ((rd_T37 l1 x9_2).f1), .string ((rd_T37 l1 x9_2).f2), .slice A137_3 ((rd_T37 l1 x9_2).f3).length c137_3] (fun k_ => (P1_ k_ ∨ w.heap.size ≤ k_)) (fun k_ => ((fun k_ => (P1_ k_ ∨ w.heap.size ≤ k_))) k_ ∧ some k_ ≠ (u5 : Value).ownBlock) rfl rfl ?aP (fun _ hk => hk) ?aF ?aO ?aB ?aS ?aL ?_; (case aP => exact (k37_mkF _ _ (⟨(rd_T37 l1 x9_2).f0, (rd_T37 l1 x9_2).f1, (rd_T37 l1 x9_2).f2, (rd_T37 l1 x9_2).f3⟩ : S37) (Kd.V_reads' (Kd.V_mono (ok' := (fun k_ => ((fun k_ => (P1_ k_ ∨ w.heap.size ≤ k_))) k_ ∧ some k_ ≠ (u5 : Value).ownBlock)) (HL143_3.out) (fun k_ hk => ⟨hk.1, hk.2⟩))).2.1 (Kd.V_F (Kd.V_mono (ok' := (fun k_ => ((fun k_ => (P1_ k_ ∨ w.heap.size ≤ k_))) k_ ∧ some k_ ≠ (u5 : Value).ownBlock)) (HL143_3.out) (fun k_ hk => ⟨hk.1, hk.2⟩))))); (case aB => exact (by repeat (first | (with_reducible first | exact HB.out | apply below_alloc | apply pw_below_drewN | apply below_drew1) | exact HB.out))); (case aF => exact (fun k_ hk => (.inr (Nat.le_trans (below_size (by repeat (first | (with_reducible first | exact HB.out | apply below_alloc | apply pw_below_drewN | apply below_drew1) | exact HB.out))) hk)))); (case aO => exact (by (with_reducible repeat (first | apply Kd.N_alloc | apply Kd.N_drewN | apply Kd.N_drew)); exact HO_5.out)); (case aS => exact (below_size (by repeat (first | (with_reducible first | exact HB.out | apply below_alloc | apply pw_below_drewN | apply below_drew1) | exact HB.out)))); (case aL => have := LMc30.out; omega); intro v145 w31 ho hb hg hat; rw [← Ny144.out] at ho; have n0_ := Aside0.mk (Kd.V_afterv (ok := (fun k_ => (P1_ k_ ∨ w.heap.size ≤ k_))) (by (with_reducible repeat (first | apply Kd.V_alloc | apply Kd.V_drewN | apply Kd.V_drew)); exact HO_1.out) hg hat); have n1_ := Aside0.mk (Kd.V_afterv (ok := (fun k_ => (P1_ k_ ∨ w.heap.size ≤ k_))) (by (with_reducible repeat (first | apply Kd.V_alloc | apply Kd.V_drewN | apply Kd.V_drew)); exact HL137_3.out) hg hat); have n2_ := Aside0.mk (Kd.V_afterv (ok := (fun k_ => (P1_ k_ ∨ w.heap.size ≤ k_))) (by (with_reducible repeat (first | apply Kd.V_alloc | apply Kd.V_drewN | apply Kd.V_drew)); exact HL143_3.out) hg hat); have n3_ := Aside0.mk (hb); have n4_ := Aside0.mk (ho); clear HO_1; clear HL137_3; clear HL143_3; clear HB; clear HO_5; have HO_1 := n0_; have HL137_3 := n1_; have HL143_3 := n2_; have HB := n3_; have HO146 := n4_; clear n0_ n1_ n2_ n3_ n4_; clear ho hb hg hat))
                                go_roundg k2
                                case measure => have := HK1.out; have := HK2.out; omega
                                case rel => exact ⟨(x4_2 ++ (⟨#[63]⟩ : ByteArray)), (y144), (wrap64 (x9_2 + 1)), (wrap64 (x10_2 + 1)), (by first | rfl | (simp; done) | (simp [*]; done)), (by first | rfl | (simp; done) | (simp [*]; done)), (by first | rfl | (simp; done) | (simp [*]; done)), H', ⟨by have := HK1.out; have := HK2.out; omega⟩, ⟨by (with_reducible repeat (first | apply Kd.V_alloc | apply Kd.V_drewN | apply Kd.V_drew)); exact HO_1.out⟩, ⟨by (with_reducible repeat (first | apply Kd.N_alloc | apply Kd.N_drewN | apply Kd.N_drew)); exact HO146.out⟩, ⟨by repeat (first | (with_reducible first | exact HB.out | apply below_alloc | apply pw_below_drewN | apply below_drew1) | exact HB.out)⟩⟩
                              · rw [if_neg c30] at H
                                exact absurd H (by simp)
                            · rw [if_neg c29] at H
                              exact absurd H (by simp)
                        · rw [if_neg c18] at H
                          exact absurd H (by simp)
                      · rw [if_neg c17] at H
                        exact absurd H (by simp)
                  · rw [if_neg c15] at H
                    have c15b0 : ((bt a0 x10_2) == 63) = false := beq_eq_false_iff_ne.mpr c15
                    have c15b1 : ((bt a0 x10_2) != 63) = true := bne_iff_ne.mpr c15
                    have c32b0 := eq_true (of_decide_eq_true (by first | (with_reducible assumption) | assumption) : 0 ≤ x10_2)
                    by_cases c33 : x10_2 ≤ (wrap64 (x10_2 + 1))
                    · rw [if_pos c33] at H
                      have c33b0 := eq_true c33
                      have c33b1 : decide (x10_2 ≤ (wrap64 (x10_2 + 1))) = true := decide_eq_true c33
                      by_cases c34 : (wrap64 (x10_2 + 1)) ≤ (a0.size : Int)
                      · rw [if_pos c34] at H
                        have c34b0 := eq_true c34
                        have c34b1 : decide ((wrap64 (x10_2 + 1)) ≤ (a0.size : Int)) = true := decide_eq_true c34
                        by_cases c35 : x4_2.size + (a0.extract (x10_2 : Int).toNat ((wrap64 (x10_2 + 1)) : Int).toNat).size ≤ 9223372036854775807
                        · rw [if_pos c35] at H
                          have c35b0 := eq_true c35
                          have c35b1 : decide (x4_2.size + (a0.extract (x10_2 : Int).toNat ((wrap64 (x10_2 + 1)) : Int).toNat).size ≤ 9223372036854775807) = true := decide_eq_true c35
                          try have c35b2 : (9223372036854775807 < x4_2.size + (a0.extract (x10_2 : Int).toNat ((wrap64 (x10_2 + 1)) : Int).toNat).size) = False := eq_false (Nat.not_lt.2 c35)
                          have H' := Aside0.mk H
                          clear H
                          have p14 : 0 ≤ (x10_2 : Int) := of_decide_eq_true (by first | (with_reducible assumption) | assumption)
                          have q14 : x10_2 < (a0.size : Int) := of_decide_eq_true (by first | (with_reducible assumption) | assumption)
                          have hx14 := bt_at a0 x10_2
                          replace p14 := eq_true p14
                          replace q14 := eq_true q14
                          go_wp2
                          go_roundg k2
                          case measure => have := HK1.out; have := HK2.out; omega
                          case rel => exact ⟨(x4_2 ++ (a0.extract (x10_2 : Int).toNat ((wrap64 (x10_2 + 1)) : Int).toNat)), (x5_2), (x9_2), (wrap64 (x10_2 + 1)), (by first | rfl | (simp; done) | (simp [*]; done)), (by first | rfl | (simp; done) | (simp [*]; done)), (by first | rfl | (simp; done) | (simp [*]; done)), H', ⟨by have := HK1.out; have := HK2.out; omega⟩, ⟨by (with_reducible repeat (first | apply Kd.V_alloc | apply Kd.V_drewN | apply Kd.V_drew)); exact HO_1.out⟩, ⟨by (with_reducible repeat (first | apply Kd.N_alloc | apply Kd.N_drewN | apply Kd.N_drew)); exact HO_5.out⟩, ⟨by repeat (first | (with_reducible first | exact HB.out | apply below_alloc | apply pw_below_drewN | apply below_drew1) | exact HB.out)⟩⟩
                        · rw [if_neg c35] at H
                          exact absurd H (by simp)
                      · rw [if_neg c34] at H
                        exact absurd H (by simp)
                    · rw [if_neg c33] at H
                      exact absurd H (by simp)
                · rw [if_neg c13] at H
                  exact absurd H (by simp)
              · rw [if_neg c12] at H
                have c12b0 : decide (x10_2 < (a0.size : Int)) = false := decide_eq_false c12
                clear c12
                by_cases c36 : x9_2 < (l1.length : Int)
                · rw [if_pos c36] at H
                  have c36b0 : decide (x9_2 < (l1.length : Int)) = true := decide_eq_true c36
                  clear c36
                  simp only [Option.some.injEq, Prod.mk.injEq] at H
                  obtain ⟨rfl, rfl, rfl⟩ := H
                  go_wp2
                  go_ret3
                  exact ⟨_, by first | rfl | (simp [errW_none, errW_some] <;> rfl) | (simp [*, errW_none, errW_some] <;> rfl), (by first | exact Kd.V_nil _ _ _ _ _ | exact Kd.N_V (Kd.N_nil _ _ _ _ _)), by repeat (first | (with_reducible first | exact HB.out | apply below_alloc | apply pw_below_drewN | apply below_drew1) | exact HB.out)⟩
                · rw [if_neg c36] at H
                  have c36b0 : decide (x9_2 < (l1.length : Int)) = false := decide_eq_false c36
                  clear c36
                  simp only [Option.some.injEq, Prod.mk.injEq] at H
                  obtain ⟨rfl, rfl, rfl⟩ := H
                  go_wp2
                  go_ret3
                  exact ⟨_, by first | rfl | (simp [errW_none, errW_some] <;> rfl) | (simp [*, errW_none, errW_some] <;> rfl), Kd.N_V (by (with_reducible repeat (first | apply Kd.N_alloc | apply Kd.N_drewN | apply Kd.N_drew)); exact HO_5.out), by repeat (first | (with_reducible first | exact HB.out | apply below_alloc | apply pw_below_drewN | apply below_drew1) | exact HB.out)⟩
        · replace c11 := Bool.eq_false_iff.mpr c11
          subst c11
          have H1 : (some (a0, l1, true)) = some (r1, r2, r3) := by rw [if_neg (show ¬ (false = true) by decide)] at H; exact H
          clear H
          have H := H1
          clear H1
          simp only [Option.some.injEq, Prod.mk.injEq] at H
          obtain ⟨rfl, rfl, rfl⟩ := H
          go_wp2
          go_ret3
          exact ⟨_, by first | rfl | (simp [errW_none, errW_some] <;> rfl) | (simp [*, errW_none, errW_some] <;> rfl), by (with_reducible repeat (first | apply Kd.V_alloc | apply Kd.V_drewN | apply Kd.V_drew)); exact Kd.V_mono HO_1.out (fun _ hk => hk.1), by repeat (first | (with_reducible first | exact HB.out | apply below_alloc | apply pw_below_drewN | apply below_drew1) | exact HB.out)⟩

end Go.Proofs.Ytlclbfhnllknkaa.QE
