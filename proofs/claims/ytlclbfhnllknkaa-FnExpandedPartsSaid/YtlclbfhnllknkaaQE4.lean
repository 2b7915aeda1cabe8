-- WRITTEN BY A PROGRAM OF THIS SESSION (wip/print2.py): the print, with contracts of this session's own let in. Not trusted: Lean checks it.
import Derived.Test.YtlclbfhnllknkaaQE0
namespace Go.Proofs.Ytlclbfhnllknkaa.QE
open Go.RowKit Go.Proofs.YtlclbfhnllknkaaW.PrintWords Go.Proofs.YtlclbfhnllknkaaW.PrintLast Go.Proofs.YtlclbfhnllknkaaW.PrintMore
attribute [local go_sem] max2_int min2_int max_two min_two max_three min_three max_four min_four   -- for this text's walks alone
set_option linter.unusedVariables false
set_option linter.unusedSimpArgs false

/-! ### spec_ValuesOf: function 9 -/
mutual
def spec_ValuesOf.l0 : Nat → List ByteArray → List (S41) → List (S37) → Int → Option ((List (S37)) × Bool)
  | 0, _, _, _, _ => none
  | k + 1, x0, x1, x6, x7 => if x7 < (x0.length : Int) then (spec_ValuesOf.l1 k x0 x1 x6 x7 false 0) else (some (x6, true))
def spec_ValuesOf.l1 : Nat → List ByteArray → List (S41) → List (S37) → Int → Bool → Int → Option ((List (S37)) × Bool)
  | 0, _, _, _, _, _, _ => none
  | k + 1, x0, x1, x6, x7, x8, x9 => if x9 < (x1.length : Int) then (spec_ValuesOf.j2 k x0 x1 x6 x7 x8 x9 (!x8)) else (spec_ValuesOf.j2 k x0 x1 x6 x7 x8 x9 false)
def spec_ValuesOf.j2 : Nat → List ByteArray → List (S41) → List (S37) → Int → Bool → Int → Bool → Option ((List (S37)) × Bool)
  | 0, _, _, _, _, _, _, _ => none
  | k + 1, x0, x1, x6, x7, x8, x9, x23 => if x23 = true then (if 0 ≤ x9 then (if x9 < (x1.length : Int) then (if 0 ≤ x7 then (if x7 < (x0.length : Int) then (if ((rd_T41 x1 x9).f0).toList = (rdOf ByteArray.empty x0 x7).toList then (if x6.length < 2513169434916 then (spec_ValuesOf.l1 k x0 x1 (x6 ++ [(⟨(rd_T41 x1 x9).f1.f0, (rd_T41 x1 x9).f1.f1, (rd_T41 x1 x9).f1.f2, (rd_T41 x1 x9).f1.f3⟩ : S37)]) x7 true (wrap64 (x9 + 1))) else (none)) else (spec_ValuesOf.l1 k x0 x1 x6 x7 x8 (wrap64 (x9 + 1)))) else (none)) else (none)) else (none)) else (none)) else (if x8 = true then (spec_ValuesOf.l0 k x0 x1 x6 (wrap64 (x7 + 1))) else (some (([] : List (S37)), false)))
end
def spec_ValuesOf.f (k : Nat) (l0 : List ByteArray) (l1 : List (S41)) : Option ((List (S37)) × Bool) := spec_ValuesOf.l0 k l0 l1 ([] : List (S37)) 0
theorem spec_ValuesOf.mono_l : ∀ k, (∀ y0 y1 y2 y3, LeO (spec_ValuesOf.l0 k y0 y1 y2 y3) (spec_ValuesOf.l0 (k + 1) y0 y1 y2 y3)) ∧ (∀ y0 y1 y2 y3 y4 y5, LeO (spec_ValuesOf.l1 k y0 y1 y2 y3 y4 y5) (spec_ValuesOf.l1 (k + 1) y0 y1 y2 y3 y4 y5)) ∧ (∀ y0 y1 y2 y3 y4 y5 y6, LeO (spec_ValuesOf.j2 k y0 y1 y2 y3 y4 y5 y6) (spec_ValuesOf.j2 (k + 1) y0 y1 y2 y3 y4 y5 y6))
  | 0 => ⟨fun _ _ _ _ r h => by simp [spec_ValuesOf.l0] at h, fun _ _ _ _ _ _ r h => by simp [spec_ValuesOf.l1] at h, fun _ _ _ _ _ _ _ r h => by simp [spec_ValuesOf.j2] at h⟩
  | k + 1 => by
    obtain ⟨ih0, ih1, ih2⟩ := spec_ValuesOf.mono_l k
    refine ⟨?_, ?_, ?_⟩
    · intro y0 y1 y2 y3
      unfold spec_ValuesOf.l0
      repeat' first
      | (with_reducible exact ih0 _ _ _ _)
      | (with_reducible exact ih1 _ _ _ _ _ _)
      | (with_reducible exact ih2 _ _ _ _ _ _ _)
      | (with_reducible exact LeO.refl _)
      | (with_reducible exact LeO.none _)
      | (with_reducible refine LeO.ite ?_ ?_)
      | (with_reducible refine LeO.bind ?_ (fun _ => ?_))
      | exact ih0 _ _ _ _
      | exact ih1 _ _ _ _ _ _
      | exact ih2 _ _ _ _ _ _ _
      | exact LeO.none _
      | refine LeO.ite ?_ ?_
      | refine LeO.bind ?_ (fun _ => ?_)
    · intro y0 y1 y2 y3 y4 y5
      unfold spec_ValuesOf.l1
      repeat' first
      | (with_reducible exact ih0 _ _ _ _)
      | (with_reducible exact ih1 _ _ _ _ _ _)
      | (with_reducible exact ih2 _ _ _ _ _ _ _)
      | (with_reducible exact LeO.refl _)
      | (with_reducible exact LeO.none _)
      | (with_reducible refine LeO.ite ?_ ?_)
      | (with_reducible refine LeO.bind ?_ (fun _ => ?_))
      | exact ih0 _ _ _ _
      | exact ih1 _ _ _ _ _ _
      | exact ih2 _ _ _ _ _ _ _
      | exact LeO.none _
      | refine LeO.ite ?_ ?_
      | refine LeO.bind ?_ (fun _ => ?_)
    · intro y0 y1 y2 y3 y4 y5 y6
      unfold spec_ValuesOf.j2
      repeat' first
      | (with_reducible exact ih0 _ _ _ _)
      | (with_reducible exact ih1 _ _ _ _ _ _)
      | (with_reducible exact ih2 _ _ _ _ _ _ _)
      | (with_reducible exact LeO.refl _)
      | (with_reducible exact LeO.none _)
      | (with_reducible refine LeO.ite ?_ ?_)
      | (with_reducible refine LeO.bind ?_ (fun _ => ?_))
      | exact ih0 _ _ _ _
      | exact ih1 _ _ _ _ _ _
      | exact ih2 _ _ _ _ _ _ _
      | exact LeO.none _
      | refine LeO.ite ?_ ?_
      | refine LeO.bind ?_ (fun _ => ?_)
theorem spec_ValuesOf.mono : ∀ a0 a1 k, LeO (spec_ValuesOf.f k a0 a1) (spec_ValuesOf.f (k + 1) a0 a1) := by
  intro a0 a1 k
  obtain ⟨ih0, ih1, ih2⟩ := spec_ValuesOf.mono_l k
  unfold spec_ValuesOf.f
  repeat' first
      | (with_reducible exact ih0 _ _ _ _)
      | (with_reducible exact ih1 _ _ _ _ _ _)
      | (with_reducible exact ih2 _ _ _ _ _ _ _)
      | (with_reducible exact LeO.refl _)
      | (with_reducible exact LeO.none _)
      | (with_reducible refine LeO.ite ?_ ?_)
      | (with_reducible refine LeO.bind ?_ (fun _ => ?_))
      | exact ih0 _ _ _ _
      | exact ih1 _ _ _ _ _ _
      | exact ih2 _ _ _ _ _ _ _
      | exact LeO.none _
      | refine LeO.ite ?_ ?_
      | refine LeO.bind ?_ (fun _ => ?_)
set_option maxHeartbeats 8000000 in
set_option maxRecDepth 100000 in
theorem spec_ValuesOf.calls (k : Nat) (A0 : Option Addr) (c0 : Nat) (l0 : List ByteArray) (P1_ : Nat → Prop) (A1 : Option Addr) (c1 : Nat) (l1 : List (S41)) (r1 : List (S37)) (r2 : Bool) (w : World) (hr0 : Kd.C Kd.string w A0 l0.length l0) (hc0 : l0.length ≤ c0) (hs1 : Kd.V k41 41 w w.heap.size (fun k_ => P1_ k_) (.slice A1 l1.length c1) l1) (h : spec_ValuesOf.f k l0 l1 = some (r1, r2)) :
    Calls Try.prog 9 #[.slice A0 l0.length c0, .slice A1 l1.length c1] w fun e w' => ∃ v0_ : Value, e = .returned (.tuple #[v0_, .bool r2]) ∧ Kd.N k37 37 w' w.heap.size (fun k_ => (P1_ k_ ∨ w.heap.size ≤ k_)) v0_ r1 ∧ Below w.heap.size w w' := by
  have hu37 := Try.underlying37
  have HR0 := Aside0.mk hr0
  have HC0 := Aside0.mk hc0
  clear hr0 hc0
  have HO1 := Aside0.mk (show Kd.V k41 41 w w.heap.size (fun k_ => (P1_ k_ ∨ w.heap.size ≤ k_)) (.slice A1 l1.length c1) l1 from Kd.V_mono hs1 (fun k_ hk => .inl hk))
  have HB := Aside0.mk (Below.refl w.heap.size w)
  have H : (spec_ValuesOf.l0 k l0 l1 ([] : List (S37)) 0) = some (r1, r2) := h
  clear h
  have H' := Aside0.mk H
  clear H
  go_enter Try.func9, Try.ntmps9
  go_wp2
  repeat (go_quiet (fail); try go_wp2)
  go_loopg [6, 7] k (fun kq v6 v7 w' => ∃ (x6_1 : List (S37)) (x7_1 : Int), v7 = .int .i64 x7_1 ∧ Aside0 (spec_ValuesOf.l0 kq l0 l1 x6_1 x7_1 = some (r1, r2)) ∧ Aside0 (kq ≤ k) ∧ Aside0 (Kd.V k41 41 w' w.heap.size (fun k_ => (P1_ k_ ∨ w.heap.size ≤ k_) ∧ some k_ ≠ (v6 : Value).ownBlock) (.slice A1 l1.length c1) l1) ∧ Aside0 (Kd.N k37 37 w' w.heap.size (fun k_ => (P1_ k_ ∨ w.heap.size ≤ k_)) v6 x6_1) ∧ Aside0 (Below w.heap.size w w'))
  case atStart => exact ⟨(([] : List (S37))), (0), (by first | rfl | (simp; done) | (simp [*]; done)), H', ⟨Nat.le_refl _⟩, ⟨by (with_reducible repeat (first | apply Kd.V_alloc | apply Kd.V_drewN | apply Kd.V_drew)); exact Kd.V_mono HO1.out (fun _ hk => ⟨hk, (by simp [Value.ownBlock])⟩)⟩, ⟨by first | exact Kd.R_nil _ _ _ _ _ | exact Kd.N_nil _ _ _ _ _ | exact Kd.V_nil _ _ _ _ _ | exact Kd.Q_nil _ _ _ _ _ | exact Kd.S_nil _ _ _ _ _⟩, ⟨by repeat (first | (with_reducible first | exact HB.out | apply below_alloc | apply pw_below_drewN | apply below_drew1) | exact HB.out)⟩⟩
  case round =>
    clear H'
    try clear c1
    try clear p2
    obtain ⟨x6_1, x7_1, rfl, HA, HK1, HO_1, HO_6, HB⟩ := hrel
    cases gk with
    | zero => exact absurd HA.out (by simp [spec_ValuesOf.l0])
    | succ k1 =>
      have H := HA.out
      clear HA
      simp only [spec_ValuesOf.l0] at H
      by_cases c3 : x7_1 < (l0.length : Int)
      · rw [if_pos c3] at H
        have c3b0 : decide (x7_1 < (l0.length : Int)) = true := decide_eq_true c3
        clear c3
        have H' := Aside0.mk H
        clear H
        go_wp2
        repeat (go_quiet (fail); try go_wp2)
        go_loopg [6, 8, 9] k1 (fun kq v6 v8 v9 w' => ∃ (x6_2 : List (S37)) (x8_2 : Bool) (x9_2 : Int), v8 = .bool x8_2 ∧ v9 = .int .i64 x9_2 ∧ Aside0 (spec_ValuesOf.l1 kq l0 l1 x6_2 x7_1 x8_2 x9_2 = some (r1, r2)) ∧ Aside0 (kq ≤ k1) ∧ Aside0 (Kd.V k41 41 w' w.heap.size (fun k_ => (P1_ k_ ∨ w.heap.size ≤ k_) ∧ some k_ ≠ (v6 : Value).ownBlock) (.slice A1 l1.length c1) l1) ∧ Aside0 (Kd.N k37 37 w' w.heap.size (fun k_ => (P1_ k_ ∨ w.heap.size ≤ k_)) v6 x6_2) ∧ Aside0 (Below w.heap.size w w'))
        case atStart => exact ⟨(x6_1), (false), (0), (by first | rfl | (simp; done) | (simp [*]; done)), (by first | rfl | (simp; done) | (simp [*]; done)), H', ⟨Nat.le_refl _⟩, ⟨by (with_reducible repeat (first | apply Kd.V_alloc | apply Kd.V_drewN | apply Kd.V_drew)); exact HO_1.out⟩, ⟨by (with_reducible repeat (first | apply Kd.N_alloc | apply Kd.N_drewN | apply Kd.N_drew)); exact HO_6.out⟩, ⟨by repeat (first | (with_reducible first | exact HB.out | apply below_alloc | apply pw_below_drewN | apply below_drew1) | exact HB.out)⟩⟩
        case round =>
          clear H'
          try clear c1
          try clear p2
          try clear c3
          try clear c3b0
          try clear p2
          obtain ⟨x6_2, x8_2, x9_2, rfl, rfl, HA, HK2, HO_1, HO_6, HB⟩ := hrel
          cases gk with
          | zero => exact absurd HA.out (by simp [spec_ValuesOf.l1])
          | succ k2 =>
            have H := HA.out
            clear HA
            simp only [spec_ValuesOf.l1] at H
            have HC4 := Aside0.mk H
            clear H
            go_upto_region 7 with (fail)
            repeat (go_quiet (fail); go_upto_region 7 with (fail))
            go_cut [23] (fun v23 wc => ∃ (kq : Nat) (x23_3 : Bool), v23 = .bool x23_3 ∧ Aside0 (spec_ValuesOf.j2 kq l0 l1 x6_2 x7_1 x8_2 x9_2 x23_3 = some (r1, r2)) ∧ Aside0 (kq ≤ k2) ∧ Aside0 (Kd.V k41 41 wc w.heap.size (fun k_ => (P1_ k_ ∨ w.heap.size ≤ k_) ∧ some k_ ≠ (u6 : Value).ownBlock) (.slice A1 l1.length c1) l1) ∧ Aside0 (Kd.N k37 37 wc w.heap.size (fun k_ => (P1_ k_ ∨ w.heap.size ≤ k_)) u6 x6_2) ∧ Aside0 (Below w.heap.size w wc))
            case first =>
              have H := HC4.out
              clear HC4
              by_cases c5 : x9_2 < (l1.length : Int)
              · rw [if_pos c5] at H
                have c5b0 : decide (x9_2 < (l1.length : Int)) = true := decide_eq_true c5
                clear c5
                (first | rw [c5b0] | (simp only [i64_w, i32_w]; rw [c5b0]) | skip)
                have H' := Aside0.mk H
                clear H
                go_wp2
                repeat (go_quiet (fail); try go_wp2)
                go_meet
                case rel => exact ⟨_, (!x8_2), (by first | rfl | (simp; done) | (simp [*]; done)), H', ⟨by have := HK1.out; have := HK2.out; first | omega | exact Nat.le_refl _⟩, ⟨by (with_reducible repeat (first | apply Kd.V_alloc | apply Kd.V_drewN | apply Kd.V_drew)); exact HO_1.out⟩, ⟨by (with_reducible repeat (first | apply Kd.N_alloc | apply Kd.N_drewN | apply Kd.N_drew)); exact HO_6.out⟩, ⟨by repeat (first | (with_reducible first | exact HB.out | apply below_alloc | apply pw_below_drewN | apply below_drew1) | exact HB.out)⟩⟩
              · rw [if_neg c5] at H
                have c5b0 : decide (x9_2 < (l1.length : Int)) = false := decide_eq_false c5
                clear c5
                (first | rw [c5b0] | (simp only [i64_w, i32_w]; rw [c5b0]) | skip)
                have H' := Aside0.mk H
                clear H
                go_wp2
                repeat (go_quiet (fail); try go_wp2)
                go_meet
                case rel => exact ⟨_, (false), (by first | rfl | (simp; done) | (simp [*]; done)), H', ⟨by have := HK1.out; have := HK2.out; first | omega | exact Nat.le_refl _⟩, ⟨by (with_reducible repeat (first | apply Kd.V_alloc | apply Kd.V_drewN | apply Kd.V_drew)); exact HO_1.out⟩, ⟨by (with_reducible repeat (first | apply Kd.N_alloc | apply Kd.N_drewN | apply Kd.N_drew)); exact HO_6.out⟩, ⟨by repeat (first | (with_reducible first | exact HB.out | apply below_alloc | apply pw_below_drewN | apply below_drew1) | exact HB.out)⟩⟩
            case rest =>
              clear HC4
              try clear c1
              try clear p2
              try clear c3
              try clear c3b0
              try clear c5
              try clear c5b0
              try clear p2
              obtain ⟨kq, x23_3, rfl, HA, HJ3, HO_1, HO_6, HB⟩ := hcut
              cases kq with
              | zero => exact absurd HA.out (by simp [spec_ValuesOf.j2])
              | succ kj3 =>
                have H := HA.out
                clear HA
                simp only [spec_ValuesOf.j2] at H
                by_cases c6 : x23_3 = true
                · subst c6
                  have H1 : (if 0 ≤ x9_2 then (if x9_2 < (l1.length : Int) then (if 0 ≤ x7_1 then (if x7_1 < (l0.length : Int) then (if ((rd_T41 l1 x9_2).f0).toList = (rdOf ByteArray.empty l0 x7_1).toList then (if x6_2.length < 2513169434916 then (spec_ValuesOf.l1 kj3 l0 l1 (x6_2 ++ [(⟨(rd_T41 l1 x9_2).f1.f0, (rd_T41 l1 x9_2).f1.f1, (rd_T41 l1 x9_2).f1.f2, (rd_T41 l1 x9_2).f1.f3⟩ : S37)]) x7_1 true (wrap64 (x9_2 + 1))) else (none)) else (spec_ValuesOf.l1 kj3 l0 l1 x6_2 x7_1 x8_2 (wrap64 (x9_2 + 1)))) else (none)) else (none)) else (none)) else (none)) = some (r1, r2) := by rw [if_pos rfl] at H; exact H
                  clear H
                  have H := H1
                  clear H1
                  by_cases c7 : 0 ≤ x9_2
                  · rw [if_pos c7] at H
                    have c7b0 : decide (0 ≤ x9_2) = true := decide_eq_true c7
                    clear c7
                    by_cases c8 : x9_2 < (l1.length : Int)
                    · rw [if_pos c8] at H
                      have c8b0 : decide (x9_2 < (l1.length : Int)) = true := decide_eq_true c8
                      clear c8
                      by_cases c9 : 0 ≤ x7_1
                      · rw [if_pos c9] at H
                        have c9b0 : decide (0 ≤ x7_1) = true := decide_eq_true c9
                        clear c9
                        by_cases c10 : x7_1 < (l0.length : Int)
                        · rw [if_pos c10] at H
                          have c10b0 : decide (x7_1 < (l0.length : Int)) = true := decide_eq_true c10
                          clear c10
                          by_cases c11 : ((rd_T41 l1 x9_2).f0).toList = (rdOf ByteArray.empty l0 x7_1).toList
                          · rw [if_pos c11] at H
                            have c11b0 : (((rd_T41 l1 x9_2).f0).toList == (rdOf ByteArray.empty l0 x7_1).toList) = true := beq_iff_eq.mpr c11
                            have c11b1 : (((rd_T41 l1 x9_2).f0).toList != (rdOf ByteArray.empty l0 x7_1).toList) = false := bne_eq_false_iff_eq.mpr c11
                            clear c11
                            by_cases c12 : x6_2.length < 2513169434916
                            · rw [if_pos c12] at H
                              have LMc12 := Aside0.mk c12
                              clear c12
                              obtain ⟨y116, hy116⟩ : ∃ y_ : List (S37), y_ = (x6_2 ++ [(⟨(rd_T41 l1 x9_2).f1.f0, (rd_T41 l1 x9_2).f1.f1, (rd_T41 l1 x9_2).f1.f2, (rd_T41 l1 x9_2).f1.f3⟩ : S37)]) := ⟨_, rfl⟩
                              replace H : (spec_ValuesOf.l1 kj3 l0 l1 y116 x7_1 true (wrap64 (x9_2 + 1))) = some (r1, r2) := by first | (rw [hy116]; with_reducible exact H) | (have H2_ := (Option.bind_some _ _).symm.trans H; rw [hy116]; with_reducible exact H2_) | (have H2_ := (Option.bind_some _ _).symm.trans H; with_reducible exact H2_) | with_reducible exact H | (rw [hy116]; exact H) | exact H
                              have Ny116 := Aside0.mk hy116
                              clear hy116
                              have H' := Aside0.mk H
                              clear H
                              have p113 : 0 ≤ (x9_2 : Int) := of_decide_eq_true (by first | (with_reducible assumption) | assumption)
                              have q113 : x9_2 < (l1.length : Int) := of_decide_eq_true (by first | (with_reducible assumption) | assumption)
                              obtain ⟨ad113, A113_4, c113_4, e113, hx113_0, hx113_1, hx113_2, hx113_3, hx113_4, hl113_4, hi113_4⟩ := at_T41 (Kd.V_reads' HO_1.out).2.2 x9_2 p113 q113
                              cases e113
                              obtain ⟨ce113, hce113, hMe113, hcc113⟩ := Kd.V_get HO_1.out z41 x9_2 p113 (by first | exact q113 | exact of_decide_eq_true (by first | (with_reducible assumption) | assumption) | (have e_ := (Kd.V_reads' HO_1.out).1; omega))
                              obtain ⟨ua113_4, uc113_4, rfl, ul113_4, ge113_4⟩ := k41_openF hMe113
                              have hv113_4 := hcc113 4 _ rfl
                              rw [add_field _ _ 4 (by omega)] at hv113_4
                              replace hv113_4 := Option.some.inj (hv113_4.symm.trans hx113_4)
                              injection hv113_4 with hva_ hvn_ hvc_
                              rw [hva_] at ge113_4
                              rw [hvc_] at ul113_4
                              have HL113_4 := Aside0.mk (show Kd.V k37 37 _ w.heap.size _ _ ((rd_T41 l1 x9_2).f1.f3) from Kd.V_mk ul113_4 ge113_4)
                              clear hva_ hvn_ hvc_ ge113_4 ul113_4
                              clear hcc113 hce113
                              have HR113_4 := Aside0.mk hi113_4
                              have HC113_4 := Aside0.mk hl113_4
                              clear hi113_4 hl113_4
                              replace p113 := eq_true p113
                              replace q113 := eq_true q113
                              have p114 : 0 ≤ (x7_1 : Int) := of_decide_eq_true (by first | (with_reducible assumption) | assumption)
                              have q114 : x7_1 < (l0.length : Int) := of_decide_eq_true (by first | (with_reducible assumption) | assumption)
                              obtain ⟨ad114, e114, hx114_0⟩ := Kd.at_string HR0.out x7_1 p114 q114
                              cases e114
                              replace hx114_0 := (HB.out.cell (World.block_lt_of_cell? w _ hx114_0)).trans hx114_0
                              replace p114 := eq_true p114
                              replace q114 := eq_true q114
                              have p115 : 0 ≤ (x9_2 : Int) := of_decide_eq_true (by first | (with_reducible assumption) | assumption)
                              have q115 : x9_2 < (l1.length : Int) := of_decide_eq_true (by first | (with_reducible assumption) | assumption)
                              obtain ⟨ad115, A115_4, c115_4, e115, hx115_0, hx115_1, hx115_2, hx115_3, hx115_4, hl115_4, hi115_4⟩ := at_T41 (Kd.V_reads' HO_1.out).2.2 x9_2 p115 q115
                              obtain rfl : ad113 = ad115 := (by injection e115)
                              obtain ⟨ce115, hce115, hMe115, hcc115⟩ := Kd.V_get HO_1.out z41 x9_2 p115 (by first | exact q115 | exact of_decide_eq_true (by first | (with_reducible assumption) | assumption) | (have e_ := (Kd.V_reads' HO_1.out).1; omega))
                              obtain ⟨ua115_4, uc115_4, rfl, ul115_4, ge115_4⟩ := k41_openF hMe115
                              have hv115_4 := hcc115 4 _ rfl
                              rw [add_field _ _ 4 (by omega)] at hv115_4
                              replace hv115_4 := Option.some.inj (hv115_4.symm.trans hx115_4)
                              injection hv115_4 with hva_ hvn_ hvc_
                              rw [hva_] at ge115_4
                              rw [hvc_] at ul115_4
                              have HL115_4 := Aside0.mk (show Kd.V k37 37 _ w.heap.size _ _ ((rd_T41 l1 x9_2).f1.f3) from Kd.V_mk ul115_4 ge115_4)
                              clear hva_ hvn_ hvc_ ge115_4 ul115_4
                              clear hcc115 hce115
                              have HR115_4 := Aside0.mk hi115_4
                              have HC115_4 := Aside0.mk hl115_4
                              clear hi115_4 hl115_4
                              replace p115 := eq_true p115
                              replace q115 := eq_true q115
                              have ea_ := Option.some.inj (hx113_4.symm.trans hx115_4)
                              injection ea_ with ea_ en_ ec_
                              subst ea_
                              subst ec_
                              clear en_
                              go_wp2_with (first | ((with_reducible refine gate_builtin (b := .append) (xs := #[.tmp 36, .tmp 42]) rfl ?_); at_builtin; refine Kd.N_append k37 (w0 := w) w.heap.size rfl (.tmp 36) (.tmp 42) 26 37 (.agg #[(.int .i64 0), (.int .i64 0), (.string ⟨#[]⟩), (.slice none 0 0)]) 56 rfl Try.underlying26 info37 rfl (by decide) (by omega) u6 x6_2 (⟨(rd_T41 l1 x9_2).f1.f0, (rd_T41 l1 x9_2).f1.f1, (rd_T41 l1 x9_2).f1.f2, (rd_T41 l1 x9_2).f1.f3⟩ : S37) [.int .i64 ((rd_T41 l1 x9_2).f1.f0), .int .i64 ((rd_T41 l1 x9_2).f1.f1), .string ((rd_T41 l1 x9_2).f1.f2), .slice A113_4 ((rd_T41 l1 x9_2).f1.f3).length c113_4] (fun k_ => (P1_ k_ ∨ w.heap.size ≤ k_)) (fun k_ => ((fun k_ => (P1_ k_ ∨ w.heap.size ≤ k_))) k_ ∧ some k_ ≠ (u6 : Value).ownBlock) rfl rfl ?aP (fun _ hk => hk) ?aF ?aO ?aB ?aS ?aL ?_; (case aP => exact (k37_mkF _ _ (⟨(rd_T41 l1 x9_2).f1.f0, (rd_T41 l1 x9_2).f1.f1, (rd_T41 l1 x9_2).f1.f2, (rd_T41 l1 x9_2).f1.f3⟩ : S37) HC115_4.out (Kd.V_F (Kd.V_mono (ok := (fun k_ => ((fun k_ => (P1_ k_ ∨ w.heap.size ≤ k_))) k_ ∧ some k_ ≠ (u6 : Value).ownBlock)) (ok' := (fun k_ => ((fun k_ => (P1_ k_ ∨ w.heap.size ≤ k_))) k_ ∧ some k_ ≠ (u6 : Value).ownBlock)) (by (with_reducible repeat (first | apply Kd.V_alloc | apply Kd.V_drewN | apply Kd.V_drew)); exact HL115_4.out) (fun k_ hk => ⟨hk.1, hk.2⟩))))); (case aB => exact (by repeat (first | (with_reducible first | exact HB.out | apply below_alloc | apply pw_below_drewN | apply below_drew1) | exact HB.out))); (case aF => exact (fun k_ hk => (.inr (Nat.le_trans (below_size (by repeat (first | (with_reducible first | exact HB.out | apply below_alloc | apply pw_below_drewN | apply below_drew1) | exact HB.out))) hk)))); (case aO => exact (by (with_reducible repeat (first | apply Kd.N_alloc | apply Kd.N_drewN | apply Kd.N_drew)); exact HO_6.out)); (case aS => exact (below_size (by repeat (first | (with_reducible first | exact HB.out | apply below_alloc | apply pw_below_drewN | apply below_drew1) | exact HB.out)))); (case aL => have := LMc12.out; omega); intro v117 w13 ho hb hg hat; rw [← Ny116.out] at ho; have n0_ := Aside0.mk (Kd.V_afterv (ok := (fun k_ => (P1_ k_ ∨ w.heap.size ≤ k_))) (by (with_reducible repeat (first | apply Kd.V_alloc | apply Kd.V_drewN | apply Kd.V_drew)); exact HO_1.out) hg hat); have n1_ := Aside0.mk (Kd.V_afterv (ok := (fun k_ => (P1_ k_ ∨ w.heap.size ≤ k_))) (by (with_reducible repeat (first | apply Kd.V_alloc | apply Kd.V_drewN | apply Kd.V_drew)); exact HL113_4.out) hg hat); have n2_ := Aside0.mk (Kd.V_afterv (ok := (fun k_ => (P1_ k_ ∨ w.heap.size ≤ k_))) (by (with_reducible repeat (first | apply Kd.V_alloc | apply Kd.V_drewN | apply Kd.V_drew)); exact HL115_4.out) hg hat); have n3_ := Aside0.mk (hb); have n4_ := Aside0.mk (ho); clear HO_1; clear HL113_4; clear HL115_4; clear HB; clear HO_6; have HO_1 := n0_; have HL113_4 := n1_; have HL115_4 := n2_; have HB := n3_; have HO118 := n4_; clear n0_ n1_ n2_ n3_ n4_; clear ho hb hg hat))
                              repeat (go_quiet (first | ((with_reducible refine gate_builtin (b := .append) (xs := #[.tmp 36, .tmp 42]) rfl ?_); at_builtin; refine Kd.N_append k37 (w0 := w) w.heap.size rfl (.tmp 36) (.tmp 42) 26 37 (.agg #[(.int .i64 0), (.int .i64 0), (.string ⟨#[]⟩), (.slice none 0 0)]) 56 rfl Try.underlying26 info37 rfl (by decide) (by omega) u6 x6_2 (⟨(rd_T41 l1 x9_2).f1.f0, (rd_T41 l1 x9_2).f1.f1, (rd_T41 l1 x9_2).f1.f2, (rd_T41 l1 x9_2).f1.f3⟩ : S37) [.int .i64 ((rd_T41 l1 x9_2).f1.f0), .int .i64 ((rd_T41 l1 x9_2).f1.f1), .string ((rd_T41 l1 x9_2).f1.f2), .slice A113_4 ((rd_T41 l1 x9_2).f1.f3).length c113_4] (fun k_ => (P1_ k_ ∨ w.heap.size ≤ k_)) (fun k_ => ((fun k_ => (P1_ k_ ∨ w.heap.size ≤ k_))) k_ ∧ some k_ ≠ (u6 : Value).ownBlock) rfl rfl ?aP (fun _ hk => hk) ?aF ?aO ?aB ?aS ?aL ?_; (case aP => exact (k37_mkF _ _ (⟨(rd_T41 l1 x9_2).f1.f0, (rd_T41 l1 x9_2).f1.f1, (rd_T41 l1 x9_2).f1.f2, (rd_T41 l1 x9_2).f1.f3⟩ : S37) HC115_4.out (Kd.V_F (Kd.V_mono (ok := (fun k_ => ((fun k_ => (P1_ k_ ∨ w.heap.size ≤ k_))) k_ ∧ some k_ ≠ (u6 : Value).ownBlock)) (ok' := (fun k_ => ((fun k_ => (P1_ k_ ∨ w.heap.size ≤ k_))) k_ ∧ some k_ ≠ (u6 : Value).ownBlock)) (by (with_reducible repeat (first | apply Kd.V_alloc | apply Kd.V_drewN | apply Kd.V_drew)); exact HL115_4.out) (fun k_ hk => ⟨hk.1, hk.2⟩))))); (case aB => exact (by repeat (first | (with_reducible first | exact HB.out | apply below_alloc | apply pw_below_drewN | apply below_drew1) | exact HB.out))); (case aF => exact (fun k_ hk => (.inr (Nat.le_trans (below_size (by repeat (first | (with_reducible first | exact HB.out | apply below_alloc | apply pw_below_drewN | apply below_drew1) | exact HB.out))) hk)))); (case aO => exact (by (with_reducible repeat (first | apply Kd.N_alloc | apply Kd.N_drewN | apply Kd.N_drew)); exact HO_6.out)); (case aS => exact (below_size (by repeat (first | (with_reducible first | exact HB.out | apply below_alloc | apply pw_below_drewN | apply below_drew1) | exact HB.out)))); (case aL => have := LMc12.out; omega); intro v117 w13 ho hb hg hat; rw [← Ny116.out] at ho; have n0_ := Aside0.mk (Kd.V_afterv (ok := (fun k_ => (P1_ k_ ∨ w.heap.size ≤ k_))) (by (with_reducible repeat (first | apply Kd.V_alloc | apply Kd.V_drewN | apply Kd.V_drew)); exact HO_1.out) hg hat); have n1_ := Aside0.mk (Kd.V_afterv (ok := (fun k_ => (P1_ k_ ∨ w.heap.size ≤ k_))) (by (with_reducible repeat (first | apply Kd.V_alloc | apply Kd.V_drewN | apply Kd.V_drew)); exact HL113_4.out) hg hat); have n2_ := Aside0.mk (Kd.V_afterv (ok := (fun k_ => (P1_ k_ ∨ w.heap.size ≤ k_))) (by (with_reducible repeat (first | apply Kd.V_alloc | apply Kd.V_drewN | apply Kd.V_drew)); exact HL115_4.out) hg hat); have n3_ := Aside0.mk (hb); have n4_ := Aside0.mk (ho); clear HO_1; clear HL113_4; clear HL115_4; clear HB; clear HO_6; have HO_1 := n0_; have HL113_4 := n1_; have HL115_4 := n2_; have HB := n3_; have HO118 := n4_; clear n0_ n1_ n2_ n3_ n4_; clear ho hb hg hat)); try go_wp2_with (first | ((with_reducible refine gate_builtin (b := .append) (xs := #[.tmp 36, .tmp 42]) rfl ?_); at_builtin; refine Kd.N_append k37 (w0 := w) w.heap.size rfl (.tmp 36) (.tmp 42) 26 37 (.agg #[(.int .i64 0), (.int .i64 0), (.string ⟨#[]⟩), (.slice none 0 0)]) 56 rfl Try.underlying26 info37 rfl (by decide) (by omega) u6 x6_2 (⟨(rd_T41 l1 x9_2).f1.f0, (rd_T41 l1 x9_2).f1.f1, (rd_T41 l1 x9_2).f1.f2, (rd_T41 l1 x9_2).f1.f3⟩ : S37) [.int .i64 ((rd_T41 l1 x9_2).f1.f0), .int .i64 ((rd_T41 l1 x9_2).f1.f1), .string ((rd_T41 l1 x9_2).f1.f2), .slice A113_4 ((rd_T41 l1 x9_2).f1.f3).length c113_4] (fun k_ => (P1_ k_ ∨ w.heap.size ≤ k_)) (fun k_ => ((fun k_ => (P1_ k_ ∨ w.heap.size ≤ k_))) k_ ∧ some k_ ≠ (u6 : Value).ownBlock) rfl rfl ?aP (fun _ hk => hk) ?aF ?aO ?aB ?aS ?aL ?_; (case aP => exact (k37_mkF _ _ (⟨(rd_T41 l1 x9_2).f1.f0, (rd_T41 l1 x9_2).f1.f1, (rd_T41 l1 x9_2).f1.f2, (rd_T41 l1 x9_2).f1.f3⟩ : S37) HC115_4.out (Kd.V_F (Kd.V_mono (ok := (fun k_ => ((fun k_ => (P1_ k_ ∨ w.heap.size ≤ k_))) k_ ∧ some k_ ≠ (u6 : Value).ownBlock)) (ok' := (fun k_ => ((fun k_ => (P1_ k_ ∨ w.heap.size ≤ k_))) k_ ∧ some k_ ≠ (u6 : Value).ownBlock)) (by (with_reducible repeat (first | apply Kd.V_alloc | apply Kd.V_drewN | apply Kd.V_drew)); exact HL115_4.out) (fun k_ hk => ⟨hk.1, hk.2⟩))))); (case aB => exact (by repeat (first | (with_reducible first | exact HB.out | apply below_alloc | apply pw_below_drewN | apply below_drew1) | exact HB.out))); (case aF => exact (fun k_ hk => (.inr (Nat.le_trans (below_size (by repeat (first | (with_reducible first | exact HB.out | apply below_alloc | apply pw_below_drewN | apply below_drew1) | exact HB.out))) hk)))); (case aO => exact (by (with_reducible repeat (first | apply Kd.N_alloc | apply Kd.N_drewN | apply Kd.N_drew)); exact HO_6.out)); (case aS => exact (below_size (by repeat (first | (with_reducible first | exact HB.out | apply below_alloc | apply pw_below_drewN | apply below_drew1) | exact HB.out)))); (case aL => have := LMc12.out; omega); intro v117 w13 ho hb hg hat; rw [← Ny116.out] at ho; have n0_ := Aside0.mk (Kd.V_afterv (ok := (fun k_ => (P1_ k_ ∨ w.heap.size ≤ k_))) (by (with_reducible repeat (first | apply Kd.V_alloc | apply Kd.V_drewN | apply Kd.V_drew)); exact HO_1.out) hg hat); have n1_ := Aside0.mk (Kd.V_afterv (ok := (fun k_ => (P1_ k_ ∨ w.heap.size ≤ k_))) (by (with_reducible repeat (first | apply Kd.V_alloc | apply Kd.V_drewN | apply Kd.V_drew)); exact HL113_4.out) hg hat); have n2_ := Aside0.mk (Kd.V_afterv (ok := (fun k_ => (P1_ k_ ∨ w.heap.size ≤ k_))) (by (with_reducible repeat (first | apply Kd.V_alloc | apply Kd.V_drewN | apply Kd.V_drew)); exact HL115_4.out) hg hat); have n3_ := Aside0.mk (hb); have n4_ := Aside0.mk (ho); clear HO_1; clear HL113_4; clear HL115_4; clear HB; clear HO_6; have HO_1 := n0_; have HL113_4 := n1_; have HL115_4 := n2_; have HB := n3_; have HO118 := n4_; clear n0_ n1_ n2_ n3_ n4_; clear ho hb hg hat)))
                              go_roundg kj3
                              case measure => have := HK1.out; have := HK2.out; have := HJ3.out; omega
                              case rel => exact ⟨(y116), (true), (wrap64 (x9_2 + 1)), (by first | rfl | (simp; done) | (simp [*]; done)), (by first | rfl | (simp; done) | (simp [*]; done)), H', ⟨by have := HK1.out; have := HK2.out; have := HJ3.out; omega⟩, ⟨by (with_reducible repeat (first | apply Kd.V_alloc | apply Kd.V_drewN | apply Kd.V_drew)); exact HO_1.out⟩, ⟨by (with_reducible repeat (first | apply Kd.N_alloc | apply Kd.N_drewN | apply Kd.N_drew)); exact HO118.out⟩, ⟨by repeat (first | (with_reducible first | exact HB.out | apply below_alloc | apply pw_below_drewN | apply below_drew1) | exact HB.out)⟩⟩
                            · rw [if_neg c12] at H
                              exact absurd H (by simp)
                          · rw [if_neg c11] at H
                            have c11b0 : (((rd_T41 l1 x9_2).f0).toList == (rdOf ByteArray.empty l0 x7_1).toList) = false := beq_eq_false_iff_ne.mpr c11
                            have c11b1 : (((rd_T41 l1 x9_2).f0).toList != (rdOf ByteArray.empty l0 x7_1).toList) = true := bne_iff_ne.mpr c11
                            have H' := Aside0.mk H
                            clear H
                            have p113 : 0 ≤ (x9_2 : Int) := of_decide_eq_true (by first | (with_reducible assumption) | assumption)
                            have q113 : x9_2 < (l1.length : Int) := of_decide_eq_true (by first | (with_reducible assumption) | assumption)
                            obtain ⟨ad113, A113_4, c113_4, e113, hx113_0, hx113_1, hx113_2, hx113_3, hx113_4, hl113_4, hi113_4⟩ := at_T41 (Kd.V_reads' HO_1.out).2.2 x9_2 p113 q113
                            cases e113
                            obtain ⟨ce113, hce113, hMe113, hcc113⟩ := Kd.V_get HO_1.out z41 x9_2 p113 (by first | exact q113 | exact of_decide_eq_true (by first | (with_reducible assumption) | assumption) | (have e_ := (Kd.V_reads' HO_1.out).1; omega))
                            obtain ⟨ua113_4, uc113_4, rfl, ul113_4, ge113_4⟩ := k41_openF hMe113
                            have hv113_4 := hcc113 4 _ rfl
                            rw [add_field _ _ 4 (by omega)] at hv113_4
                            replace hv113_4 := Option.some.inj (hv113_4.symm.trans hx113_4)
                            injection hv113_4 with hva_ hvn_ hvc_
                            rw [hva_] at ge113_4
                            rw [hvc_] at ul113_4
                            have HL113_4 := Aside0.mk (show Kd.V k37 37 _ w.heap.size _ _ ((rd_T41 l1 x9_2).f1.f3) from Kd.V_mk ul113_4 ge113_4)
                            clear hva_ hvn_ hvc_ ge113_4 ul113_4
                            clear hcc113 hce113
                            have HR113_4 := Aside0.mk hi113_4
                            have HC113_4 := Aside0.mk hl113_4
                            clear hi113_4 hl113_4
                            replace p113 := eq_true p113
                            replace q113 := eq_true q113
                            have p114 : 0 ≤ (x7_1 : Int) := of_decide_eq_true (by first | (with_reducible assumption) | assumption)
                            have q114 : x7_1 < (l0.length : Int) := of_decide_eq_true (by first | (with_reducible assumption) | assumption)
                            obtain ⟨ad114, e114, hx114_0⟩ := Kd.at_string HR0.out x7_1 p114 q114
                            cases e114
                            replace hx114_0 := (HB.out.cell (World.block_lt_of_cell? w _ hx114_0)).trans hx114_0
                            replace p114 := eq_true p114
                            replace q114 := eq_true q114
                            go_wp2
                            repeat (go_quiet (fail); try go_wp2)
                            go_roundg kj3
                            case measure => have := HK1.out; have := HK2.out; have := HJ3.out; omega
                            case rel => exact ⟨(x6_2), (x8_2), (wrap64 (x9_2 + 1)), (by first | rfl | (simp; done) | (simp [*]; done)), (by first | rfl | (simp; done) | (simp [*]; done)), H', ⟨by have := HK1.out; have := HK2.out; have := HJ3.out; omega⟩, ⟨by (with_reducible repeat (first | apply Kd.V_alloc | apply Kd.V_drewN | apply Kd.V_drew)); exact HO_1.out⟩, ⟨by (with_reducible repeat (first | apply Kd.N_alloc | apply Kd.N_drewN | apply Kd.N_drew)); exact HO_6.out⟩, ⟨by repeat (first | (with_reducible first | exact HB.out | apply below_alloc | apply pw_below_drewN | apply below_drew1) | exact HB.out)⟩⟩
                        · rw [if_neg c10] at H
                          exact absurd H (by simp)
                      · rw [if_neg c9] at H
                        exact absurd H (by simp)
                    · rw [if_neg c8] at H
                      exact absurd H (by simp)
                  · rw [if_neg c7] at H
                    exact absurd H (by simp)
                · replace c6 := Bool.eq_false_iff.mpr c6
                  subst c6
                  have H1 : (if x8_2 = true then (spec_ValuesOf.l0 kj3 l0 l1 x6_2 (wrap64 (x7_1 + 1))) else (some (([] : List (S37)), false))) = some (r1, r2) := by rw [if_neg (show ¬ (false = true) by decide)] at H; exact H
                  clear H
                  have H := H1
                  clear H1
                  by_cases c14 : x8_2 = true
                  · subst c14
                    have H1 : (spec_ValuesOf.l0 kj3 l0 l1 x6_2 (wrap64 (x7_1 + 1))) = some (r1, r2) := by rw [if_pos rfl] at H; exact H
                    clear H
                    have H := H1
                    clear H1
                    have H' := Aside0.mk H
                    clear H
                    go_wp2
                    repeat (go_quiet (fail); try go_wp2)
                    go_roundg kj3
                    case measure => have := HK1.out; have := HK2.out; have := HJ3.out; omega
                    case rel => exact ⟨(x6_2), (wrap64 (x7_1 + 1)), (by first | rfl | (simp; done) | (simp [*]; done)), H', ⟨by have := HK1.out; have := HK2.out; have := HJ3.out; omega⟩, ⟨by (with_reducible repeat (first | apply Kd.V_alloc | apply Kd.V_drewN | apply Kd.V_drew)); exact HO_1.out⟩, ⟨by (with_reducible repeat (first | apply Kd.N_alloc | apply Kd.N_drewN | apply Kd.N_drew)); exact HO_6.out⟩, ⟨by repeat (first | (with_reducible first | exact HB.out | apply below_alloc | apply pw_below_drewN | apply below_drew1) | exact HB.out)⟩⟩
                  · replace c14 := Bool.eq_false_iff.mpr c14
                    subst c14
                    have H1 : (some (([] : List (S37)), false)) = some (r1, r2) := by rw [if_neg (show ¬ (false = true) by decide)] at H; exact H
                    clear H
                    have H := H1
                    clear H1
                    simp only [Option.some.injEq, Prod.mk.injEq] at H
                    obtain ⟨rfl, rfl⟩ := H
                    go_wp2
                    repeat (go_quiet (fail); try go_wp2)
                    go_ret2
                    exact ⟨_, by first | rfl | (simp [errW_none, errW_some] <;> rfl) | (simp [*, errW_none, errW_some] <;> rfl), by first | exact Kd.R_nil _ _ _ _ _ | exact Kd.N_nil _ _ _ _ _ | exact Kd.V_nil _ _ _ _ _ | exact Kd.Q_nil _ _ _ _ _ | exact Kd.S_nil _ _ _ _ _, by repeat (first | (with_reducible first | exact HB.out | apply below_alloc | apply pw_below_drewN | apply below_drew1) | exact HB.out)⟩
      · rw [if_neg c3] at H
        have c3b0 : decide (x7_1 < (l0.length : Int)) = false := decide_eq_false c3
        clear c3
        simp only [Option.some.injEq, Prod.mk.injEq] at H
        obtain ⟨rfl, rfl⟩ := H
        go_wp2
        repeat (go_quiet (fail); try go_wp2)
        go_ret2
        exact ⟨_, by first | rfl | (simp [errW_none, errW_some] <;> rfl) | (simp [*, errW_none, errW_some] <;> rfl), by (with_reducible repeat (first | apply Kd.N_alloc | apply Kd.N_drewN | apply Kd.N_drew)); exact HO_6.out, by repeat (first | (with_reducible first | exact HB.out | apply below_alloc | apply pw_below_drewN | apply below_drew1) | exact HB.out)⟩

-- BY HAND: function 10 (impl_Bound)

-- BY HAND: function 11 (spec_EqualValues)

end Go.Proofs.Ytlclbfhnllknkaa.QE
