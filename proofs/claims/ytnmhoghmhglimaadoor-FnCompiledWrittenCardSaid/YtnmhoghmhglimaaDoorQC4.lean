-- WRITTEN BY A PROGRAM OF THIS SESSION (wip/print2.py): the print, with contracts of this session's own let in. Not trusted: Lean checks it.
import Derived.Test.YtnmhoghmhglimaaDoorQC0
import Derived.Test.YtnmhoghmhglimaaDoorQC1
import Derived.Test.YtnmhoghmhglimaaDoorQC3
namespace Go.Proofs.YtnmhoghmhglimaaDoor.QC
open Go.RowKit Go.Proofs.YtnmhoghmhglimaaDoorW.PrintWords Go.Proofs.YtnmhoghmhglimaaDoorW.PrintLast Go.Proofs.YtnmhoghmhglimaaDoorW.PrintMore
attribute [local go_sem] max2_int min2_int max_two min_two max_three min_three max_four min_four   -- for this text's walks alone
set_option linter.unusedVariables false
set_option linter.unusedSimpArgs false

/-! ### spec_Compiled: function 26 -/
mutual
def spec_Compiled.l0 : Nat → Int → ByteArray → List ByteArray → Bool → Bool → List (S72) → Int → Option (ByteArray × List ByteArray × Bool × Bool)
  | 0, _, _, _, _, _, _, _ => none
  | k + 1, x0, x4, x5, x6, x7, x8, x9 => if x9 < (x8.length : Int) then (spec_Compiled.j1 k x0 x4 x5 x6 x7 x8 x9 x6) else (spec_Compiled.j1 k x0 x4 x5 x6 x7 x8 x9 false)
def spec_Compiled.j1 : Nat → Int → ByteArray → List ByteArray → Bool → Bool → List (S72) → Int → Bool → Option (ByteArray × List ByteArray × Bool × Bool)
  | 0, _, _, _, _, _, _, _, _ => none
  | k + 1, x0, x4, x5, x6, x7, x8, x9, x22 => if x22 = true then (if 0 ≤ x9 then (if x9 < (x8.length : Int) then (if ((rd_T72 x8 x9).f0 = true) then (if x5.length < 8796093022208 then ((some (x5 ++ [(rd_T72 x8 x9).f1] : List ByteArray)).bind fun y136 => ((spec_Mark.f k x0 (y136.length : Int) ((rd_T72 x8 x9).f1)).bind fun t140 => (if x4.size + t140.size ≤ 9223372036854775807 then (spec_Compiled.l0 k x0 (x4 ++ t140) y136 x6 x7 x8 (wrap64 (x9 + 1))) else (none)))) else (none)) else (if x4.size + ((rd_T72 x8 x9).f1).size ≤ 9223372036854775807 then (spec_Compiled.l0 k x0 (x4 ++ ((rd_T72 x8 x9).f1)) x5 x6 x7 x8 (wrap64 (x9 + 1))) else (none))) else (none)) else (none)) else (if x6 = true then (some (x4, x5, true, x7)) else (some ((⟨#[]⟩ : ByteArray), ([] : List ByteArray), false, x7)))
end
def spec_Compiled.f (k : Nat) (a0 : Int) (a1 : ByteArray) : Option (ByteArray × List ByteArray × Bool × Bool) := (spec_Bits.f k a1).bind fun bt129 => (spec_Compiled.l0 k a0 (⟨#[]⟩ : ByteArray) ([] : List ByteArray) bt129.2.1 bt129.2.2 bt129.1 0)
theorem spec_Compiled.mono_l : ∀ k, (∀ y0 y1 y2 y3 y4 y5 y6, LeO (spec_Compiled.l0 k y0 y1 y2 y3 y4 y5 y6) (spec_Compiled.l0 (k + 1) y0 y1 y2 y3 y4 y5 y6)) ∧ (∀ y0 y1 y2 y3 y4 y5 y6 y7, LeO (spec_Compiled.j1 k y0 y1 y2 y3 y4 y5 y6 y7) (spec_Compiled.j1 (k + 1) y0 y1 y2 y3 y4 y5 y6 y7))
  | 0 => ⟨fun _ _ _ _ _ _ _ r h => by simp [spec_Compiled.l0] at h, fun _ _ _ _ _ _ _ _ r h => by simp [spec_Compiled.j1] at h⟩
  | k + 1 => by
    obtain ⟨ih0, ih1⟩ := spec_Compiled.mono_l k
    refine ⟨?_, ?_⟩
    · intro y0 y1 y2 y3 y4 y5 y6
      unfold spec_Compiled.l0
      repeat' first
      | (with_reducible exact ih0 _ _ _ _ _ _ _)
      | (with_reducible exact ih1 _ _ _ _ _ _ _ _)
      | (with_reducible exact spec_Bits.mono _ _)
      | (with_reducible exact spec_Mark.mono _ _ _ _)
      | (with_reducible exact LeO.refl _)
      | (with_reducible exact LeO.none _)
      | (with_reducible refine LeO.ite ?_ ?_)
      | (with_reducible refine LeO.bind ?_ (fun _ => ?_))
      | exact ih0 _ _ _ _ _ _ _
      | exact ih1 _ _ _ _ _ _ _ _
      | exact spec_Bits.mono _ _
      | exact spec_Mark.mono _ _ _ _
      | exact LeO.none _
      | refine LeO.ite ?_ ?_
      | refine LeO.bind ?_ (fun _ => ?_)
    · intro y0 y1 y2 y3 y4 y5 y6 y7
      unfold spec_Compiled.j1
      repeat' first
      | (with_reducible exact ih0 _ _ _ _ _ _ _)
      | (with_reducible exact ih1 _ _ _ _ _ _ _ _)
      | (with_reducible exact spec_Bits.mono _ _)
      | (with_reducible exact spec_Mark.mono _ _ _ _)
      | (with_reducible exact LeO.refl _)
      | (with_reducible exact LeO.none _)
      | (with_reducible refine LeO.ite ?_ ?_)
      | (with_reducible refine LeO.bind ?_ (fun _ => ?_))
      | exact ih0 _ _ _ _ _ _ _
      | exact ih1 _ _ _ _ _ _ _ _
      | exact spec_Bits.mono _ _
      | exact spec_Mark.mono _ _ _ _
      | exact LeO.none _
      | refine LeO.ite ?_ ?_
      | refine LeO.bind ?_ (fun _ => ?_)
theorem spec_Compiled.mono : ∀ a0 a1 k, LeO (spec_Compiled.f k a0 a1) (spec_Compiled.f (k + 1) a0 a1) := by
  intro a0 a1 k
  obtain ⟨ih0, ih1⟩ := spec_Compiled.mono_l k
  unfold spec_Compiled.f
  repeat' first
      | (with_reducible exact ih0 _ _ _ _ _ _ _)
      | (with_reducible exact ih1 _ _ _ _ _ _ _ _)
      | (with_reducible exact spec_Bits.mono _ _)
      | (with_reducible exact spec_Mark.mono _ _ _ _)
      | (with_reducible exact LeO.refl _)
      | (with_reducible exact LeO.none _)
      | (with_reducible refine LeO.ite ?_ ?_)
      | (with_reducible refine LeO.bind ?_ (fun _ => ?_))
      | exact ih0 _ _ _ _ _ _ _
      | exact ih1 _ _ _ _ _ _ _ _
      | exact spec_Bits.mono _ _
      | exact spec_Mark.mono _ _ _ _
      | exact LeO.none _
      | refine LeO.ite ?_ ?_
      | refine LeO.bind ?_ (fun _ => ?_)
set_option maxHeartbeats 8000000 in
set_option maxRecDepth 100000 in
theorem spec_Compiled.calls (k : Nat) (a0 : Int) (a1 : ByteArray) (r1 : ByteArray) (r2 : List ByteArray) (r3 : Bool) (r4 : Bool) (w : World) (h : spec_Compiled.f k a0 a1 = some (r1, r2, r3, r4)) :
    Calls Tryd.prog 26 #[.int .i64 a0, .string a1] w fun e w' => ∃ v1_ : Value, e = .returned (.tuple #[.string r1, v1_, .bool r3, .bool r4]) ∧ Kd.R Kd.string 9 w' w.heap.size (fun _ => True) v1_ r2 ∧ Below w.heap.size w w' := by
  have HB := Aside0.mk (Below.refl w.heap.size w)
  have H : ((spec_Bits.f k a1).bind fun bt129 => (spec_Compiled.l0 k a0 (⟨#[]⟩ : ByteArray) ([] : List ByteArray) bt129.2.1 bt129.2.2 bt129.1 0)) = some (r1, r2, r3, r4) := h
  clear h
  replace H := Option.bind_eq_some_iff.mp H
  obtain ⟨⟨t129, t130, t131⟩, A30, H⟩ := H
  replace H : (spec_Compiled.l0 k a0 (⟨#[]⟩ : ByteArray) ([] : List ByteArray) t130 t131 t129 0) = some (r1, r2, r3, r4) := H
  have A3 := Aside0.mk A30
  clear A30
  have H' := Aside0.mk H
  clear H
  go_enter Tryd.func26, Tryd.ntmps26
  go_wp2_with (first | ((with_reducible refine gate_callee (f := 51) rfl ?_); refine goesL_ (some 12) rfl rfl Tryd.func51 (by kernel_rfl) rfl #[.string a1] rfl (by (try simp only [List.map_toArray, List.map_cons, List.map_nil]); first | done | rfl | (simp only [List.length_drop, List.length_take]; rfl)) ?_; (with_reducible refine (spec_Bits.calls k a1 t129 t130 t131 _ A3.out).mono ?_); rintro e w4 ⟨v132, rfl, ho0, hb⟩; refine ⟨_, rfl, ?_⟩; have n0_ := Aside0.mk (Kd.R_lower ho0 (below_size (by repeat (first | (with_reducible first | exact HB.out | apply below_alloc | apply pw_below_drewN | apply below_drew1) | exact HB.out)))); have n1_ := Aside0.mk (below_step (by repeat (first | (with_reducible first | exact HB.out | apply below_alloc | apply pw_below_drewN | apply below_drew1) | exact HB.out)) hb); clear HB; have HO133 := n0_; have HB := n1_; clear n0_ n1_; (try clear hb); (try clear hb2); (try clear hk); (try clear hi); (try clear ho0)))
  go_loopg [4, 5, 9] k (fun kq v4 v5 v9 w' => ∃ (x4_1 : ByteArray) (x5_1 : List ByteArray) (x9_1 : Int), v4 = .string x4_1 ∧ v9 = .int .i64 x9_1 ∧ Aside0 (spec_Compiled.l0 kq a0 x4_1 x5_1 t130 t131 t129 x9_1 = some (r1, r2, r3, r4)) ∧ Aside0 (kq ≤ k) ∧ Aside0 (Kd.R Kd.string 9 w' w.heap.size (fun _ => True) v5 x5_1) ∧ Aside0 (Kd.R k72 72 w' w.heap.size (fun _ => True) v132 t129) ∧ Aside0 (Below w.heap.size w w'))
  case atStart => exact ⟨((⟨#[]⟩ : ByteArray)), (([] : List ByteArray)), (0), (by first | rfl | (simp; done) | (simp [*]; done)), (by first | rfl | (simp; done) | (simp [*]; done)), H', ⟨Nat.le_refl _⟩, ⟨by first | exact Kd.R_nil _ _ _ _ _ | exact Kd.N_nil _ _ _ _ _ | exact Kd.V_nil _ _ _ _ _ | exact Kd.Q_nil _ _ _ _ _ | exact Kd.S_nil _ _ _ _ _⟩, ⟨by (with_reducible repeat (first | apply Kd.R_alloc | apply Kd.R_drewN | apply Kd.R_drew)); exact HO133.out⟩, ⟨by repeat (first | (with_reducible first | exact HB.out | apply below_alloc | apply pw_below_drewN | apply below_drew1) | exact HB.out)⟩⟩
  case round =>
    clear H'
    try clear c2
    try clear p2
    obtain ⟨x4_1, x5_1, x9_1, rfl, rfl, HA, HK1, HO_5, HO_8, HB⟩ := hrel
    cases gk with
    | zero => exact absurd HA.out (by simp [spec_Compiled.l0])
    | succ k1 =>
      have H := HA.out
      clear HA
      simp only [spec_Compiled.l0] at H
      have HC5 := Aside0.mk H
      clear H
      go_upto_region 3 with (fail)
      go_cut [22] (fun v22 wc => ∃ (kq : Nat) (x22_4 : Bool), v22 = .bool x22_4 ∧ Aside0 (spec_Compiled.j1 kq a0 x4_1 x5_1 t130 t131 t129 x9_1 x22_4 = some (r1, r2, r3, r4)) ∧ Aside0 (kq ≤ k1) ∧ Aside0 (Kd.R Kd.string 9 wc w.heap.size (fun _ => True) u5 x5_1) ∧ Aside0 (Kd.R k72 72 wc w.heap.size (fun _ => True) v132 t129) ∧ Aside0 (Below w.heap.size w wc))
      case first =>
        have H := HC5.out
        clear HC5
        by_cases c6 : x9_1 < (t129.length : Int)
        · rw [if_pos c6] at H
          have c6b0 : decide (x9_1 < (t129.length : Int)) = true := decide_eq_true c6
          clear c6
          (first | rw [c6b0] | (simp only [i64_w, i32_w]; rw [c6b0]) | skip)
          have H' := Aside0.mk H
          clear H
          obtain ⟨Ao7, co7, eo7⟩ := Kd.R_slice HO_8.out
          subst eo7
          go_wp2
          go_meet
          case rel => exact ⟨_, (t130), (by first | rfl | (simp; done) | (simp [*]; done)), H', ⟨by have := HK1.out; first | omega | exact Nat.le_refl _⟩, ⟨by (with_reducible repeat (first | apply Kd.R_alloc | apply Kd.R_drewN | apply Kd.R_drew)); exact HO_5.out⟩, ⟨by (with_reducible repeat (first | apply Kd.R_alloc | apply Kd.R_drewN | apply Kd.R_drew)); exact HO_8.out⟩, ⟨by repeat (first | (with_reducible first | exact HB.out | apply below_alloc | apply pw_below_drewN | apply below_drew1) | exact HB.out)⟩⟩
        · rw [if_neg c6] at H
          have c6b0 : decide (x9_1 < (t129.length : Int)) = false := decide_eq_false c6
          clear c6
          (first | rw [c6b0] | (simp only [i64_w, i32_w]; rw [c6b0]) | skip)
          have H' := Aside0.mk H
          clear H
          obtain ⟨Ao8, co8, eo8⟩ := Kd.R_slice HO_8.out
          subst eo8
          go_wp2
          go_meet
          case rel => exact ⟨_, (false), (by first | rfl | (simp; done) | (simp [*]; done)), H', ⟨by have := HK1.out; first | omega | exact Nat.le_refl _⟩, ⟨by (with_reducible repeat (first | apply Kd.R_alloc | apply Kd.R_drewN | apply Kd.R_drew)); exact HO_5.out⟩, ⟨by (with_reducible repeat (first | apply Kd.R_alloc | apply Kd.R_drewN | apply Kd.R_drew)); exact HO_8.out⟩, ⟨by repeat (first | (with_reducible first | exact HB.out | apply below_alloc | apply pw_below_drewN | apply below_drew1) | exact HB.out)⟩⟩
      case rest =>
        clear HC5
        try clear c2
        try clear p2
        try clear c5
        try clear c6
        try clear c6b0
        try clear p2
        obtain ⟨kq, x22_4, rfl, HA, HJ4, HO_5, HO_8, HB⟩ := hcut
        cases kq with
        | zero => exact absurd HA.out (by simp [spec_Compiled.j1])
        | succ kj4 =>
          have H := HA.out
          clear HA
          simp only [spec_Compiled.j1] at H
          by_cases c9 : x22_4 = true
          · subst c9
            have H1 : (if 0 ≤ x9_1 then (if x9_1 < (t129.length : Int) then (if ((rd_T72 t129 x9_1).f0 = true) then (if x5_1.length < 8796093022208 then ((some (x5_1 ++ [(rd_T72 t129 x9_1).f1] : List ByteArray)).bind fun y136 => ((spec_Mark.f kj4 a0 (y136.length : Int) ((rd_T72 t129 x9_1).f1)).bind fun t140 => (if x4_1.size + t140.size ≤ 9223372036854775807 then (spec_Compiled.l0 kj4 a0 (x4_1 ++ t140) y136 t130 t131 t129 (wrap64 (x9_1 + 1))) else (none)))) else (none)) else (if x4_1.size + ((rd_T72 t129 x9_1).f1).size ≤ 9223372036854775807 then (spec_Compiled.l0 kj4 a0 (x4_1 ++ ((rd_T72 t129 x9_1).f1)) x5_1 t130 t131 t129 (wrap64 (x9_1 + 1))) else (none))) else (none)) else (none)) = some (r1, r2, r3, r4) := by rw [if_pos rfl] at H; exact H
            clear H
            have H := H1
            clear H1
            by_cases c10 : 0 ≤ x9_1
            · rw [if_pos c10] at H
              have c10b0 : decide (0 ≤ x9_1) = true := decide_eq_true c10
              clear c10
              by_cases c11 : x9_1 < (t129.length : Int)
              · rw [if_pos c11] at H
                have c11b0 : decide (x9_1 < (t129.length : Int)) = true := decide_eq_true c11
                clear c11
                obtain ⟨bq12, hbq12⟩ : ∃ b_ : Bool, b_ = ((rd_T72 t129 x9_1).f0) := ⟨_, rfl⟩
                replace H : (if (bq12 = true) then (if x5_1.length < 8796093022208 then ((some (x5_1 ++ [(rd_T72 t129 x9_1).f1] : List ByteArray)).bind fun y136 => ((spec_Mark.f kj4 a0 (y136.length : Int) ((rd_T72 t129 x9_1).f1)).bind fun t140 => (if x4_1.size + t140.size ≤ 9223372036854775807 then (spec_Compiled.l0 kj4 a0 (x4_1 ++ t140) y136 t130 t131 t129 (wrap64 (x9_1 + 1))) else (none)))) else (none)) else (if x4_1.size + ((rd_T72 t129 x9_1).f1).size ≤ 9223372036854775807 then (spec_Compiled.l0 kj4 a0 (x4_1 ++ ((rd_T72 t129 x9_1).f1)) x5_1 t130 t131 t129 (wrap64 (x9_1 + 1))) else (none))) = some (r1, r2, r3, r4) := by rw [← hbq12] at H; exact H
                have Nbq12 := Aside0.mk hbq12
                clear hbq12
                by_cases c13 : (bq12 = true)
                · subst c13
                  have H1 : (if x5_1.length < 8796093022208 then ((some (x5_1 ++ [(rd_T72 t129 x9_1).f1] : List ByteArray)).bind fun y136 => ((spec_Mark.f kj4 a0 (y136.length : Int) ((rd_T72 t129 x9_1).f1)).bind fun t140 => (if x4_1.size + t140.size ≤ 9223372036854775807 then (spec_Compiled.l0 kj4 a0 (x4_1 ++ t140) y136 t130 t131 t129 (wrap64 (x9_1 + 1))) else (none)))) else (none)) = some (r1, r2, r3, r4) := by rw [if_pos rfl] at H; exact H
                  clear H
                  have H := H1
                  clear H1
                  by_cases c14 : x5_1.length < 8796093022208
                  · rw [if_pos c14] at H
                    have LMc14 := Aside0.mk c14
                    clear c14
                    obtain ⟨y136, hy136⟩ : ∃ y_ : List ByteArray, y_ = (x5_1 ++ [(rd_T72 t129 x9_1).f1]) := ⟨_, rfl⟩
                    replace H : ((spec_Mark.f kj4 a0 (y136.length : Int) ((rd_T72 t129 x9_1).f1)).bind fun t140 => (if x4_1.size + t140.size ≤ 9223372036854775807 then (spec_Compiled.l0 kj4 a0 (x4_1 ++ t140) y136 t130 t131 t129 (wrap64 (x9_1 + 1))) else (none))) = some (r1, r2, r3, r4) := by first | (rw [hy136]; with_reducible exact H) | (have H2_ := (Option.bind_some _ _).symm.trans H; rw [hy136]; with_reducible exact H2_) | (have H2_ := (Option.bind_some _ _).symm.trans H; with_reducible exact H2_) | with_reducible exact H | (rw [hy136]; exact H) | exact H
                    have Ny136 := Aside0.mk hy136
                    clear hy136
                    replace H := Option.bind_eq_some_iff.mp H
                    obtain ⟨t140, A150, H⟩ := H
                    replace H : (if x4_1.size + t140.size ≤ 9223372036854775807 then (spec_Compiled.l0 kj4 a0 (x4_1 ++ t140) y136 t130 t131 t129 (wrap64 (x9_1 + 1))) else (none)) = some (r1, r2, r3, r4) := H
                    have A15 := Aside0.mk A150
                    clear A150
                    by_cases c16 : x4_1.size + t140.size ≤ 9223372036854775807
                    · rw [if_pos c16] at H
                      have c16b0 := eq_true c16
                      have c16b1 : decide (x4_1.size + t140.size ≤ 9223372036854775807) = true := decide_eq_true c16
                      try have c16b2 : (9223372036854775807 < x4_1.size + t140.size) = False := eq_false (Nat.not_lt.2 c16)
                      have H' := Aside0.mk H
                      clear H
                      obtain ⟨Ao17, co17, eo17⟩ := Kd.R_slice HO_8.out
                      subst eo17
                      have p134 : 0 ≤ (x9_1 : Int) := of_decide_eq_true (by first | (with_reducible assumption) | assumption)
                      have q134 : x9_1 < (t129.length : Int) := of_decide_eq_true (by first | (with_reducible assumption) | assumption)
                      obtain ⟨ad134, e134, hx134_0, hx134_1⟩ := at_T72 (Kd.R_reads' HO_8.out).2.2 x9_1 p134 q134
                      (try rw [← Nbq12.out] at hx134_0)
                      cases e134
                      replace p134 := eq_true p134
                      replace q134 := eq_true q134
                      have p135 : 0 ≤ (x9_1 : Int) := of_decide_eq_true (by first | (with_reducible assumption) | assumption)
                      have q135 : x9_1 < (t129.length : Int) := of_decide_eq_true (by first | (with_reducible assumption) | assumption)
                      obtain ⟨ad135, e135, hx135_0, hx135_1⟩ := at_T72 (Kd.R_reads' HO_8.out).2.2 x9_1 p135 q135
                      (try rw [← Nbq12.out] at hx135_0)
                      obtain rfl : ad134 = ad135 := (by injection e135)
                      replace p135 := eq_true p135
                      replace q135 := eq_true q135
                      go_wp2_with (first | ((with_reducible refine gate_builtin (b := .append) (xs := #[.tmp 38, .tmp 44]) rfl ?_); at_builtin; refine Kd.R_append Kd.string (w0 := w) w.heap.size rfl (.tmp 38) (.tmp 44) 30 9 (.string ⟨#[]⟩) 16 rfl Tryd.underlying30 info9 rfl (by decide) (by omega) u5 x5_1 ((rd_T72 t129 x9_1).f1) [.string ((rd_T72 t129 x9_1).f1)] (fun _ => True) (fun _ => False) rfl rfl ?aP (fun _ hk => hk.elim) ?aF ?aO ?aB ?aS ?aL ?_; (case aP => exact rfl); (case aB => exact (by repeat (first | (with_reducible first | exact HB.out | apply below_alloc | apply pw_below_drewN | apply below_drew1) | exact HB.out))); (case aF => exact (fun _ _ => trivial)); (case aO => exact (by (with_reducible repeat (first | apply Kd.R_alloc | apply Kd.R_drewN | apply Kd.R_drew)); exact HO_5.out)); (case aS => exact (below_size (by repeat (first | (with_reducible first | exact HB.out | apply below_alloc | apply pw_below_drewN | apply below_drew1) | exact HB.out)))); (case aL => have := LMc14.out; omega); intro v137 w18 ho hb hg hat; rw [← Ny136.out] at ho; have n0_ := Aside0.mk (Kd.R_over' (by (with_reducible repeat (first | apply Kd.R_alloc | apply Kd.R_drewN | apply Kd.R_drew)); exact HO_8.out) (Kd.R_typed (by (with_reducible repeat (first | apply Kd.R_alloc | apply Kd.R_drewN | apply Kd.R_drew)); exact HO_5.out)) (by decide) hg); have n1_ := Aside0.mk (hb); have n2_ := Aside0.mk (ho); clear HO_8; clear HB; clear HO_5; have HO_8 := n0_; have HB := n1_; have HO138 := n2_; clear n0_ n1_ n2_; clear ho hb hg hat; obtain ⟨Ao19, co19, eo19⟩ := Kd.R_slice HO138.out; subst eo19; have p139 : 0 ≤ (x9_1 : Int) := of_decide_eq_true (by first | (with_reducible assumption) | assumption); have q139 : x9_1 < (t129.length : Int) := of_decide_eq_true (by first | (with_reducible assumption) | assumption); obtain ⟨ad139, e139, hx139_0, hx139_1⟩ := at_T72 (Kd.R_reads' HO_8.out).2.2 x9_1 p139 q139; (try rw [← Nbq12.out] at hx139_0); obtain rfl : ad134 = ad139 := (by injection e139); replace p139 := eq_true p139; replace q139 := eq_true q139) | ((with_reducible refine gate_callee (f := 32) rfl ?_); refine goesL_ (some 55) rfl rfl Tryd.func32 (by kernel_rfl) rfl #[.int .i64 a0, .int .i64 (y136.length : Int), .string ((rd_T72 t129 x9_1).f1)] rfl (by (try simp only [List.map_toArray, List.map_cons, List.map_nil]); first | done | rfl | (simp only [List.length_drop, List.length_take]; rfl)) ?_; (with_reducible refine (spec_Mark.calls kj4 a0 (y136.length : Int) ((rd_T72 t129 x9_1).f1) t140 _ A15.out).mono ?_); rintro e w20 ⟨rfl, hb⟩; refine ⟨_, rfl, ?_⟩; have n0_ := Aside0.mk (Kd.R_below (by (with_reducible repeat (first | apply Kd.R_alloc | apply Kd.R_drewN | apply Kd.R_drew)); exact HO_8.out) hb); have n1_ := Aside0.mk (Kd.R_below (by (with_reducible repeat (first | apply Kd.R_alloc | apply Kd.R_drewN | apply Kd.R_drew)); exact HO138.out) hb); have n2_ := Aside0.mk (below_step (by repeat (first | (with_reducible first | exact HB.out | apply below_alloc | apply pw_below_drewN | apply below_drew1) | exact HB.out)) hb); clear HO_8; clear HO138; clear HB; have HO_8 := n0_; have HO138 := n1_; have HB := n2_; clear n0_ n1_ n2_; (try clear hb); (try clear hb2); (try clear hk); (try clear hi)))
                      go_roundg kj4
                      case measure => have := HK1.out; have := HJ4.out; omega
                      case rel => exact ⟨(x4_1 ++ t140), (y136), (wrap64 (x9_1 + 1)), (by first | rfl | (simp; done) | (simp [*]; done)), (by first | rfl | (simp; done) | (simp [*]; done)), H', ⟨by have := HK1.out; have := HJ4.out; omega⟩, ⟨by (with_reducible repeat (first | apply Kd.R_alloc | apply Kd.R_drewN | apply Kd.R_drew)); exact HO138.out⟩, ⟨by (with_reducible repeat (first | apply Kd.R_alloc | apply Kd.R_drewN | apply Kd.R_drew)); exact HO_8.out⟩, ⟨by repeat (first | (with_reducible first | exact HB.out | apply below_alloc | apply pw_below_drewN | apply below_drew1) | exact HB.out)⟩⟩
                    · rw [if_neg c16] at H
                      exact absurd H (by simp)
                  · rw [if_neg c14] at H
                    exact absurd H (by simp)
                · replace c13 := Bool.eq_false_iff.mpr c13
                  subst c13
                  have H1 : (if x4_1.size + ((rd_T72 t129 x9_1).f1).size ≤ 9223372036854775807 then (spec_Compiled.l0 kj4 a0 (x4_1 ++ ((rd_T72 t129 x9_1).f1)) x5_1 t130 t131 t129 (wrap64 (x9_1 + 1))) else (none)) = some (r1, r2, r3, r4) := by rw [if_neg (show ¬ (false = true) by decide)] at H; exact H
                  clear H
                  have H := H1
                  clear H1
                  by_cases c21 : x4_1.size + ((rd_T72 t129 x9_1).f1).size ≤ 9223372036854775807
                  · rw [if_pos c21] at H
                    have c21b0 := eq_true c21
                    have c21b1 : decide (x4_1.size + ((rd_T72 t129 x9_1).f1).size ≤ 9223372036854775807) = true := decide_eq_true c21
                    try have c21b2 : (9223372036854775807 < x4_1.size + ((rd_T72 t129 x9_1).f1).size) = False := eq_false (Nat.not_lt.2 c21)
                    have H' := Aside0.mk H
                    clear H
                    obtain ⟨Ao22, co22, eo22⟩ := Kd.R_slice HO_8.out
                    subst eo22
                    have p134 : 0 ≤ (x9_1 : Int) := of_decide_eq_true (by first | (with_reducible assumption) | assumption)
                    have q134 : x9_1 < (t129.length : Int) := of_decide_eq_true (by first | (with_reducible assumption) | assumption)
                    obtain ⟨ad134, e134, hx134_0, hx134_1⟩ := at_T72 (Kd.R_reads' HO_8.out).2.2 x9_1 p134 q134
                    (try rw [← Nbq12.out] at hx134_0)
                    cases e134
                    replace p134 := eq_true p134
                    replace q134 := eq_true q134
                    have p141 : 0 ≤ (x9_1 : Int) := of_decide_eq_true (by first | (with_reducible assumption) | assumption)
                    have q141 : x9_1 < (t129.length : Int) := of_decide_eq_true (by first | (with_reducible assumption) | assumption)
                    obtain ⟨ad141, e141, hx141_0, hx141_1⟩ := at_T72 (Kd.R_reads' HO_8.out).2.2 x9_1 p141 q141
                    (try rw [← Nbq12.out] at hx141_0)
                    obtain rfl : ad134 = ad141 := (by injection e141)
                    replace p141 := eq_true p141
                    replace q141 := eq_true q141
                    go_wp2
                    go_roundg kj4
                    case measure => have := HK1.out; have := HJ4.out; omega
                    case rel => exact ⟨(x4_1 ++ ((rd_T72 t129 x9_1).f1)), (x5_1), (wrap64 (x9_1 + 1)), (by first | rfl | (simp; done) | (simp [*]; done)), (by first | rfl | (simp; done) | (simp [*]; done)), H', ⟨by have := HK1.out; have := HJ4.out; omega⟩, ⟨by (with_reducible repeat (first | apply Kd.R_alloc | apply Kd.R_drewN | apply Kd.R_drew)); exact HO_5.out⟩, ⟨by (with_reducible repeat (first | apply Kd.R_alloc | apply Kd.R_drewN | apply Kd.R_drew)); exact HO_8.out⟩, ⟨by repeat (first | (with_reducible first | exact HB.out | apply below_alloc | apply pw_below_drewN | apply below_drew1) | exact HB.out)⟩⟩
                  · rw [if_neg c21] at H
                    exact absurd H (by simp)
              · rw [if_neg c11] at H
                exact absurd H (by simp)
            · rw [if_neg c10] at H
              exact absurd H (by simp)
          · replace c9 := Bool.eq_false_iff.mpr c9
            subst c9
            have H1 : (if t130 = true then (some (x4_1, x5_1, true, t131)) else (some ((⟨#[]⟩ : ByteArray), ([] : List ByteArray), false, t131))) = some (r1, r2, r3, r4) := by rw [if_neg (show ¬ (false = true) by decide)] at H; exact H
            clear H
            have H := H1
            clear H1
            by_cases c23 : t130 = true
            · subst c23
              have H1 : (some (x4_1, x5_1, true, t131)) = some (r1, r2, r3, r4) := by rw [if_pos rfl] at H; exact H
              clear H
              have H := H1
              clear H1
              simp only [Option.some.injEq, Prod.mk.injEq] at H
              obtain ⟨rfl, rfl, rfl, rfl⟩ := H
              go_wp2
              refine bodyPost_ret (results_list (rs := [.tmp 4, .tmp 5, .tmp 6, .tmp 7]) rfl (by simp) (.tmp (.tmp (.tmp (.tmp .nil))))) rfl ?_
              exact ⟨_, by first | rfl | (simp [errW_none, errW_some] <;> rfl) | (simp [*, errW_none, errW_some] <;> rfl), by (with_reducible repeat (first | apply Kd.R_alloc | apply Kd.R_drewN | apply Kd.R_drew)); exact HO_5.out, by repeat (first | (with_reducible first | exact HB.out | apply below_alloc | apply pw_below_drewN | apply below_drew1) | exact HB.out)⟩
            · replace c23 := Bool.eq_false_iff.mpr c23
              subst c23
              have H1 : (some ((⟨#[]⟩ : ByteArray), ([] : List ByteArray), false, t131)) = some (r1, r2, r3, r4) := by rw [if_neg (show ¬ (false = true) by decide)] at H; exact H
              clear H
              have H := H1
              clear H1
              simp only [Option.some.injEq, Prod.mk.injEq] at H
              obtain ⟨rfl, rfl, rfl, rfl⟩ := H
              go_wp2
              refine bodyPost_ret (results_list (rs := [.tmp 4, .tmp 5, .tmp 6, .tmp 7]) rfl (by simp) (.tmp (.tmp (.tmp (.tmp .nil))))) rfl ?_
              exact ⟨_, by first | rfl | (simp [errW_none, errW_some] <;> rfl) | (simp [*, errW_none, errW_some] <;> rfl), by first | exact Kd.R_nil _ _ _ _ _ | exact Kd.N_nil _ _ _ _ _ | exact Kd.V_nil _ _ _ _ _ | exact Kd.Q_nil _ _ _ _ _ | exact Kd.S_nil _ _ _ _ _, by repeat (first | (with_reducible first | exact HB.out | apply below_alloc | apply pw_below_drewN | apply below_drew1) | exact HB.out)⟩

-- BY HAND: function 27 (impl_Compiled)

end Go.Proofs.YtnmhoghmhglimaaDoor.QC
