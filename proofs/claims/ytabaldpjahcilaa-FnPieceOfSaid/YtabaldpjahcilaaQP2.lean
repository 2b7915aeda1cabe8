-- WRITTEN BY A PROGRAM OF THIS SESSION (wip/print2.py): the print, with contracts of this session's own let in. Not trusted: Lean checks it.
import Derived.Test.YtabaldpjahcilaaQP0
namespace Go.Proofs.Ytabaldpjahcilaa.QP
open Go.RowKit Go.Proofs.YtabaldpjahcilaaW.PrintWords Go.Proofs.YtabaldpjahcilaaW.PrintLast Go.Proofs.YtabaldpjahcilaaW.PrintMore
attribute [local go_sem] max2_int min2_int max_two min_two max_three min_three max_four min_four   -- for this text's walks alone
set_option linter.unusedVariables false
set_option linter.unusedSimpArgs false

/-! ### spec_argumentRight: function 15 -/
mutual
def spec_argumentRight.j0 : Nat → Int → Bool → Int → Int → ByteArray → List (S30) → Option (Bool)
  | 0, _, _, _, _, _, _ => none
  | k + 1, x5, x6, x102000, x102001, x102002, x102003 => if x6 = true then (if x102001 = 0 then (if x102002.toList = ([] : List UInt8) then (some ((x102003.length : Int) == 0)) else (some false)) else (some false)) else (if x5 = 1 then (if x102002.toList = ([] : List UInt8) then (some ((x102003.length : Int) == 0)) else (some false)) else (if x5 = 2 then (if x102001 = 0 then (if (x102003.length : Int) = 0 then (some (decide ((x102002.size : Int) ≤ 200))) else (some false)) else (some false)) else (if x5 = 5 then (spec_argumentRight.l0 k 0 x102000 x102001 x102002 x102003) else (some false))))
def spec_argumentRight.l0 : Nat → Int → Int → Int → ByteArray → List (S30) → Option (Bool)
  | 0, _, _, _, _, _ => none
  | k + 1, x3, x102000, x102001, x102002, x102003 => if x3 < (x102003.length : Int) then (if 0 ≤ x3 then (if ((rd_T30 x102003 x3).f0) = 5 then (some false) else ((spec_argumentRight.f k ((rd_T30 x102003 x3).f0) ((rd_T30 x102003 x3).f1) ((rd_T30 x102003 x3).f2) ((rd_T30 x102003 x3).f3)).bind fun t104 => (if t104 = true then (spec_argumentRight.l0 k (wrap64 (x3 + 1)) x102000 x102001 x102002 x102003) else (some false)))) else (none)) else (if x102001 = 0 then (if x102002.toList = ([] : List UInt8) then (some (decide ((x102003.length : Int) ≤ 50))) else (some false)) else (some false))
def spec_argumentRight.f : Nat → Int → Int → ByteArray → List (S30) → Option (Bool)
  | 0, _, _, _, _ => none
  | k + 1, a0_0, a0_1, a0_2, l0_3 => if a0_0 = 0 then (spec_argumentRight.j0 k a0_0 (a0_0 == 0) a0_0 a0_1 a0_2 l0_3) else (if a0_0 = 3 then (spec_argumentRight.j0 k a0_0 (a0_0 == 3) a0_0 a0_1 a0_2 l0_3) else (spec_argumentRight.j0 k a0_0 (a0_0 == 4) a0_0 a0_1 a0_2 l0_3))
end
theorem spec_argumentRight.mono_l : ∀ k, (∀ y0 y1 y2 y3, LeO (spec_argumentRight.f k y0 y1 y2 y3) (spec_argumentRight.f (k + 1) y0 y1 y2 y3)) ∧ (∀ y0 y1 y2 y3 y4 y5, LeO (spec_argumentRight.j0 k y0 y1 y2 y3 y4 y5) (spec_argumentRight.j0 (k + 1) y0 y1 y2 y3 y4 y5)) ∧ (∀ y0 y1 y2 y3 y4, LeO (spec_argumentRight.l0 k y0 y1 y2 y3 y4) (spec_argumentRight.l0 (k + 1) y0 y1 y2 y3 y4))
  | 0 => ⟨fun _ _ _ _ r h => by simp [spec_argumentRight.f] at h, fun _ _ _ _ _ _ r h => by simp [spec_argumentRight.j0] at h, fun _ _ _ _ _ r h => by simp [spec_argumentRight.l0] at h⟩
  | k + 1 => by
    obtain ⟨ih0, ih1, ih2⟩ := spec_argumentRight.mono_l k
    refine ⟨?_, ?_, ?_⟩
    · intro y0 y1 y2 y3
      unfold spec_argumentRight.f
      repeat' first
      | (with_reducible exact ih0 _ _ _ _)
      | (with_reducible exact ih1 _ _ _ _ _ _)
      | (with_reducible exact ih2 _ _ _ _ _)
      | (with_reducible exact LeO.refl _)
      | (with_reducible exact LeO.none _)
      | (with_reducible refine LeO.ite ?_ ?_)
      | (with_reducible refine LeO.bind ?_ (fun _ => ?_))
      | exact ih0 _ _ _ _
      | exact ih1 _ _ _ _ _ _
      | exact ih2 _ _ _ _ _
      | exact LeO.none _
      | refine LeO.ite ?_ ?_
      | refine LeO.bind ?_ (fun _ => ?_)
    · intro y0 y1 y2 y3 y4 y5
      unfold spec_argumentRight.j0
      repeat' first
      | (with_reducible exact ih0 _ _ _ _)
      | (with_reducible exact ih1 _ _ _ _ _ _)
      | (with_reducible exact ih2 _ _ _ _ _)
      | (with_reducible exact LeO.refl _)
      | (with_reducible exact LeO.none _)
      | (with_reducible refine LeO.ite ?_ ?_)
      | (with_reducible refine LeO.bind ?_ (fun _ => ?_))
      | exact ih0 _ _ _ _
      | exact ih1 _ _ _ _ _ _
      | exact ih2 _ _ _ _ _
      | exact LeO.none _
      | refine LeO.ite ?_ ?_
      | refine LeO.bind ?_ (fun _ => ?_)
    · intro y0 y1 y2 y3 y4
      unfold spec_argumentRight.l0
      repeat' first
      | (with_reducible exact ih0 _ _ _ _)
      | (with_reducible exact ih1 _ _ _ _ _ _)
      | (with_reducible exact ih2 _ _ _ _ _)
      | (with_reducible exact LeO.refl _)
      | (with_reducible exact LeO.none _)
      | (with_reducible refine LeO.ite ?_ ?_)
      | (with_reducible refine LeO.bind ?_ (fun _ => ?_))
      | exact ih0 _ _ _ _
      | exact ih1 _ _ _ _ _ _
      | exact ih2 _ _ _ _ _
      | exact LeO.none _
      | refine LeO.ite ?_ ?_
      | refine LeO.bind ?_ (fun _ => ?_)
theorem spec_argumentRight.mono : ∀ a0 a1 a2 a3 k, LeO (spec_argumentRight.f k a0 a1 a2 a3) (spec_argumentRight.f (k + 1) a0 a1 a2 a3) := by
  intro a0 a1 a2 a3 k
  obtain ⟨ih0, ih1, ih2⟩ := spec_argumentRight.mono_l k
  exact ih0 a0 a1 a2 a3
set_option maxHeartbeats 8000000 in
set_option maxRecDepth 100000 in
theorem spec_argumentRight.calls (k : Nat) : ∀ (a0_0 : Int) (a0_1 : Int) (a0_2 : ByteArray) (A0_3 : Option Addr) (c0_3 : Nat) (l0_3 : List (S30)) (r : Bool) (w : World) (hr0_3 : Kd.C k30 w A0_3 l0_3.length l0_3) (hc0_3 : l0_3.length ≤ c0_3) (h : spec_argumentRight.f k a0_0 a0_1 a0_2 l0_3 = some r),
    Calls Try.prog 15 #[.agg #[.int .i64 a0_0, .int .i64 a0_1, .string a0_2, .slice A0_3 l0_3.length c0_3]] w fun e w' => e = .returned (.bool r) ∧ Below w.heap.size w w' := by
  induction k using Nat.strongRecOn with
  | _ k ih =>
  intro a0_0 a0_1 a0_2 A0_3 c0_3 l0_3 r w hr0_3 hc0_3 h
  cases k with
  | zero => exact absurd h (by simp [spec_argumentRight.f])
  | succ k =>
  simp only [spec_argumentRight.f] at h
  have hu30 := Try.underlying30
  have HR0_3 := Aside0.mk hr0_3
  have HC0_3 := Aside0.mk hc0_3
  clear hr0_3 hc0_3
  have HB := Aside0.mk (Below.refl w.heap.size w)
  have H : (if a0_0 = 0 then (spec_argumentRight.j0 k a0_0 (a0_0 == 0) a0_0 a0_1 a0_2 l0_3) else (if a0_0 = 3 then (spec_argumentRight.j0 k a0_0 (a0_0 == 3) a0_0 a0_1 a0_2 l0_3) else (spec_argumentRight.j0 k a0_0 (a0_0 == 4) a0_0 a0_1 a0_2 l0_3))) = some r := h
  clear h
  have HC2 := Aside0.mk H
  clear H
  go_enter Try.func15, Try.ntmps15
  go_upto_if 6 with (first | ((with_reducible refine gate_dst (N := 1) rfl ?_); (try (refine gate_guard (by rfl) ?_; dsimp only)); refine box_event ?hg (N := 1) ?hd (cs := #[.int .i64 a0_0, .int .i64 a0_1, .string a0_2, .slice A0_3 l0_3.length c0_3]) (t := 30) ?hr ?_; (case hd => rfl); (case hg => rfl); (case hr => first | (go_simp; done) | (go_simp; rfl)); intro gb101 hg w3 hbox hb; have n0_ := Aside0.mk (below_step (by repeat (first | (with_reducible first | exact HB.out | apply below_alloc | apply pw_below_drewN | apply below_drew1) | exact HB.out)) hb); have n1_ := Aside0.mk (hbox); have n2_ := Aside0.mk ((by rw [hg]; exact (below_size (by repeat (first | (with_reducible first | exact HB.out | apply below_alloc | apply pw_below_drewN | apply below_drew1) | exact HB.out))) : w.heap.size ≤ gb101)); have n3_ := Aside0.mk ((by rw [hg]; exact (below_size (by repeat (first | (with_reducible first | exact HB.out | apply below_alloc | apply pw_below_drewN | apply below_drew1) | exact HB.out))) : w.heap.size ≤ gb101)); clear HB; have HB := n0_; have BK101 := n1_; have GW101 := n2_; have GE101 := n3_; clear n0_ n1_ n2_ n3_; clear hb hbox hg; have hcz4_0 : w3.cell? ⟨gb101, 0, none⟩ = some (.int .i64 a0_0) := (blk_cell BK101.out 0).trans rfl; have hcz4_1 : w3.cell? ⟨gb101, 1, none⟩ = some (.int .i64 a0_1) := (blk_cell BK101.out 1).trans rfl; have hcz4_2 : w3.cell? ⟨gb101, 2, none⟩ = some (.string a0_2) := (blk_cell BK101.out 2).trans rfl; have hcz4_3 : w3.cell? ⟨gb101, 3, none⟩ = some (.slice A0_3 l0_3.length c0_3) := (blk_cell BK101.out 3).trans rfl; have hfz4_0 := blk_frozen BK101.out 0; have hfz4_1 := blk_frozen BK101.out 1; have hfz4_2 := blk_frozen BK101.out 2; have hfz4_3 := blk_frozen BK101.out 3))
  (try simp only [Act.put, List.setIfInBounds_toArray, List.set_cons_zero, List.set_cons_succ])
  go_cut [6] (fun v6 wc => ∃ (kq : Nat) (x6_1 : Bool), v6 = .bool x6_1 ∧ Aside0 (spec_argumentRight.j0 kq a0_0 x6_1 a0_0 a0_1 a0_2 l0_3 = some r) ∧ Aside0 (kq ≤ k) ∧ Aside0 (wc.heap[gb101]? = some (.cells #[.int .i64 a0_0, .int .i64 a0_1, .string a0_2, (.slice A0_3 l0_3.length c0_3)] 30 (0, 0))) ∧ Aside0 (Below w.heap.size w wc))
  case first =>
    have H := HC2.out
    clear HC2
    by_cases c5 : a0_0 = 0
    · rw [if_pos c5] at H
      have c5b0 : (a0_0 == 0) = true := beq_iff_eq.mpr c5
      have c5b1 : (a0_0 != 0) = false := bne_eq_false_iff_eq.mpr c5
      clear c5
      (first | rw [c5b0] | (simp only [i64_w, i32_w]; rw [c5b0]) | skip)
      have H' := Aside0.mk H
      clear H
      go_wp2
      go_meet
      case rel => exact ⟨_, ((a0_0 == 0)), (by first | rfl | (simp; done) | (simp [*]; done)), H', ⟨by first | omega | exact Nat.le_refl _⟩, ⟨by (with_reducible repeat (first | refine blk_drewN ?_ _ | refine blk_drew ?_ | refine blk_alloc ?_ _)); exact BK101.out⟩, ⟨by repeat (first | (with_reducible first | exact HB.out | apply below_alloc | apply pw_below_drewN | apply below_drew1 | refine below_set ?_ GE101.out) | exact HB.out)⟩⟩
    · rw [if_neg c5] at H
      have c5b0 : (a0_0 == 0) = false := beq_eq_false_iff_ne.mpr c5
      have c5b1 : (a0_0 != 0) = true := bne_iff_ne.mpr c5
      (first | rw [c5b0] | (simp only [i64_w, i32_w]; rw [c5b0]) | skip)
      by_cases c6 : a0_0 = 3
      · rw [if_pos c6] at H
        have c6b0 : (a0_0 == 3) = true := beq_iff_eq.mpr c6
        have c6b1 : (a0_0 != 3) = false := bne_eq_false_iff_eq.mpr c6
        clear c6
        have H' := Aside0.mk H
        clear H
        go_wp2
        go_meet
        case rel => exact ⟨_, ((a0_0 == 3)), (by first | rfl | (simp; done) | (simp [*]; done)), H', ⟨by first | omega | exact Nat.le_refl _⟩, ⟨by (with_reducible repeat (first | refine blk_drewN ?_ _ | refine blk_drew ?_ | refine blk_alloc ?_ _)); exact BK101.out⟩, ⟨by repeat (first | (with_reducible first | exact HB.out | apply below_alloc | apply pw_below_drewN | apply below_drew1 | refine below_set ?_ GE101.out) | exact HB.out)⟩⟩
      · rw [if_neg c6] at H
        have c6b0 : (a0_0 == 3) = false := beq_eq_false_iff_ne.mpr c6
        have c6b1 : (a0_0 != 3) = true := bne_iff_ne.mpr c6
        have H' := Aside0.mk H
        clear H
        go_wp2
        go_meet
        case rel => exact ⟨_, ((a0_0 == 4)), (by first | rfl | (simp; done) | (simp [*]; done)), H', ⟨by first | omega | exact Nat.le_refl _⟩, ⟨by (with_reducible repeat (first | refine blk_drewN ?_ _ | refine blk_drew ?_ | refine blk_alloc ?_ _)); exact BK101.out⟩, ⟨by repeat (first | (with_reducible first | exact HB.out | apply below_alloc | apply pw_below_drewN | apply below_drew1 | refine below_set ?_ GE101.out) | exact HB.out)⟩⟩
  case rest =>
    clear HC2
    try clear c1
    try clear p2
    try clear c5
    try clear c5b0
    try clear c5b1
    try clear c6
    try clear c6b0
    try clear c6b1
    try clear hcz4_0
    try clear hcz4_1
    try clear hcz4_2
    try clear hcz4_3
    try clear hfz4_0
    try clear hfz4_1
    try clear hfz4_2
    try clear hfz4_3
    obtain ⟨kq, x6_1, rfl, HA, HJ1, BK101, HB⟩ := hcut
    cases kq with
    | zero => exact absurd HA.out (by simp [spec_argumentRight.j0])
    | succ kj1 =>
      have H := HA.out
      clear HA
      simp only [spec_argumentRight.j0] at H
      by_cases c7 : x6_1 = true
      · subst c7
        have H1 : (if a0_1 = 0 then (if a0_2.toList = ([] : List UInt8) then (some ((l0_3.length : Int) == 0)) else (some false)) else (some false)) = some r := by rw [if_pos rfl] at H; exact H
        clear H
        have H := H1
        clear H1
        by_cases c8 : a0_1 = 0
        · rw [if_pos c8] at H
          have c8b0 : (a0_1 == 0) = true := beq_iff_eq.mpr c8
          have c8b1 : (a0_1 != 0) = false := bne_eq_false_iff_eq.mpr c8
          clear c8
          by_cases c9 : a0_2.toList = ([] : List UInt8)
          · rw [if_pos c9] at H
            have c9b0 : (a0_2.toList == ([] : List UInt8)) = true := beq_iff_eq.mpr c9
            have c9b1 : (a0_2.toList != ([] : List UInt8)) = false := bne_eq_false_iff_eq.mpr c9
            clear c9
            obtain rfl := Option.some.inj H
            have hcz10_0 : wc.cell? ⟨gb101, 0, none⟩ = some (.int .i64 a0_0) := (blk_cell BK101.out 0).trans rfl
            have hcz10_1 : wc.cell? ⟨gb101, 1, none⟩ = some (.int .i64 a0_1) := (blk_cell BK101.out 1).trans rfl
            have hcz10_2 : wc.cell? ⟨gb101, 2, none⟩ = some (.string a0_2) := (blk_cell BK101.out 2).trans rfl
            have hcz10_3 : wc.cell? ⟨gb101, 3, none⟩ = some (.slice A0_3 l0_3.length c0_3) := (blk_cell BK101.out 3).trans rfl
            have hfz10_0 := blk_frozen BK101.out 0
            have hfz10_1 := blk_frozen BK101.out 1
            have hfz10_2 := blk_frozen BK101.out 2
            have hfz10_3 := blk_frozen BK101.out 3
            go_wp2
            go_ret
            exact ⟨by first | rfl | (simp [errW_none, errW_some] <;> rfl) | (simp [*, errW_none, errW_some] <;> rfl), by repeat (first | (with_reducible first | exact HB.out | apply below_alloc | apply pw_below_drewN | apply below_drew1 | refine below_set ?_ GE101.out) | exact HB.out)⟩
          · rw [if_neg c9] at H
            have c9b0 : (a0_2.toList == ([] : List UInt8)) = false := beq_eq_false_iff_ne.mpr c9
            have c9b1 : (a0_2.toList != ([] : List UInt8)) = true := bne_iff_ne.mpr c9
            obtain rfl := Option.some.inj H
            have hcz11_0 : wc.cell? ⟨gb101, 0, none⟩ = some (.int .i64 a0_0) := (blk_cell BK101.out 0).trans rfl
            have hcz11_1 : wc.cell? ⟨gb101, 1, none⟩ = some (.int .i64 a0_1) := (blk_cell BK101.out 1).trans rfl
            have hcz11_2 : wc.cell? ⟨gb101, 2, none⟩ = some (.string a0_2) := (blk_cell BK101.out 2).trans rfl
            have hcz11_3 : wc.cell? ⟨gb101, 3, none⟩ = some (.slice A0_3 l0_3.length c0_3) := (blk_cell BK101.out 3).trans rfl
            have hfz11_0 := blk_frozen BK101.out 0
            have hfz11_1 := blk_frozen BK101.out 1
            have hfz11_2 := blk_frozen BK101.out 2
            have hfz11_3 := blk_frozen BK101.out 3
            go_wp2
            go_ret
            exact ⟨by first | rfl | (simp [errW_none, errW_some] <;> rfl) | (simp [*, errW_none, errW_some] <;> rfl), by repeat (first | (with_reducible first | exact HB.out | apply below_alloc | apply pw_below_drewN | apply below_drew1 | refine below_set ?_ GE101.out) | exact HB.out)⟩
        · rw [if_neg c8] at H
          have c8b0 : (a0_1 == 0) = false := beq_eq_false_iff_ne.mpr c8
          have c8b1 : (a0_1 != 0) = true := bne_iff_ne.mpr c8
          obtain rfl := Option.some.inj H
          have hcz12_0 : wc.cell? ⟨gb101, 0, none⟩ = some (.int .i64 a0_0) := (blk_cell BK101.out 0).trans rfl
          have hcz12_1 : wc.cell? ⟨gb101, 1, none⟩ = some (.int .i64 a0_1) := (blk_cell BK101.out 1).trans rfl
          have hcz12_2 : wc.cell? ⟨gb101, 2, none⟩ = some (.string a0_2) := (blk_cell BK101.out 2).trans rfl
          have hcz12_3 : wc.cell? ⟨gb101, 3, none⟩ = some (.slice A0_3 l0_3.length c0_3) := (blk_cell BK101.out 3).trans rfl
          have hfz12_0 := blk_frozen BK101.out 0
          have hfz12_1 := blk_frozen BK101.out 1
          have hfz12_2 := blk_frozen BK101.out 2
          have hfz12_3 := blk_frozen BK101.out 3
          go_wp2
          go_ret
          exact ⟨by first | rfl | (simp [errW_none, errW_some] <;> rfl) | (simp [*, errW_none, errW_some] <;> rfl), by repeat (first | (with_reducible first | exact HB.out | apply below_alloc | apply pw_below_drewN | apply below_drew1 | refine below_set ?_ GE101.out) | exact HB.out)⟩
      · replace c7 := Bool.eq_false_iff.mpr c7
        subst c7
        have H1 : (if a0_0 = 1 then (if a0_2.toList = ([] : List UInt8) then (some ((l0_3.length : Int) == 0)) else (some false)) else (if a0_0 = 2 then (if a0_1 = 0 then (if (l0_3.length : Int) = 0 then (some (decide ((a0_2.size : Int) ≤ 200))) else (some false)) else (some false)) else (if a0_0 = 5 then (spec_argumentRight.l0 kj1 0 a0_0 a0_1 a0_2 l0_3) else (some false)))) = some r := by rw [if_neg (show ¬ (false = true) by decide)] at H; exact H
        clear H
        have H := H1
        clear H1
        by_cases c13 : a0_0 = 1
        · rw [if_pos c13] at H
          have c13b0 : (a0_0 == 1) = true := beq_iff_eq.mpr c13
          have c13b1 : (a0_0 != 1) = false := bne_eq_false_iff_eq.mpr c13
          clear c13
          by_cases c14 : a0_2.toList = ([] : List UInt8)
          · rw [if_pos c14] at H
            have c14b0 : (a0_2.toList == ([] : List UInt8)) = true := beq_iff_eq.mpr c14
            have c14b1 : (a0_2.toList != ([] : List UInt8)) = false := bne_eq_false_iff_eq.mpr c14
            clear c14
            obtain rfl := Option.some.inj H
            have hcz15_0 : wc.cell? ⟨gb101, 0, none⟩ = some (.int .i64 a0_0) := (blk_cell BK101.out 0).trans rfl
            have hcz15_1 : wc.cell? ⟨gb101, 1, none⟩ = some (.int .i64 a0_1) := (blk_cell BK101.out 1).trans rfl
            have hcz15_2 : wc.cell? ⟨gb101, 2, none⟩ = some (.string a0_2) := (blk_cell BK101.out 2).trans rfl
            have hcz15_3 : wc.cell? ⟨gb101, 3, none⟩ = some (.slice A0_3 l0_3.length c0_3) := (blk_cell BK101.out 3).trans rfl
            have hfz15_0 := blk_frozen BK101.out 0
            have hfz15_1 := blk_frozen BK101.out 1
            have hfz15_2 := blk_frozen BK101.out 2
            have hfz15_3 := blk_frozen BK101.out 3
            go_wp2
            go_ret
            exact ⟨by first | rfl | (simp [errW_none, errW_some] <;> rfl) | (simp [*, errW_none, errW_some] <;> rfl), by repeat (first | (with_reducible first | exact HB.out | apply below_alloc | apply pw_below_drewN | apply below_drew1 | refine below_set ?_ GE101.out) | exact HB.out)⟩
          · rw [if_neg c14] at H
            have c14b0 : (a0_2.toList == ([] : List UInt8)) = false := beq_eq_false_iff_ne.mpr c14
            have c14b1 : (a0_2.toList != ([] : List UInt8)) = true := bne_iff_ne.mpr c14
            obtain rfl := Option.some.inj H
            have hcz16_0 : wc.cell? ⟨gb101, 0, none⟩ = some (.int .i64 a0_0) := (blk_cell BK101.out 0).trans rfl
            have hcz16_1 : wc.cell? ⟨gb101, 1, none⟩ = some (.int .i64 a0_1) := (blk_cell BK101.out 1).trans rfl
            have hcz16_2 : wc.cell? ⟨gb101, 2, none⟩ = some (.string a0_2) := (blk_cell BK101.out 2).trans rfl
            have hcz16_3 : wc.cell? ⟨gb101, 3, none⟩ = some (.slice A0_3 l0_3.length c0_3) := (blk_cell BK101.out 3).trans rfl
            have hfz16_0 := blk_frozen BK101.out 0
            have hfz16_1 := blk_frozen BK101.out 1
            have hfz16_2 := blk_frozen BK101.out 2
            have hfz16_3 := blk_frozen BK101.out 3
            go_wp2
            go_ret
            exact ⟨by first | rfl | (simp [errW_none, errW_some] <;> rfl) | (simp [*, errW_none, errW_some] <;> rfl), by repeat (first | (with_reducible first | exact HB.out | apply below_alloc | apply pw_below_drewN | apply below_drew1 | refine below_set ?_ GE101.out) | exact HB.out)⟩
        · rw [if_neg c13] at H
          have c13b0 : (a0_0 == 1) = false := beq_eq_false_iff_ne.mpr c13
          have c13b1 : (a0_0 != 1) = true := bne_iff_ne.mpr c13
          by_cases c17 : a0_0 = 2
          · rw [if_pos c17] at H
            have c17b0 : (a0_0 == 2) = true := beq_iff_eq.mpr c17
            have c17b1 : (a0_0 != 2) = false := bne_eq_false_iff_eq.mpr c17
            clear c17
            by_cases c18 : a0_1 = 0
            · rw [if_pos c18] at H
              have c18b0 : (a0_1 == 0) = true := beq_iff_eq.mpr c18
              have c18b1 : (a0_1 != 0) = false := bne_eq_false_iff_eq.mpr c18
              clear c18
              by_cases c19 : (l0_3.length : Int) = 0
              · rw [if_pos c19] at H
                have c19b0 : ((l0_3.length : Int) == 0) = true := beq_iff_eq.mpr c19
                have c19b1 : ((l0_3.length : Int) != 0) = false := bne_eq_false_iff_eq.mpr c19
                clear c19
                obtain rfl := Option.some.inj H
                have hcz20_0 : wc.cell? ⟨gb101, 0, none⟩ = some (.int .i64 a0_0) := (blk_cell BK101.out 0).trans rfl
                have hcz20_1 : wc.cell? ⟨gb101, 1, none⟩ = some (.int .i64 a0_1) := (blk_cell BK101.out 1).trans rfl
                have hcz20_2 : wc.cell? ⟨gb101, 2, none⟩ = some (.string a0_2) := (blk_cell BK101.out 2).trans rfl
                have hcz20_3 : wc.cell? ⟨gb101, 3, none⟩ = some (.slice A0_3 l0_3.length c0_3) := (blk_cell BK101.out 3).trans rfl
                have hfz20_0 := blk_frozen BK101.out 0
                have hfz20_1 := blk_frozen BK101.out 1
                have hfz20_2 := blk_frozen BK101.out 2
                have hfz20_3 := blk_frozen BK101.out 3
                go_wp2
                go_ret
                exact ⟨by first | rfl | (simp [errW_none, errW_some] <;> rfl) | (simp [*, errW_none, errW_some] <;> rfl), by repeat (first | (with_reducible first | exact HB.out | apply below_alloc | apply pw_below_drewN | apply below_drew1 | refine below_set ?_ GE101.out) | exact HB.out)⟩
              · rw [if_neg c19] at H
                have c19b0 : ((l0_3.length : Int) == 0) = false := beq_eq_false_iff_ne.mpr c19
                have c19b1 : ((l0_3.length : Int) != 0) = true := bne_iff_ne.mpr c19
                have c19b2 : ¬ (l0_3 = []) := fun h_ => c19 (by rw [h_]; rfl)
                obtain rfl := Option.some.inj H
                have hcz21_0 : wc.cell? ⟨gb101, 0, none⟩ = some (.int .i64 a0_0) := (blk_cell BK101.out 0).trans rfl
                have hcz21_1 : wc.cell? ⟨gb101, 1, none⟩ = some (.int .i64 a0_1) := (blk_cell BK101.out 1).trans rfl
                have hcz21_2 : wc.cell? ⟨gb101, 2, none⟩ = some (.string a0_2) := (blk_cell BK101.out 2).trans rfl
                have hcz21_3 : wc.cell? ⟨gb101, 3, none⟩ = some (.slice A0_3 l0_3.length c0_3) := (blk_cell BK101.out 3).trans rfl
                have hfz21_0 := blk_frozen BK101.out 0
                have hfz21_1 := blk_frozen BK101.out 1
                have hfz21_2 := blk_frozen BK101.out 2
                have hfz21_3 := blk_frozen BK101.out 3
                go_wp2
                go_ret
                exact ⟨by first | rfl | (simp [errW_none, errW_some] <;> rfl) | (simp [*, errW_none, errW_some] <;> rfl), by repeat (first | (with_reducible first | exact HB.out | apply below_alloc | apply pw_below_drewN | apply below_drew1 | refine below_set ?_ GE101.out) | exact HB.out)⟩
            · rw [if_neg c18] at H
              have c18b0 : (a0_1 == 0) = false := beq_eq_false_iff_ne.mpr c18
              have c18b1 : (a0_1 != 0) = true := bne_iff_ne.mpr c18
              obtain rfl := Option.some.inj H
              have hcz22_0 : wc.cell? ⟨gb101, 0, none⟩ = some (.int .i64 a0_0) := (blk_cell BK101.out 0).trans rfl
              have hcz22_1 : wc.cell? ⟨gb101, 1, none⟩ = some (.int .i64 a0_1) := (blk_cell BK101.out 1).trans rfl
              have hcz22_2 : wc.cell? ⟨gb101, 2, none⟩ = some (.string a0_2) := (blk_cell BK101.out 2).trans rfl
              have hcz22_3 : wc.cell? ⟨gb101, 3, none⟩ = some (.slice A0_3 l0_3.length c0_3) := (blk_cell BK101.out 3).trans rfl
              have hfz22_0 := blk_frozen BK101.out 0
              have hfz22_1 := blk_frozen BK101.out 1
              have hfz22_2 := blk_frozen BK101.out 2
              have hfz22_3 := blk_frozen BK101.out 3
              go_wp2
              go_ret
              exact ⟨by first | rfl | (simp [errW_none, errW_some] <;> rfl) | (simp [*, errW_none, errW_some] <;> rfl), by repeat (first | (with_reducible first | exact HB.out | apply below_alloc | apply pw_below_drewN | apply below_drew1 | refine below_set ?_ GE101.out) | exact HB.out)⟩
          · rw [if_neg c17] at H
            have c17b0 : (a0_0 == 2) = false := beq_eq_false_iff_ne.mpr c17
            have c17b1 : (a0_0 != 2) = true := bne_iff_ne.mpr c17
            by_cases c23 : a0_0 = 5
            · rw [if_pos c23] at H
              have c23b0 : (a0_0 == 5) = true := beq_iff_eq.mpr c23
              have c23b1 : (a0_0 != 5) = false := bne_eq_false_iff_eq.mpr c23
              clear c23
              have H' := Aside0.mk H
              clear H
              go_wp2
              go_loopg [3] kj1 (fun kq v3 w' => ∃ (x3_2 : Int), v3 = .int .i64 x3_2 ∧ Aside0 (spec_argumentRight.l0 kq x3_2 a0_0 a0_1 a0_2 l0_3 = some r) ∧ Aside0 (kq ≤ kj1) ∧ Aside0 (w'.heap[gb101]? = some (.cells #[.int .i64 a0_0, .int .i64 a0_1, .string a0_2, (.slice A0_3 l0_3.length c0_3)] 30 (0, 0))) ∧ Aside0 (Below w.heap.size w w'))
              case atStart => exact ⟨(0), (by first | rfl | (simp; done) | (simp [*]; done)), H', ⟨Nat.le_refl _⟩, ⟨by (with_reducible repeat (first | refine blk_drewN ?_ _ | refine blk_drew ?_ | refine blk_alloc ?_ _)); exact BK101.out⟩, ⟨by repeat (first | (with_reducible first | exact HB.out | apply below_alloc | apply pw_below_drewN | apply below_drew1 | refine below_set ?_ GE101.out) | exact HB.out)⟩⟩
              case round =>
                clear H'
                try clear c1
                try clear c2
                try clear p2
                try clear c5
                try clear c5b0
                try clear c5b1
                try clear c6
                try clear c6b0
                try clear c6b1
                try clear c7
                try clear c8
                try clear c8b0
                try clear c8b1
                try clear c9
                try clear c9b0
                try clear c9b1
                try clear c13
                try clear c13b0
                try clear c13b1
                try clear c14
                try clear c14b0
                try clear c14b1
                try clear c15
                try clear c17
                try clear c17b0
                try clear c17b1
                try clear c18
                try clear c18b0
                try clear c18b1
                try clear c19
                try clear c19b0
                try clear c19b1
                try clear c19b2
                try clear c23
                try clear c23b0
                try clear c23b1
                try clear hcz10_0
                try clear hcz10_1
                try clear hcz10_2
                try clear hcz10_3
                try clear hcz11_0
                try clear hcz11_1
                try clear hcz11_2
                try clear hcz11_3
                try clear hcz12_0
                try clear hcz12_1
                try clear hcz12_2
                try clear hcz12_3
                try clear hcz15_0
                try clear hcz15_1
                try clear hcz15_2
                try clear hcz15_3
                try clear hcz16_0
                try clear hcz16_1
                try clear hcz16_2
                try clear hcz16_3
                try clear hcz20_0
                try clear hcz20_1
                try clear hcz20_2
                try clear hcz20_3
                try clear hcz21_0
                try clear hcz21_1
                try clear hcz21_2
                try clear hcz21_3
                try clear hcz22_0
                try clear hcz22_1
                try clear hcz22_2
                try clear hcz22_3
                try clear hcz4_0
                try clear hcz4_1
                try clear hcz4_2
                try clear hcz4_3
                try clear hfz10_0
                try clear hfz10_1
                try clear hfz10_2
                try clear hfz10_3
                try clear hfz11_0
                try clear hfz11_1
                try clear hfz11_2
                try clear hfz11_3
                try clear hfz12_0
                try clear hfz12_1
                try clear hfz12_2
                try clear hfz12_3
                try clear hfz15_0
                try clear hfz15_1
                try clear hfz15_2
                try clear hfz15_3
                try clear hfz16_0
                try clear hfz16_1
                try clear hfz16_2
                try clear hfz16_3
                try clear hfz20_0
                try clear hfz20_1
                try clear hfz20_2
                try clear hfz20_3
                try clear hfz21_0
                try clear hfz21_1
                try clear hfz21_2
                try clear hfz21_3
                try clear hfz22_0
                try clear hfz22_1
                try clear hfz22_2
                try clear hfz22_3
                try clear hfz4_0
                try clear hfz4_1
                try clear hfz4_2
                try clear hfz4_3
                try clear p2
                obtain ⟨x3_2, rfl, HA, HK2, BK101, HB⟩ := hrel
                cases gk with
                | zero => exact absurd HA.out (by simp [spec_argumentRight.l0])
                | succ k2 =>
                  have H := HA.out
                  clear HA
                  simp only [spec_argumentRight.l0] at H
                  by_cases c24 : x3_2 < (l0_3.length : Int)
                  · rw [if_pos c24] at H
                    have c24b0 : decide (x3_2 < (l0_3.length : Int)) = true := decide_eq_true c24
                    clear c24
                    by_cases c25 : 0 ≤ x3_2
                    · rw [if_pos c25] at H
                      have c25b0 : decide (0 ≤ x3_2) = true := decide_eq_true c25
                      clear c25
                      by_cases c26 : ((rd_T30 l0_3 x3_2).f0) = 5
                      · rw [if_pos c26] at H
                        have c26b0 : (((rd_T30 l0_3 x3_2).f0) == 5) = true := beq_iff_eq.mpr c26
                        have c26b1 : (((rd_T30 l0_3 x3_2).f0) != 5) = false := bne_eq_false_iff_eq.mpr c26
                        clear c26
                        obtain rfl := Option.some.inj H
                        have hcz27_0 : wr.cell? ⟨gb101, 0, none⟩ = some (.int .i64 a0_0) := (blk_cell BK101.out 0).trans rfl
                        have hcz27_1 : wr.cell? ⟨gb101, 1, none⟩ = some (.int .i64 a0_1) := (blk_cell BK101.out 1).trans rfl
                        have hcz27_2 : wr.cell? ⟨gb101, 2, none⟩ = some (.string a0_2) := (blk_cell BK101.out 2).trans rfl
                        have hcz27_3 : wr.cell? ⟨gb101, 3, none⟩ = some (.slice A0_3 l0_3.length c0_3) := (blk_cell BK101.out 3).trans rfl
                        have hfz27_0 := blk_frozen BK101.out 0
                        have hfz27_1 := blk_frozen BK101.out 1
                        have hfz27_2 := blk_frozen BK101.out 2
                        have hfz27_3 := blk_frozen BK101.out 3
                        have p102 : 0 ≤ (x3_2 : Int) := of_decide_eq_true (by first | (with_reducible assumption) | assumption)
                        have q102 : x3_2 < (l0_3.length : Int) := of_decide_eq_true (by first | (with_reducible assumption) | assumption)
                        obtain ⟨ad102, A102_3, c102_3, e102, hx102_0, hx102_1, hx102_2, hx102_3, hl102_3, hi102_3⟩ := at_T30 HR0_3.out x3_2 p102 q102
                        cases e102
                        replace hx102_0 := (HB.out.cell (World.block_lt_of_cell? w _ hx102_0)).trans hx102_0
                        replace hx102_1 := (HB.out.cell (World.block_lt_of_cell? w _ hx102_1)).trans hx102_1
                        replace hx102_2 := (HB.out.cell (World.block_lt_of_cell? w _ hx102_2)).trans hx102_2
                        replace hx102_3 := (HB.out.cell (World.block_lt_of_cell? w _ hx102_3)).trans hx102_3
                        have HR102_3 := Aside0.mk hi102_3
                        have HC102_3 := Aside0.mk hl102_3
                        clear hi102_3 hl102_3
                        replace p102 := eq_true p102
                        replace q102 := eq_true q102
                        go_wp2
                        go_ret
                        exact ⟨by first | rfl | (simp [errW_none, errW_some] <;> rfl) | (simp [*, errW_none, errW_some] <;> rfl), by repeat (first | (with_reducible first | exact HB.out | apply below_alloc | apply pw_below_drewN | apply below_drew1 | refine below_set ?_ GE101.out) | exact HB.out)⟩
                      · rw [if_neg c26] at H
                        have c26b0 : (((rd_T30 l0_3 x3_2).f0) == 5) = false := beq_eq_false_iff_ne.mpr c26
                        have c26b1 : (((rd_T30 l0_3 x3_2).f0) != 5) = true := bne_iff_ne.mpr c26
                        replace H := Option.bind_eq_some_iff.mp H
                        obtain ⟨t104, A280, H⟩ := H
                        replace H : (if t104 = true then (spec_argumentRight.l0 k2 (wrap64 (x3_2 + 1)) a0_0 a0_1 a0_2 l0_3) else (some false)) = some r := H
                        have A28 := Aside0.mk A280
                        clear A280
                        by_cases c29 : t104 = true
                        · subst c29
                          have H1 : (spec_argumentRight.l0 k2 (wrap64 (x3_2 + 1)) a0_0 a0_1 a0_2 l0_3) = some r := by rw [if_pos rfl] at H; exact H
                          clear H
                          have H := H1
                          clear H1
                          have H' := Aside0.mk H
                          clear H
                          have hcz30_0 : wr.cell? ⟨gb101, 0, none⟩ = some (.int .i64 a0_0) := (blk_cell BK101.out 0).trans rfl
                          have hcz30_1 : wr.cell? ⟨gb101, 1, none⟩ = some (.int .i64 a0_1) := (blk_cell BK101.out 1).trans rfl
                          have hcz30_2 : wr.cell? ⟨gb101, 2, none⟩ = some (.string a0_2) := (blk_cell BK101.out 2).trans rfl
                          have hcz30_3 : wr.cell? ⟨gb101, 3, none⟩ = some (.slice A0_3 l0_3.length c0_3) := (blk_cell BK101.out 3).trans rfl
                          have hfz30_0 := blk_frozen BK101.out 0
                          have hfz30_1 := blk_frozen BK101.out 1
                          have hfz30_2 := blk_frozen BK101.out 2
                          have hfz30_3 := blk_frozen BK101.out 3
                          have p102 : 0 ≤ (x3_2 : Int) := of_decide_eq_true (by first | (with_reducible assumption) | assumption)
                          have q102 : x3_2 < (l0_3.length : Int) := of_decide_eq_true (by first | (with_reducible assumption) | assumption)
                          obtain ⟨ad102, A102_3, c102_3, e102, hx102_0, hx102_1, hx102_2, hx102_3, hl102_3, hi102_3⟩ := at_T30 HR0_3.out x3_2 p102 q102
                          cases e102
                          replace hx102_0 := (HB.out.cell (World.block_lt_of_cell? w _ hx102_0)).trans hx102_0
                          replace hx102_1 := (HB.out.cell (World.block_lt_of_cell? w _ hx102_1)).trans hx102_1
                          replace hx102_2 := (HB.out.cell (World.block_lt_of_cell? w _ hx102_2)).trans hx102_2
                          replace hx102_3 := (HB.out.cell (World.block_lt_of_cell? w _ hx102_3)).trans hx102_3
                          have HR102_3 := Aside0.mk hi102_3
                          have HC102_3 := Aside0.mk hl102_3
                          clear hi102_3 hl102_3
                          replace p102 := eq_true p102
                          replace q102 := eq_true q102
                          have p103 : 0 ≤ (x3_2 : Int) := of_decide_eq_true (by first | (with_reducible assumption) | assumption)
                          have q103 : x3_2 < (l0_3.length : Int) := of_decide_eq_true (by first | (with_reducible assumption) | assumption)
                          obtain ⟨ad103, A103_3, c103_3, e103, hx103_0, hx103_1, hx103_2, hx103_3, hl103_3, hi103_3⟩ := at_T30 HR0_3.out x3_2 p103 q103
                          obtain rfl : ad102 = ad103 := (by injection e103)
                          replace hx103_0 := (HB.out.cell (World.block_lt_of_cell? w _ hx103_0)).trans hx103_0
                          replace hx103_1 := (HB.out.cell (World.block_lt_of_cell? w _ hx103_1)).trans hx103_1
                          replace hx103_2 := (HB.out.cell (World.block_lt_of_cell? w _ hx103_2)).trans hx103_2
                          replace hx103_3 := (HB.out.cell (World.block_lt_of_cell? w _ hx103_3)).trans hx103_3
                          have HR103_3 := Aside0.mk hi103_3
                          have HC103_3 := Aside0.mk hl103_3
                          clear hi103_3 hl103_3
                          replace p103 := eq_true p103
                          replace q103 := eq_true q103
                          have ea_ := Option.some.inj (hx102_3.symm.trans hx103_3)
                          injection ea_ with ea_ en_ ec_
                          subst ea_
                          subst ec_
                          clear en_
                          go_wp2_with (first | (go_at_call 15; (with_reducible refine (ih k2 (by have := HJ1.out; have := HK2.out; omega) ((rd_T30 l0_3 x3_2).f0) ((rd_T30 l0_3 x3_2).f1) ((rd_T30 l0_3 x3_2).f2) _ _ ((rd_T30 l0_3 x3_2).f3) true _ ?side1 ?side2 A28.out).mono ?_); (case side1 => repeat (first | exact (Kd.C_below HR103_3.out HB.out) | (with_reducible refine Kd.C_alloc ?_ _) | (with_reducible refine Kd.C_drewN ?_ _) | (with_reducible refine Kd.C_drew ?_))); (case side2 => exact HC103_3.out); rintro e w31 ⟨rfl, hb⟩; have n0_ := Aside0.mk (blk_below (g := gb101) (o := .cells #[.int .i64 a0_0, .int .i64 a0_1, .string a0_2, .slice (some ad102) l0_3.length c0_3] 30 (0, 0)) (by (with_reducible repeat (first | refine blk_drewN ?_ _ | refine blk_drew ?_ | refine blk_alloc ?_ _)); exact BK101.out) hb); have n1_ := Aside0.mk (below_step (by repeat (first | (with_reducible first | exact HB.out | apply below_alloc | apply pw_below_drewN | apply below_drew1 | refine below_set ?_ GE101.out) | exact HB.out)) hb); clear BK101; clear HB; have BK101 := n0_; have HB := n1_; clear n0_ n1_; (try clear hb); (try clear hb2); (try clear hk); (try clear hi)))
                          go_roundg k2
                          case measure => have := HJ1.out; have := HK2.out; omega
                          case rel => exact ⟨(wrap64 (x3_2 + 1)), (by first | rfl | (simp; done) | (simp [*]; done)), H', ⟨by have := HJ1.out; have := HK2.out; omega⟩, ⟨by (with_reducible repeat (first | refine blk_drewN ?_ _ | refine blk_drew ?_ | refine blk_alloc ?_ _)); exact BK101.out⟩, ⟨by repeat (first | (with_reducible first | exact HB.out | apply below_alloc | apply pw_below_drewN | apply below_drew1 | refine below_set ?_ GE101.out) | exact HB.out)⟩⟩
                        · replace c29 := Bool.eq_false_iff.mpr c29
                          subst c29
                          have H1 : (some false) = some r := by rw [if_neg (show ¬ (false = true) by decide)] at H; exact H
                          clear H
                          have H := H1
                          clear H1
                          obtain rfl := Option.some.inj H
                          have hcz32_0 : wr.cell? ⟨gb101, 0, none⟩ = some (.int .i64 a0_0) := (blk_cell BK101.out 0).trans rfl
                          have hcz32_1 : wr.cell? ⟨gb101, 1, none⟩ = some (.int .i64 a0_1) := (blk_cell BK101.out 1).trans rfl
                          have hcz32_2 : wr.cell? ⟨gb101, 2, none⟩ = some (.string a0_2) := (blk_cell BK101.out 2).trans rfl
                          have hcz32_3 : wr.cell? ⟨gb101, 3, none⟩ = some (.slice A0_3 l0_3.length c0_3) := (blk_cell BK101.out 3).trans rfl
                          have hfz32_0 := blk_frozen BK101.out 0
                          have hfz32_1 := blk_frozen BK101.out 1
                          have hfz32_2 := blk_frozen BK101.out 2
                          have hfz32_3 := blk_frozen BK101.out 3
                          have p102 : 0 ≤ (x3_2 : Int) := of_decide_eq_true (by first | (with_reducible assumption) | assumption)
                          have q102 : x3_2 < (l0_3.length : Int) := of_decide_eq_true (by first | (with_reducible assumption) | assumption)
                          obtain ⟨ad102, A102_3, c102_3, e102, hx102_0, hx102_1, hx102_2, hx102_3, hl102_3, hi102_3⟩ := at_T30 HR0_3.out x3_2 p102 q102
                          cases e102
                          replace hx102_0 := (HB.out.cell (World.block_lt_of_cell? w _ hx102_0)).trans hx102_0
                          replace hx102_1 := (HB.out.cell (World.block_lt_of_cell? w _ hx102_1)).trans hx102_1
                          replace hx102_2 := (HB.out.cell (World.block_lt_of_cell? w _ hx102_2)).trans hx102_2
                          replace hx102_3 := (HB.out.cell (World.block_lt_of_cell? w _ hx102_3)).trans hx102_3
                          have HR102_3 := Aside0.mk hi102_3
                          have HC102_3 := Aside0.mk hl102_3
                          clear hi102_3 hl102_3
                          replace p102 := eq_true p102
                          replace q102 := eq_true q102
                          have p103 : 0 ≤ (x3_2 : Int) := of_decide_eq_true (by first | (with_reducible assumption) | assumption)
                          have q103 : x3_2 < (l0_3.length : Int) := of_decide_eq_true (by first | (with_reducible assumption) | assumption)
                          obtain ⟨ad103, A103_3, c103_3, e103, hx103_0, hx103_1, hx103_2, hx103_3, hl103_3, hi103_3⟩ := at_T30 HR0_3.out x3_2 p103 q103
                          obtain rfl : ad102 = ad103 := (by injection e103)
                          replace hx103_0 := (HB.out.cell (World.block_lt_of_cell? w _ hx103_0)).trans hx103_0
                          replace hx103_1 := (HB.out.cell (World.block_lt_of_cell? w _ hx103_1)).trans hx103_1
                          replace hx103_2 := (HB.out.cell (World.block_lt_of_cell? w _ hx103_2)).trans hx103_2
                          replace hx103_3 := (HB.out.cell (World.block_lt_of_cell? w _ hx103_3)).trans hx103_3
                          have HR103_3 := Aside0.mk hi103_3
                          have HC103_3 := Aside0.mk hl103_3
                          clear hi103_3 hl103_3
                          replace p103 := eq_true p103
                          replace q103 := eq_true q103
                          have ea_ := Option.some.inj (hx102_3.symm.trans hx103_3)
                          injection ea_ with ea_ en_ ec_
                          subst ea_
                          subst ec_
                          clear en_
                          go_wp2_with (first | (go_at_call 15; (with_reducible refine (ih k2 (by have := HJ1.out; have := HK2.out; omega) ((rd_T30 l0_3 x3_2).f0) ((rd_T30 l0_3 x3_2).f1) ((rd_T30 l0_3 x3_2).f2) _ _ ((rd_T30 l0_3 x3_2).f3) false _ ?side1 ?side2 A28.out).mono ?_); (case side1 => repeat (first | exact (Kd.C_below HR103_3.out HB.out) | (with_reducible refine Kd.C_alloc ?_ _) | (with_reducible refine Kd.C_drewN ?_ _) | (with_reducible refine Kd.C_drew ?_))); (case side2 => exact HC103_3.out); rintro e w33 ⟨rfl, hb⟩; have n0_ := Aside0.mk (blk_below (g := gb101) (o := .cells #[.int .i64 a0_0, .int .i64 a0_1, .string a0_2, .slice (some ad102) l0_3.length c0_3] 30 (0, 0)) (by (with_reducible repeat (first | refine blk_drewN ?_ _ | refine blk_drew ?_ | refine blk_alloc ?_ _)); exact BK101.out) hb); have n1_ := Aside0.mk (below_step (by repeat (first | (with_reducible first | exact HB.out | apply below_alloc | apply pw_below_drewN | apply below_drew1 | refine below_set ?_ GE101.out) | exact HB.out)) hb); clear BK101; clear HB; have BK101 := n0_; have HB := n1_; clear n0_ n1_; (try clear hb); (try clear hb2); (try clear hk); (try clear hi)))
                          go_ret
                          exact ⟨by first | rfl | (simp [errW_none, errW_some] <;> rfl) | (simp [*, errW_none, errW_some] <;> rfl), by repeat (first | (with_reducible first | exact HB.out | apply below_alloc | apply pw_below_drewN | apply below_drew1 | refine below_set ?_ GE101.out) | exact HB.out)⟩
                    · rw [if_neg c25] at H
                      exact absurd H (by simp)
                  · rw [if_neg c24] at H
                    have c24b0 : decide (x3_2 < (l0_3.length : Int)) = false := decide_eq_false c24
                    clear c24
                    by_cases c34 : a0_1 = 0
                    · rw [if_pos c34] at H
                      have c34b0 : (a0_1 == 0) = true := beq_iff_eq.mpr c34
                      have c34b1 : (a0_1 != 0) = false := bne_eq_false_iff_eq.mpr c34
                      clear c34
                      by_cases c35 : a0_2.toList = ([] : List UInt8)
                      · rw [if_pos c35] at H
                        have c35b0 : (a0_2.toList == ([] : List UInt8)) = true := beq_iff_eq.mpr c35
                        have c35b1 : (a0_2.toList != ([] : List UInt8)) = false := bne_eq_false_iff_eq.mpr c35
                        clear c35
                        obtain rfl := Option.some.inj H
                        have hcz36_0 : wr.cell? ⟨gb101, 0, none⟩ = some (.int .i64 a0_0) := (blk_cell BK101.out 0).trans rfl
                        have hcz36_1 : wr.cell? ⟨gb101, 1, none⟩ = some (.int .i64 a0_1) := (blk_cell BK101.out 1).trans rfl
                        have hcz36_2 : wr.cell? ⟨gb101, 2, none⟩ = some (.string a0_2) := (blk_cell BK101.out 2).trans rfl
                        have hcz36_3 : wr.cell? ⟨gb101, 3, none⟩ = some (.slice A0_3 l0_3.length c0_3) := (blk_cell BK101.out 3).trans rfl
                        have hfz36_0 := blk_frozen BK101.out 0
                        have hfz36_1 := blk_frozen BK101.out 1
                        have hfz36_2 := blk_frozen BK101.out 2
                        have hfz36_3 := blk_frozen BK101.out 3
                        go_wp2
                        go_ret
                        exact ⟨by first | rfl | (simp [errW_none, errW_some] <;> rfl) | (simp [*, errW_none, errW_some] <;> rfl), by repeat (first | (with_reducible first | exact HB.out | apply below_alloc | apply pw_below_drewN | apply below_drew1 | refine below_set ?_ GE101.out) | exact HB.out)⟩
                      · rw [if_neg c35] at H
                        have c35b0 : (a0_2.toList == ([] : List UInt8)) = false := beq_eq_false_iff_ne.mpr c35
                        have c35b1 : (a0_2.toList != ([] : List UInt8)) = true := bne_iff_ne.mpr c35
                        obtain rfl := Option.some.inj H
                        have hcz37_0 : wr.cell? ⟨gb101, 0, none⟩ = some (.int .i64 a0_0) := (blk_cell BK101.out 0).trans rfl
                        have hcz37_1 : wr.cell? ⟨gb101, 1, none⟩ = some (.int .i64 a0_1) := (blk_cell BK101.out 1).trans rfl
                        have hcz37_2 : wr.cell? ⟨gb101, 2, none⟩ = some (.string a0_2) := (blk_cell BK101.out 2).trans rfl
                        have hcz37_3 : wr.cell? ⟨gb101, 3, none⟩ = some (.slice A0_3 l0_3.length c0_3) := (blk_cell BK101.out 3).trans rfl
                        have hfz37_0 := blk_frozen BK101.out 0
                        have hfz37_1 := blk_frozen BK101.out 1
                        have hfz37_2 := blk_frozen BK101.out 2
                        have hfz37_3 := blk_frozen BK101.out 3
                        go_wp2
                        go_ret
                        exact ⟨by first | rfl | (simp [errW_none, errW_some] <;> rfl) | (simp [*, errW_none, errW_some] <;> rfl), by repeat (first | (with_reducible first | exact HB.out | apply below_alloc | apply pw_below_drewN | apply below_drew1 | refine below_set ?_ GE101.out) | exact HB.out)⟩
                    · rw [if_neg c34] at H
                      have c34b0 : (a0_1 == 0) = false := beq_eq_false_iff_ne.mpr c34
                      have c34b1 : (a0_1 != 0) = true := bne_iff_ne.mpr c34
                      obtain rfl := Option.some.inj H
                      have hcz38_0 : wr.cell? ⟨gb101, 0, none⟩ = some (.int .i64 a0_0) := (blk_cell BK101.out 0).trans rfl
                      have hcz38_1 : wr.cell? ⟨gb101, 1, none⟩ = some (.int .i64 a0_1) := (blk_cell BK101.out 1).trans rfl
                      have hcz38_2 : wr.cell? ⟨gb101, 2, none⟩ = some (.string a0_2) := (blk_cell BK101.out 2).trans rfl
                      have hcz38_3 : wr.cell? ⟨gb101, 3, none⟩ = some (.slice A0_3 l0_3.length c0_3) := (blk_cell BK101.out 3).trans rfl
                      have hfz38_0 := blk_frozen BK101.out 0
                      have hfz38_1 := blk_frozen BK101.out 1
                      have hfz38_2 := blk_frozen BK101.out 2
                      have hfz38_3 := blk_frozen BK101.out 3
                      go_wp2
                      go_ret
                      exact ⟨by first | rfl | (simp [errW_none, errW_some] <;> rfl) | (simp [*, errW_none, errW_some] <;> rfl), by repeat (first | (with_reducible first | exact HB.out | apply below_alloc | apply pw_below_drewN | apply below_drew1 | refine below_set ?_ GE101.out) | exact HB.out)⟩
            · rw [if_neg c23] at H
              have c23b0 : (a0_0 == 5) = false := beq_eq_false_iff_ne.mpr c23
              have c23b1 : (a0_0 != 5) = true := bne_iff_ne.mpr c23
              obtain rfl := Option.some.inj H
              go_wp2
              go_ret
              exact ⟨by first | rfl | (simp [errW_none, errW_some] <;> rfl) | (simp [*, errW_none, errW_some] <;> rfl), by repeat (first | (with_reducible first | exact HB.out | apply below_alloc | apply pw_below_drewN | apply below_drew1 | refine below_set ?_ GE101.out) | exact HB.out)⟩

end Go.Proofs.Ytabaldpjahcilaa.QP
