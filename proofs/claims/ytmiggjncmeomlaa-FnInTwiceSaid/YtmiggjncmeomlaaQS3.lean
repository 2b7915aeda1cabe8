-- WRITTEN BY A PROGRAM OF THIS SESSION (wip/print2.py): the print, with contracts of this session's own let in. Not trusted: Lean checks it.
import Derived.Test.YtmiggjncmeomlaaQS0
namespace Go.Proofs.Ytmiggjncmeomlaa.QS
open Go.RowKit Go.Proofs.YtmiggjncmeomlaaW.PrintWords Go.Proofs.YtmiggjncmeomlaaW.PrintLast Go.Proofs.YtmiggjncmeomlaaW.PrintMore
attribute [local go_sem] max2_int min2_int max_two min_two max_three min_three max_four min_four   -- for this text's walks alone
set_option linter.unusedVariables false
set_option linter.unusedSimpArgs false

/-! ### spec_ValueRight: function 7 -/
mutual
def spec_ValueRight.j0 : Nat → Bool → Int → Bool → Int → Int → ByteArray → List (S24) → Option (Bool)
  | 0, _, _, _, _, _, _, _ => none
  | k + 1, x1, x7, x8, x104000, x104001, x104002, x104003 => if x8 = true then (if x104001 = 0 then (if x104002.toList = ([] : List UInt8) then (some ((x104003.length : Int) == 0)) else (some false)) else (some false)) else (if x7 = 1 then (if x104002.toList = ([] : List UInt8) then (some ((x104003.length : Int) == 0)) else (some false)) else (if x7 = 2 then (if x104001 = 0 then (if (x104003.length : Int) = 0 then (some (decide ((x104002.size : Int) ≤ 200))) else (some false)) else (some false)) else (if x7 = 5 then (if x1 = true then (if x104001 = 0 then (if x104002.toList = ([] : List UInt8) then (spec_ValueRight.j1 k (decide ((x104003.length : Int) > 12)) x104000 x104001 x104002 x104003) else (spec_ValueRight.j1 k true x104000 x104001 x104002 x104003)) else (spec_ValueRight.j1 k true x104000 x104001 x104002 x104003)) else (spec_ValueRight.j1 k true x104000 x104001 x104002 x104003)) else (some false))))
def spec_ValueRight.j1 : Nat → Bool → Int → Int → ByteArray → List (S24) → Option (Bool)
  | 0, _, _, _, _, _ => none
  | k + 1, x73, x104000, x104001, x104002, x104003 => if x73 = true then (some false) else (spec_ValueRight.l0 k 0 x104000 x104001 x104002 x104003)
def spec_ValueRight.l0 : Nat → Int → Int → Int → ByteArray → List (S24) → Option (Bool)
  | 0, _, _, _, _, _ => none
  | k + 1, x5, x104000, x104001, x104002, x104003 => if x5 < (x104003.length : Int) then (if 0 ≤ x5 then ((spec_ValueRight.f k ((rd_T24 x104003 x5).f0) ((rd_T24 x104003 x5).f1) ((rd_T24 x104003 x5).f2) ((rd_T24 x104003 x5).f3) false).bind fun t105 => (if t105 = true then (spec_ValueRight.l0 k (wrap64 (x5 + 1)) x104000 x104001 x104002 x104003) else (some false))) else (none)) else (some true)
def spec_ValueRight.f : Nat → Int → Int → ByteArray → List (S24) → Bool → Option (Bool)
  | 0, _, _, _, _, _ => none
  | k + 1, a0_0, a0_1, a0_2, l0_3, a1 => if a0_0 = 0 then (spec_ValueRight.j0 k a1 a0_0 (a0_0 == 0) a0_0 a0_1 a0_2 l0_3) else (if a0_0 = 3 then (spec_ValueRight.j0 k a1 a0_0 (a0_0 == 3) a0_0 a0_1 a0_2 l0_3) else (spec_ValueRight.j0 k a1 a0_0 (a0_0 == 4) a0_0 a0_1 a0_2 l0_3))
end
theorem spec_ValueRight.mono_l : ∀ k, (∀ y0 y1 y2 y3 y4, LeO (spec_ValueRight.f k y0 y1 y2 y3 y4) (spec_ValueRight.f (k + 1) y0 y1 y2 y3 y4)) ∧ (∀ y0 y1 y2 y3 y4 y5 y6, LeO (spec_ValueRight.j0 k y0 y1 y2 y3 y4 y5 y6) (spec_ValueRight.j0 (k + 1) y0 y1 y2 y3 y4 y5 y6)) ∧ (∀ y0 y1 y2 y3 y4, LeO (spec_ValueRight.j1 k y0 y1 y2 y3 y4) (spec_ValueRight.j1 (k + 1) y0 y1 y2 y3 y4)) ∧ (∀ y0 y1 y2 y3 y4, LeO (spec_ValueRight.l0 k y0 y1 y2 y3 y4) (spec_ValueRight.l0 (k + 1) y0 y1 y2 y3 y4))
  | 0 => ⟨fun _ _ _ _ _ r h => by simp [spec_ValueRight.f] at h, fun _ _ _ _ _ _ _ r h => by simp [spec_ValueRight.j0] at h, fun _ _ _ _ _ r h => by simp [spec_ValueRight.j1] at h, fun _ _ _ _ _ r h => by simp [spec_ValueRight.l0] at h⟩
  | k + 1 => by
    obtain ⟨ih0, ih1, ih2, ih3⟩ := spec_ValueRight.mono_l k
    refine ⟨?_, ?_, ?_, ?_⟩
    · intro y0 y1 y2 y3 y4
      unfold spec_ValueRight.f
      repeat' first
      | (with_reducible exact ih0 _ _ _ _ _)
      | (with_reducible exact ih1 _ _ _ _ _ _ _)
      | (with_reducible exact ih2 _ _ _ _ _)
      | (with_reducible exact ih3 _ _ _ _ _)
      | (with_reducible exact LeO.refl _)
      | (with_reducible exact LeO.none _)
      | (with_reducible refine LeO.ite ?_ ?_)
      | (with_reducible refine LeO.bind ?_ (fun _ => ?_))
      | exact ih0 _ _ _ _ _
      | exact ih1 _ _ _ _ _ _ _
      | exact ih2 _ _ _ _ _
      | exact ih3 _ _ _ _ _
      | exact LeO.none _
      | refine LeO.ite ?_ ?_
      | refine LeO.bind ?_ (fun _ => ?_)
    · intro y0 y1 y2 y3 y4 y5 y6
      unfold spec_ValueRight.j0
      repeat' first
      | (with_reducible exact ih0 _ _ _ _ _)
      | (with_reducible exact ih1 _ _ _ _ _ _ _)
      | (with_reducible exact ih2 _ _ _ _ _)
      | (with_reducible exact ih3 _ _ _ _ _)
      | (with_reducible exact LeO.refl _)
      | (with_reducible exact LeO.none _)
      | (with_reducible refine LeO.ite ?_ ?_)
      | (with_reducible refine LeO.bind ?_ (fun _ => ?_))
      | exact ih0 _ _ _ _ _
      | exact ih1 _ _ _ _ _ _ _
      | exact ih2 _ _ _ _ _
      | exact ih3 _ _ _ _ _
      | exact LeO.none _
      | refine LeO.ite ?_ ?_
      | refine LeO.bind ?_ (fun _ => ?_)
    · intro y0 y1 y2 y3 y4
      unfold spec_ValueRight.j1
      repeat' first
      | (with_reducible exact ih0 _ _ _ _ _)
      | (with_reducible exact ih1 _ _ _ _ _ _ _)
      | (with_reducible exact ih2 _ _ _ _ _)
      | (with_reducible exact ih3 _ _ _ _ _)
      | (with_reducible exact LeO.refl _)
      | (with_reducible exact LeO.none _)
      | (with_reducible refine LeO.ite ?_ ?_)
      | (with_reducible refine LeO.bind ?_ (fun _ => ?_))
      | exact ih0 _ _ _ _ _
      | exact ih1 _ _ _ _ _ _ _
      | exact ih2 _ _ _ _ _
      | exact ih3 _ _ _ _ _
      | exact LeO.none _
      | refine LeO.ite ?_ ?_
      | refine LeO.bind ?_ (fun _ => ?_)
    · intro y0 y1 y2 y3 y4
      unfold spec_ValueRight.l0
      repeat' first
      | (with_reducible exact ih0 _ _ _ _ _)
      | (with_reducible exact ih1 _ _ _ _ _ _ _)
      | (with_reducible exact ih2 _ _ _ _ _)
      | (with_reducible exact ih3 _ _ _ _ _)
      | (with_reducible exact LeO.refl _)
      | (with_reducible exact LeO.none _)
      | (with_reducible refine LeO.ite ?_ ?_)
      | (with_reducible refine LeO.bind ?_ (fun _ => ?_))
      | exact ih0 _ _ _ _ _
      | exact ih1 _ _ _ _ _ _ _
      | exact ih2 _ _ _ _ _
      | exact ih3 _ _ _ _ _
      | exact LeO.none _
      | refine LeO.ite ?_ ?_
      | refine LeO.bind ?_ (fun _ => ?_)
theorem spec_ValueRight.mono : ∀ a0 a1 a2 a3 a4 k, LeO (spec_ValueRight.f k a0 a1 a2 a3 a4) (spec_ValueRight.f (k + 1) a0 a1 a2 a3 a4) := by
  intro a0 a1 a2 a3 a4 k
  obtain ⟨ih0, ih1, ih2, ih3⟩ := spec_ValueRight.mono_l k
  exact ih0 a0 a1 a2 a3 a4
set_option maxHeartbeats 8000000 in
set_option maxRecDepth 100000 in
theorem spec_ValueRight.calls (k : Nat) : ∀ (a0_0 : Int) (a0_1 : Int) (a0_2 : ByteArray) (A0_3 : Option Addr) (c0_3 : Nat) (l0_3 : List (S24)) (a1 : Bool) (r : Bool) (w : World) (hr0_3 : Kd.C k24 w A0_3 l0_3.length l0_3) (hc0_3 : l0_3.length ≤ c0_3) (h : spec_ValueRight.f k a0_0 a0_1 a0_2 l0_3 a1 = some r),
    Calls Try.prog 7 #[.agg #[.int .i64 a0_0, .int .i64 a0_1, .string a0_2, .slice A0_3 l0_3.length c0_3], .bool a1] w fun e w' => e = .returned (.bool r) ∧ Below w.heap.size w w' := by
  induction k using Nat.strongRecOn with
  | _ k ih =>
  intro a0_0 a0_1 a0_2 A0_3 c0_3 l0_3 a1 r w hr0_3 hc0_3 h
  cases k with
  | zero => exact absurd h (by simp [spec_ValueRight.f])
  | succ k =>
  simp only [spec_ValueRight.f] at h
  have hu24 := Try.underlying24
  have HR0_3 := Aside0.mk hr0_3
  have HC0_3 := Aside0.mk hc0_3
  clear hr0_3 hc0_3
  have HB := Aside0.mk (Below.refl w.heap.size w)
  have H : (if a0_0 = 0 then (spec_ValueRight.j0 k a1 a0_0 (a0_0 == 0) a0_0 a0_1 a0_2 l0_3) else (if a0_0 = 3 then (spec_ValueRight.j0 k a1 a0_0 (a0_0 == 3) a0_0 a0_1 a0_2 l0_3) else (spec_ValueRight.j0 k a1 a0_0 (a0_0 == 4) a0_0 a0_1 a0_2 l0_3))) = some r := h
  clear h
  have HC3 := Aside0.mk H
  clear H
  go_enter Try.func7, Try.ntmps7
  go_upto_if 8 with (first | ((with_reducible refine gate_dst (N := 2) rfl ?_); (try (refine gate_guard (by rfl) ?_; dsimp only)); refine box_event ?hg (N := 2) ?hd (cs := #[.int .i64 a0_0, .int .i64 a0_1, .string a0_2, .slice A0_3 l0_3.length c0_3]) (t := 24) ?hr ?_; (case hd => rfl); (case hg => rfl); (case hr => first | (go_simp; done) | (go_simp; rfl)); intro gb103 hg w4 hbox hb; have n0_ := Aside0.mk (below_step (by repeat (first | (with_reducible first | exact HB.out | apply below_alloc | apply pw_below_drewN | apply below_drew1) | exact HB.out)) hb); have n1_ := Aside0.mk (hbox); have n2_ := Aside0.mk ((by rw [hg]; exact (below_size (by repeat (first | (with_reducible first | exact HB.out | apply below_alloc | apply pw_below_drewN | apply below_drew1) | exact HB.out))) : w.heap.size ≤ gb103)); have n3_ := Aside0.mk ((by rw [hg]; exact (below_size (by repeat (first | (with_reducible first | exact HB.out | apply below_alloc | apply pw_below_drewN | apply below_drew1) | exact HB.out))) : w.heap.size ≤ gb103)); clear HB; have HB := n0_; have BK103 := n1_; have GW103 := n2_; have GE103 := n3_; clear n0_ n1_ n2_ n3_; clear hb hbox hg; have hcz5_0 : w4.cell? ⟨gb103, 0, none⟩ = some (.int .i64 a0_0) := (blk_cell BK103.out 0).trans rfl; have hcz5_1 : w4.cell? ⟨gb103, 1, none⟩ = some (.int .i64 a0_1) := (blk_cell BK103.out 1).trans rfl; have hcz5_2 : w4.cell? ⟨gb103, 2, none⟩ = some (.string a0_2) := (blk_cell BK103.out 2).trans rfl; have hcz5_3 : w4.cell? ⟨gb103, 3, none⟩ = some (.slice A0_3 l0_3.length c0_3) := (blk_cell BK103.out 3).trans rfl; have hfz5_0 := blk_frozen BK103.out 0; have hfz5_1 := blk_frozen BK103.out 1; have hfz5_2 := blk_frozen BK103.out 2; have hfz5_3 := blk_frozen BK103.out 3))
  (try simp only [Act.put, List.setIfInBounds_toArray, List.set_cons_zero, List.set_cons_succ])
  go_cut [8] (fun v8 wc => ∃ (kq : Nat) (x8_2 : Bool), v8 = .bool x8_2 ∧ Aside0 (spec_ValueRight.j0 kq a1 a0_0 x8_2 a0_0 a0_1 a0_2 l0_3 = some r) ∧ Aside0 (kq ≤ k) ∧ Aside0 (wc.heap[gb103]? = some (.cells #[.int .i64 a0_0, .int .i64 a0_1, .string a0_2, (.slice A0_3 l0_3.length c0_3)] 24 (0, 0))) ∧ Aside0 (Below w.heap.size w wc))
  case first =>
    have H := HC3.out
    clear HC3
    by_cases c6 : a0_0 = 0
    · rw [if_pos c6] at H
      have c6b0 : (a0_0 == 0) = true := beq_iff_eq.mpr c6
      have c6b1 : (a0_0 != 0) = false := bne_eq_false_iff_eq.mpr c6
      clear c6
      (first | rw [c6b0] | (simp only [i64_w, i32_w]; rw [c6b0]) | skip)
      have H' := Aside0.mk H
      clear H
      go_wp2
      go_meet
      case rel => exact ⟨_, ((a0_0 == 0)), (by first | rfl | (simp; done) | (simp [*]; done)), H', ⟨by first | omega | exact Nat.le_refl _⟩, ⟨by (with_reducible repeat (first | refine blk_drewN ?_ _ | refine blk_drew ?_ | refine blk_alloc ?_ _)); exact BK103.out⟩, ⟨by repeat (first | (with_reducible first | exact HB.out | apply below_alloc | apply pw_below_drewN | apply below_drew1 | refine below_set ?_ GE103.out) | exact HB.out)⟩⟩
    · rw [if_neg c6] at H
      have c6b0 : (a0_0 == 0) = false := beq_eq_false_iff_ne.mpr c6
      have c6b1 : (a0_0 != 0) = true := bne_iff_ne.mpr c6
      (first | rw [c6b0] | (simp only [i64_w, i32_w]; rw [c6b0]) | skip)
      by_cases c7 : a0_0 = 3
      · rw [if_pos c7] at H
        have c7b0 : (a0_0 == 3) = true := beq_iff_eq.mpr c7
        have c7b1 : (a0_0 != 3) = false := bne_eq_false_iff_eq.mpr c7
        clear c7
        have H' := Aside0.mk H
        clear H
        go_wp2
        go_meet
        case rel => exact ⟨_, ((a0_0 == 3)), (by first | rfl | (simp; done) | (simp [*]; done)), H', ⟨by first | omega | exact Nat.le_refl _⟩, ⟨by (with_reducible repeat (first | refine blk_drewN ?_ _ | refine blk_drew ?_ | refine blk_alloc ?_ _)); exact BK103.out⟩, ⟨by repeat (first | (with_reducible first | exact HB.out | apply below_alloc | apply pw_below_drewN | apply below_drew1 | refine below_set ?_ GE103.out) | exact HB.out)⟩⟩
      · rw [if_neg c7] at H
        have c7b0 : (a0_0 == 3) = false := beq_eq_false_iff_ne.mpr c7
        have c7b1 : (a0_0 != 3) = true := bne_iff_ne.mpr c7
        have H' := Aside0.mk H
        clear H
        go_wp2
        go_meet
        case rel => exact ⟨_, ((a0_0 == 4)), (by first | rfl | (simp; done) | (simp [*]; done)), H', ⟨by first | omega | exact Nat.le_refl _⟩, ⟨by (with_reducible repeat (first | refine blk_drewN ?_ _ | refine blk_drew ?_ | refine blk_alloc ?_ _)); exact BK103.out⟩, ⟨by repeat (first | (with_reducible first | exact HB.out | apply below_alloc | apply pw_below_drewN | apply below_drew1 | refine below_set ?_ GE103.out) | exact HB.out)⟩⟩
  case rest =>
    clear HC3
    try clear p2
    try clear c6
    try clear c6b0
    try clear c6b1
    try clear c7
    try clear c7b0
    try clear c7b1
    try clear hcz5_0
    try clear hcz5_1
    try clear hcz5_2
    try clear hcz5_3
    try clear hfz5_0
    try clear hfz5_1
    try clear hfz5_2
    try clear hfz5_3
    obtain ⟨kq, x8_2, rfl, HA, HJ2, BK103, HB⟩ := hcut
    cases kq with
    | zero => exact absurd HA.out (by simp [spec_ValueRight.j0])
    | succ kj2 =>
      have H := HA.out
      clear HA
      simp only [spec_ValueRight.j0] at H
      by_cases c8 : x8_2 = true
      · subst c8
        have H1 : (if a0_1 = 0 then (if a0_2.toList = ([] : List UInt8) then (some ((l0_3.length : Int) == 0)) else (some false)) else (some false)) = some r := by rw [if_pos rfl] at H; exact H
        clear H
        have H := H1
        clear H1
        by_cases c9 : a0_1 = 0
        · rw [if_pos c9] at H
          have c9b0 : (a0_1 == 0) = true := beq_iff_eq.mpr c9
          have c9b1 : (a0_1 != 0) = false := bne_eq_false_iff_eq.mpr c9
          clear c9
          by_cases c10 : a0_2.toList = ([] : List UInt8)
          · rw [if_pos c10] at H
            have c10b0 : (a0_2.toList == ([] : List UInt8)) = true := beq_iff_eq.mpr c10
            have c10b1 : (a0_2.toList != ([] : List UInt8)) = false := bne_eq_false_iff_eq.mpr c10
            clear c10
            obtain rfl := Option.some.inj H
            have hcz11_0 : wc.cell? ⟨gb103, 0, none⟩ = some (.int .i64 a0_0) := (blk_cell BK103.out 0).trans rfl
            have hcz11_1 : wc.cell? ⟨gb103, 1, none⟩ = some (.int .i64 a0_1) := (blk_cell BK103.out 1).trans rfl
            have hcz11_2 : wc.cell? ⟨gb103, 2, none⟩ = some (.string a0_2) := (blk_cell BK103.out 2).trans rfl
            have hcz11_3 : wc.cell? ⟨gb103, 3, none⟩ = some (.slice A0_3 l0_3.length c0_3) := (blk_cell BK103.out 3).trans rfl
            have hfz11_0 := blk_frozen BK103.out 0
            have hfz11_1 := blk_frozen BK103.out 1
            have hfz11_2 := blk_frozen BK103.out 2
            have hfz11_3 := blk_frozen BK103.out 3
            go_wp2
            go_ret
            exact ⟨by first | rfl | (simp [errW_none, errW_some] <;> rfl) | (simp [*, errW_none, errW_some] <;> rfl), by repeat (first | (with_reducible first | exact HB.out | apply below_alloc | apply pw_below_drewN | apply below_drew1 | refine below_set ?_ GE103.out) | exact HB.out)⟩
          · rw [if_neg c10] at H
            have c10b0 : (a0_2.toList == ([] : List UInt8)) = false := beq_eq_false_iff_ne.mpr c10
            have c10b1 : (a0_2.toList != ([] : List UInt8)) = true := bne_iff_ne.mpr c10
            obtain rfl := Option.some.inj H
            have hcz12_0 : wc.cell? ⟨gb103, 0, none⟩ = some (.int .i64 a0_0) := (blk_cell BK103.out 0).trans rfl
            have hcz12_1 : wc.cell? ⟨gb103, 1, none⟩ = some (.int .i64 a0_1) := (blk_cell BK103.out 1).trans rfl
            have hcz12_2 : wc.cell? ⟨gb103, 2, none⟩ = some (.string a0_2) := (blk_cell BK103.out 2).trans rfl
            have hcz12_3 : wc.cell? ⟨gb103, 3, none⟩ = some (.slice A0_3 l0_3.length c0_3) := (blk_cell BK103.out 3).trans rfl
            have hfz12_0 := blk_frozen BK103.out 0
            have hfz12_1 := blk_frozen BK103.out 1
            have hfz12_2 := blk_frozen BK103.out 2
            have hfz12_3 := blk_frozen BK103.out 3
            go_wp2
            go_ret
            exact ⟨by first | rfl | (simp [errW_none, errW_some] <;> rfl) | (simp [*, errW_none, errW_some] <;> rfl), by repeat (first | (with_reducible first | exact HB.out | apply below_alloc | apply pw_below_drewN | apply below_drew1 | refine below_set ?_ GE103.out) | exact HB.out)⟩
        · rw [if_neg c9] at H
          have c9b0 : (a0_1 == 0) = false := beq_eq_false_iff_ne.mpr c9
          have c9b1 : (a0_1 != 0) = true := bne_iff_ne.mpr c9
          obtain rfl := Option.some.inj H
          have hcz13_0 : wc.cell? ⟨gb103, 0, none⟩ = some (.int .i64 a0_0) := (blk_cell BK103.out 0).trans rfl
          have hcz13_1 : wc.cell? ⟨gb103, 1, none⟩ = some (.int .i64 a0_1) := (blk_cell BK103.out 1).trans rfl
          have hcz13_2 : wc.cell? ⟨gb103, 2, none⟩ = some (.string a0_2) := (blk_cell BK103.out 2).trans rfl
          have hcz13_3 : wc.cell? ⟨gb103, 3, none⟩ = some (.slice A0_3 l0_3.length c0_3) := (blk_cell BK103.out 3).trans rfl
          have hfz13_0 := blk_frozen BK103.out 0
          have hfz13_1 := blk_frozen BK103.out 1
          have hfz13_2 := blk_frozen BK103.out 2
          have hfz13_3 := blk_frozen BK103.out 3
          go_wp2
          go_ret
          exact ⟨by first | rfl | (simp [errW_none, errW_some] <;> rfl) | (simp [*, errW_none, errW_some] <;> rfl), by repeat (first | (with_reducible first | exact HB.out | apply below_alloc | apply pw_below_drewN | apply below_drew1 | refine below_set ?_ GE103.out) | exact HB.out)⟩
      · replace c8 := Bool.eq_false_iff.mpr c8
        subst c8
        have H1 : (if a0_0 = 1 then (if a0_2.toList = ([] : List UInt8) then (some ((l0_3.length : Int) == 0)) else (some false)) else (if a0_0 = 2 then (if a0_1 = 0 then (if (l0_3.length : Int) = 0 then (some (decide ((a0_2.size : Int) ≤ 200))) else (some false)) else (some false)) else (if a0_0 = 5 then (if a1 = true then (if a0_1 = 0 then (if a0_2.toList = ([] : List UInt8) then (spec_ValueRight.j1 kj2 (decide ((l0_3.length : Int) > 12)) a0_0 a0_1 a0_2 l0_3) else (spec_ValueRight.j1 kj2 true a0_0 a0_1 a0_2 l0_3)) else (spec_ValueRight.j1 kj2 true a0_0 a0_1 a0_2 l0_3)) else (spec_ValueRight.j1 kj2 true a0_0 a0_1 a0_2 l0_3)) else (some false)))) = some r := by rw [if_neg (show ¬ (false = true) by decide)] at H; exact H
        clear H
        have H := H1
        clear H1
        by_cases c14 : a0_0 = 1
        · rw [if_pos c14] at H
          have c14b0 : (a0_0 == 1) = true := beq_iff_eq.mpr c14
          have c14b1 : (a0_0 != 1) = false := bne_eq_false_iff_eq.mpr c14
          clear c14
          by_cases c15 : a0_2.toList = ([] : List UInt8)
          · rw [if_pos c15] at H
            have c15b0 : (a0_2.toList == ([] : List UInt8)) = true := beq_iff_eq.mpr c15
            have c15b1 : (a0_2.toList != ([] : List UInt8)) = false := bne_eq_false_iff_eq.mpr c15
            clear c15
            obtain rfl := Option.some.inj H
            have hcz16_0 : wc.cell? ⟨gb103, 0, none⟩ = some (.int .i64 a0_0) := (blk_cell BK103.out 0).trans rfl
            have hcz16_1 : wc.cell? ⟨gb103, 1, none⟩ = some (.int .i64 a0_1) := (blk_cell BK103.out 1).trans rfl
            have hcz16_2 : wc.cell? ⟨gb103, 2, none⟩ = some (.string a0_2) := (blk_cell BK103.out 2).trans rfl
            have hcz16_3 : wc.cell? ⟨gb103, 3, none⟩ = some (.slice A0_3 l0_3.length c0_3) := (blk_cell BK103.out 3).trans rfl
            have hfz16_0 := blk_frozen BK103.out 0
            have hfz16_1 := blk_frozen BK103.out 1
            have hfz16_2 := blk_frozen BK103.out 2
            have hfz16_3 := blk_frozen BK103.out 3
            go_wp2
            go_ret
            exact ⟨by first | rfl | (simp [errW_none, errW_some] <;> rfl) | (simp [*, errW_none, errW_some] <;> rfl), by repeat (first | (with_reducible first | exact HB.out | apply below_alloc | apply pw_below_drewN | apply below_drew1 | refine below_set ?_ GE103.out) | exact HB.out)⟩
          · rw [if_neg c15] at H
            have c15b0 : (a0_2.toList == ([] : List UInt8)) = false := beq_eq_false_iff_ne.mpr c15
            have c15b1 : (a0_2.toList != ([] : List UInt8)) = true := bne_iff_ne.mpr c15
            obtain rfl := Option.some.inj H
            have hcz17_0 : wc.cell? ⟨gb103, 0, none⟩ = some (.int .i64 a0_0) := (blk_cell BK103.out 0).trans rfl
            have hcz17_1 : wc.cell? ⟨gb103, 1, none⟩ = some (.int .i64 a0_1) := (blk_cell BK103.out 1).trans rfl
            have hcz17_2 : wc.cell? ⟨gb103, 2, none⟩ = some (.string a0_2) := (blk_cell BK103.out 2).trans rfl
            have hcz17_3 : wc.cell? ⟨gb103, 3, none⟩ = some (.slice A0_3 l0_3.length c0_3) := (blk_cell BK103.out 3).trans rfl
            have hfz17_0 := blk_frozen BK103.out 0
            have hfz17_1 := blk_frozen BK103.out 1
            have hfz17_2 := blk_frozen BK103.out 2
            have hfz17_3 := blk_frozen BK103.out 3
            go_wp2
            go_ret
            exact ⟨by first | rfl | (simp [errW_none, errW_some] <;> rfl) | (simp [*, errW_none, errW_some] <;> rfl), by repeat (first | (with_reducible first | exact HB.out | apply below_alloc | apply pw_below_drewN | apply below_drew1 | refine below_set ?_ GE103.out) | exact HB.out)⟩
        · rw [if_neg c14] at H
          have c14b0 : (a0_0 == 1) = false := beq_eq_false_iff_ne.mpr c14
          have c14b1 : (a0_0 != 1) = true := bne_iff_ne.mpr c14
          by_cases c18 : a0_0 = 2
          · rw [if_pos c18] at H
            have c18b0 : (a0_0 == 2) = true := beq_iff_eq.mpr c18
            have c18b1 : (a0_0 != 2) = false := bne_eq_false_iff_eq.mpr c18
            clear c18
            by_cases c19 : a0_1 = 0
            · rw [if_pos c19] at H
              have c19b0 : (a0_1 == 0) = true := beq_iff_eq.mpr c19
              have c19b1 : (a0_1 != 0) = false := bne_eq_false_iff_eq.mpr c19
              clear c19
              by_cases c20 : (l0_3.length : Int) = 0
              · rw [if_pos c20] at H
                have c20b0 : ((l0_3.length : Int) == 0) = true := beq_iff_eq.mpr c20
                have c20b1 : ((l0_3.length : Int) != 0) = false := bne_eq_false_iff_eq.mpr c20
                clear c20
                obtain rfl := Option.some.inj H
                have hcz21_0 : wc.cell? ⟨gb103, 0, none⟩ = some (.int .i64 a0_0) := (blk_cell BK103.out 0).trans rfl
                have hcz21_1 : wc.cell? ⟨gb103, 1, none⟩ = some (.int .i64 a0_1) := (blk_cell BK103.out 1).trans rfl
                have hcz21_2 : wc.cell? ⟨gb103, 2, none⟩ = some (.string a0_2) := (blk_cell BK103.out 2).trans rfl
                have hcz21_3 : wc.cell? ⟨gb103, 3, none⟩ = some (.slice A0_3 l0_3.length c0_3) := (blk_cell BK103.out 3).trans rfl
                have hfz21_0 := blk_frozen BK103.out 0
                have hfz21_1 := blk_frozen BK103.out 1
                have hfz21_2 := blk_frozen BK103.out 2
                have hfz21_3 := blk_frozen BK103.out 3
                go_wp2
                go_ret
                exact ⟨by first | rfl | (simp [errW_none, errW_some] <;> rfl) | (simp [*, errW_none, errW_some] <;> rfl), by repeat (first | (with_reducible first | exact HB.out | apply below_alloc | apply pw_below_drewN | apply below_drew1 | refine below_set ?_ GE103.out) | exact HB.out)⟩
              · rw [if_neg c20] at H
                have c20b0 : ((l0_3.length : Int) == 0) = false := beq_eq_false_iff_ne.mpr c20
                have c20b1 : ((l0_3.length : Int) != 0) = true := bne_iff_ne.mpr c20
                have c20b2 : ¬ (l0_3 = []) := fun h_ => c20 (by rw [h_]; rfl)
                obtain rfl := Option.some.inj H
                have hcz22_0 : wc.cell? ⟨gb103, 0, none⟩ = some (.int .i64 a0_0) := (blk_cell BK103.out 0).trans rfl
                have hcz22_1 : wc.cell? ⟨gb103, 1, none⟩ = some (.int .i64 a0_1) := (blk_cell BK103.out 1).trans rfl
                have hcz22_2 : wc.cell? ⟨gb103, 2, none⟩ = some (.string a0_2) := (blk_cell BK103.out 2).trans rfl
                have hcz22_3 : wc.cell? ⟨gb103, 3, none⟩ = some (.slice A0_3 l0_3.length c0_3) := (blk_cell BK103.out 3).trans rfl
                have hfz22_0 := blk_frozen BK103.out 0
                have hfz22_1 := blk_frozen BK103.out 1
                have hfz22_2 := blk_frozen BK103.out 2
                have hfz22_3 := blk_frozen BK103.out 3
                go_wp2
                go_ret
                exact ⟨by first | rfl | (simp [errW_none, errW_some] <;> rfl) | (simp [*, errW_none, errW_some] <;> rfl), by repeat (first | (with_reducible first | exact HB.out | apply below_alloc | apply pw_below_drewN | apply below_drew1 | refine below_set ?_ GE103.out) | exact HB.out)⟩
            · rw [if_neg c19] at H
              have c19b0 : (a0_1 == 0) = false := beq_eq_false_iff_ne.mpr c19
              have c19b1 : (a0_1 != 0) = true := bne_iff_ne.mpr c19
              obtain rfl := Option.some.inj H
              have hcz23_0 : wc.cell? ⟨gb103, 0, none⟩ = some (.int .i64 a0_0) := (blk_cell BK103.out 0).trans rfl
              have hcz23_1 : wc.cell? ⟨gb103, 1, none⟩ = some (.int .i64 a0_1) := (blk_cell BK103.out 1).trans rfl
              have hcz23_2 : wc.cell? ⟨gb103, 2, none⟩ = some (.string a0_2) := (blk_cell BK103.out 2).trans rfl
              have hcz23_3 : wc.cell? ⟨gb103, 3, none⟩ = some (.slice A0_3 l0_3.length c0_3) := (blk_cell BK103.out 3).trans rfl
              have hfz23_0 := blk_frozen BK103.out 0
              have hfz23_1 := blk_frozen BK103.out 1
              have hfz23_2 := blk_frozen BK103.out 2
              have hfz23_3 := blk_frozen BK103.out 3
              go_wp2
              go_ret
              exact ⟨by first | rfl | (simp [errW_none, errW_some] <;> rfl) | (simp [*, errW_none, errW_some] <;> rfl), by repeat (first | (with_reducible first | exact HB.out | apply below_alloc | apply pw_below_drewN | apply below_drew1 | refine below_set ?_ GE103.out) | exact HB.out)⟩
          · rw [if_neg c18] at H
            have c18b0 : (a0_0 == 2) = false := beq_eq_false_iff_ne.mpr c18
            have c18b1 : (a0_0 != 2) = true := bne_iff_ne.mpr c18
            by_cases c24 : a0_0 = 5
            · rw [if_pos c24] at H
              have c24b0 : (a0_0 == 5) = true := beq_iff_eq.mpr c24
              have c24b1 : (a0_0 != 5) = false := bne_eq_false_iff_eq.mpr c24
              clear c24
              have HC25 := Aside0.mk H
              clear H
              go_upto_region 11 with (fail)
              go_cut [73] (fun v73 wc => ∃ (kq : Nat) (x73_24 : Bool), v73 = .bool x73_24 ∧ Aside0 (spec_ValueRight.j1 kq x73_24 a0_0 a0_1 a0_2 l0_3 = some r) ∧ Aside0 (kq ≤ kj2) ∧ Aside0 (wc.heap[gb103]? = some (.cells #[.int .i64 a0_0, .int .i64 a0_1, .string a0_2, (.slice A0_3 l0_3.length c0_3)] 24 (0, 0))) ∧ Aside0 (Below w.heap.size w wc))
              case first =>
                have H := HC25.out
                clear HC25
                by_cases c26 : a1 = true
                · subst c26
                  have H1 : (if a0_1 = 0 then (if a0_2.toList = ([] : List UInt8) then (spec_ValueRight.j1 kj2 (decide ((l0_3.length : Int) > 12)) a0_0 a0_1 a0_2 l0_3) else (spec_ValueRight.j1 kj2 true a0_0 a0_1 a0_2 l0_3)) else (spec_ValueRight.j1 kj2 true a0_0 a0_1 a0_2 l0_3)) = some r := by rw [if_pos rfl] at H; exact H
                  clear H
                  have H := H1
                  clear H1
                  by_cases c27 : a0_1 = 0
                  · rw [if_pos c27] at H
                    have c27b0 : (a0_1 == 0) = true := beq_iff_eq.mpr c27
                    have c27b1 : (a0_1 != 0) = false := bne_eq_false_iff_eq.mpr c27
                    clear c27
                    (first | rw [c27b0] | (simp only [i64_w, i32_w]; rw [c27b0]) | skip)
                    by_cases c28 : a0_2.toList = ([] : List UInt8)
                    · rw [if_pos c28] at H
                      have c28b0 : (a0_2.toList == ([] : List UInt8)) = true := beq_iff_eq.mpr c28
                      have c28b1 : (a0_2.toList != ([] : List UInt8)) = false := bne_eq_false_iff_eq.mpr c28
                      clear c28
                      have H' := Aside0.mk H
                      clear H
                      have hcz29_0 : wc.cell? ⟨gb103, 0, none⟩ = some (.int .i64 a0_0) := (blk_cell BK103.out 0).trans rfl
                      have hcz29_1 : wc.cell? ⟨gb103, 1, none⟩ = some (.int .i64 a0_1) := (blk_cell BK103.out 1).trans rfl
                      have hcz29_2 : wc.cell? ⟨gb103, 2, none⟩ = some (.string a0_2) := (blk_cell BK103.out 2).trans rfl
                      have hcz29_3 : wc.cell? ⟨gb103, 3, none⟩ = some (.slice A0_3 l0_3.length c0_3) := (blk_cell BK103.out 3).trans rfl
                      have hfz29_0 := blk_frozen BK103.out 0
                      have hfz29_1 := blk_frozen BK103.out 1
                      have hfz29_2 := blk_frozen BK103.out 2
                      have hfz29_3 := blk_frozen BK103.out 3
                      go_wp2
                      go_meet
                      case rel => exact ⟨_, (decide ((l0_3.length : Int) > 12)), (by first | rfl | (simp; done) | (simp [*]; done)), H', ⟨by have := HJ2.out; first | omega | exact Nat.le_refl _⟩, ⟨by (with_reducible repeat (first | refine blk_drewN ?_ _ | refine blk_drew ?_ | refine blk_alloc ?_ _)); exact BK103.out⟩, ⟨by repeat (first | (with_reducible first | exact HB.out | apply below_alloc | apply pw_below_drewN | apply below_drew1 | refine below_set ?_ GE103.out) | exact HB.out)⟩⟩
                    · rw [if_neg c28] at H
                      have c28b0 : (a0_2.toList == ([] : List UInt8)) = false := beq_eq_false_iff_ne.mpr c28
                      have c28b1 : (a0_2.toList != ([] : List UInt8)) = true := bne_iff_ne.mpr c28
                      have H' := Aside0.mk H
                      clear H
                      have hcz30_0 : wc.cell? ⟨gb103, 0, none⟩ = some (.int .i64 a0_0) := (blk_cell BK103.out 0).trans rfl
                      have hcz30_1 : wc.cell? ⟨gb103, 1, none⟩ = some (.int .i64 a0_1) := (blk_cell BK103.out 1).trans rfl
                      have hcz30_2 : wc.cell? ⟨gb103, 2, none⟩ = some (.string a0_2) := (blk_cell BK103.out 2).trans rfl
                      have hcz30_3 : wc.cell? ⟨gb103, 3, none⟩ = some (.slice A0_3 l0_3.length c0_3) := (blk_cell BK103.out 3).trans rfl
                      have hfz30_0 := blk_frozen BK103.out 0
                      have hfz30_1 := blk_frozen BK103.out 1
                      have hfz30_2 := blk_frozen BK103.out 2
                      have hfz30_3 := blk_frozen BK103.out 3
                      go_wp2
                      go_meet
                      case rel => exact ⟨_, (true), (by first | rfl | (simp; done) | (simp [*]; done)), H', ⟨by have := HJ2.out; first | omega | exact Nat.le_refl _⟩, ⟨by (with_reducible repeat (first | refine blk_drewN ?_ _ | refine blk_drew ?_ | refine blk_alloc ?_ _)); exact BK103.out⟩, ⟨by repeat (first | (with_reducible first | exact HB.out | apply below_alloc | apply pw_below_drewN | apply below_drew1 | refine below_set ?_ GE103.out) | exact HB.out)⟩⟩
                  · rw [if_neg c27] at H
                    have c27b0 : (a0_1 == 0) = false := beq_eq_false_iff_ne.mpr c27
                    have c27b1 : (a0_1 != 0) = true := bne_iff_ne.mpr c27
                    (first | rw [c27b0] | (simp only [i64_w, i32_w]; rw [c27b0]) | skip)
                    have H' := Aside0.mk H
                    clear H
                    have hcz31_0 : wc.cell? ⟨gb103, 0, none⟩ = some (.int .i64 a0_0) := (blk_cell BK103.out 0).trans rfl
                    have hcz31_1 : wc.cell? ⟨gb103, 1, none⟩ = some (.int .i64 a0_1) := (blk_cell BK103.out 1).trans rfl
                    have hcz31_2 : wc.cell? ⟨gb103, 2, none⟩ = some (.string a0_2) := (blk_cell BK103.out 2).trans rfl
                    have hcz31_3 : wc.cell? ⟨gb103, 3, none⟩ = some (.slice A0_3 l0_3.length c0_3) := (blk_cell BK103.out 3).trans rfl
                    have hfz31_0 := blk_frozen BK103.out 0
                    have hfz31_1 := blk_frozen BK103.out 1
                    have hfz31_2 := blk_frozen BK103.out 2
                    have hfz31_3 := blk_frozen BK103.out 3
                    go_wp2
                    go_meet
                    case rel => exact ⟨_, (true), (by first | rfl | (simp; done) | (simp [*]; done)), H', ⟨by have := HJ2.out; first | omega | exact Nat.le_refl _⟩, ⟨by (with_reducible repeat (first | refine blk_drewN ?_ _ | refine blk_drew ?_ | refine blk_alloc ?_ _)); exact BK103.out⟩, ⟨by repeat (first | (with_reducible first | exact HB.out | apply below_alloc | apply pw_below_drewN | apply below_drew1 | refine below_set ?_ GE103.out) | exact HB.out)⟩⟩
                · replace c26 := Bool.eq_false_iff.mpr c26
                  subst c26
                  have H1 : (spec_ValueRight.j1 kj2 true a0_0 a0_1 a0_2 l0_3) = some r := by rw [if_neg (show ¬ (false = true) by decide)] at H; exact H
                  clear H
                  have H := H1
                  clear H1
                  have H' := Aside0.mk H
                  clear H
                  go_wp2
                  go_meet
                  case rel => exact ⟨_, (true), (by first | rfl | (simp; done) | (simp [*]; done)), H', ⟨by have := HJ2.out; first | omega | exact Nat.le_refl _⟩, ⟨by (with_reducible repeat (first | refine blk_drewN ?_ _ | refine blk_drew ?_ | refine blk_alloc ?_ _)); exact BK103.out⟩, ⟨by repeat (first | (with_reducible first | exact HB.out | apply below_alloc | apply pw_below_drewN | apply below_drew1 | refine below_set ?_ GE103.out) | exact HB.out)⟩⟩
              case rest =>
                clear HC25
                try clear c1
                try clear c2
                try clear p2
                try clear c6
                try clear c6b0
                try clear c6b1
                try clear c7
                try clear c7b0
                try clear c7b1
                try clear c8
                try clear c9
                try clear c9b0
                try clear c9b1
                try clear c10
                try clear c10b0
                try clear c10b1
                try clear c14
                try clear c14b0
                try clear c14b1
                try clear c15
                try clear c15b0
                try clear c15b1
                try clear c18
                try clear c18b0
                try clear c18b1
                try clear c19
                try clear c19b0
                try clear c19b1
                try clear c20
                try clear c20b0
                try clear c20b1
                try clear c20b2
                try clear c24
                try clear c24b0
                try clear c24b1
                try clear c26
                try clear c27
                try clear c27b0
                try clear c27b1
                try clear c28
                try clear c28b0
                try clear c28b1
                try clear hcz11_0
                try clear hcz11_1
                try clear hcz11_2
                try clear hcz11_3
                try clear hcz12_0
                try clear hcz12_1
                try clear hcz12_2
                try clear hcz12_3
                try clear hcz13_0
                try clear hcz13_1
                try clear hcz13_2
                try clear hcz13_3
                try clear hcz16_0
                try clear hcz16_1
                try clear hcz16_2
                try clear hcz16_3
                try clear hcz17_0
                try clear hcz17_1
                try clear hcz17_2
                try clear hcz17_3
                try clear hcz21_0
                try clear hcz21_1
                try clear hcz21_2
                try clear hcz21_3
                try clear hcz22_0
                try clear hcz22_1
                try clear hcz22_2
                try clear hcz22_3
                try clear hcz23_0
                try clear hcz23_1
                try clear hcz23_2
                try clear hcz23_3
                try clear hcz29_0
                try clear hcz29_1
                try clear hcz29_2
                try clear hcz29_3
                try clear hcz30_0
                try clear hcz30_1
                try clear hcz30_2
                try clear hcz30_3
                try clear hcz31_0
                try clear hcz31_1
                try clear hcz31_2
                try clear hcz31_3
                try clear hcz5_0
                try clear hcz5_1
                try clear hcz5_2
                try clear hcz5_3
                try clear hfz11_0
                try clear hfz11_1
                try clear hfz11_2
                try clear hfz11_3
                try clear hfz12_0
                try clear hfz12_1
                try clear hfz12_2
                try clear hfz12_3
                try clear hfz13_0
                try clear hfz13_1
                try clear hfz13_2
                try clear hfz13_3
                try clear hfz16_0
                try clear hfz16_1
                try clear hfz16_2
                try clear hfz16_3
                try clear hfz17_0
                try clear hfz17_1
                try clear hfz17_2
                try clear hfz17_3
                try clear hfz21_0
                try clear hfz21_1
                try clear hfz21_2
                try clear hfz21_3
                try clear hfz22_0
                try clear hfz22_1
                try clear hfz22_2
                try clear hfz22_3
                try clear hfz23_0
                try clear hfz23_1
                try clear hfz23_2
                try clear hfz23_3
                try clear hfz29_0
                try clear hfz29_1
                try clear hfz29_2
                try clear hfz29_3
                try clear hfz30_0
                try clear hfz30_1
                try clear hfz30_2
                try clear hfz30_3
                try clear hfz31_0
                try clear hfz31_1
                try clear hfz31_2
                try clear hfz31_3
                try clear hfz5_0
                try clear hfz5_1
                try clear hfz5_2
                try clear hfz5_3
                try clear p2
                obtain ⟨kq, x73_24, rfl, HA, HJ24, BK103, HB⟩ := hcut
                cases kq with
                | zero => exact absurd HA.out (by simp [spec_ValueRight.j1])
                | succ kj24 =>
                  have H := HA.out
                  clear HA
                  simp only [spec_ValueRight.j1] at H
                  by_cases c32 : x73_24 = true
                  · subst c32
                    have H1 : (some false) = some r := by rw [if_pos rfl] at H; exact H
                    clear H
                    have H := H1
                    clear H1
                    obtain rfl := Option.some.inj H
                    go_wp2
                    go_ret
                    exact ⟨by first | rfl | (simp [errW_none, errW_some] <;> rfl) | (simp [*, errW_none, errW_some] <;> rfl), by repeat (first | (with_reducible first | exact HB.out | apply below_alloc | apply pw_below_drewN | apply below_drew1 | refine below_set ?_ GE103.out) | exact HB.out)⟩
                  · replace c32 := Bool.eq_false_iff.mpr c32
                    subst c32
                    have H1 : (spec_ValueRight.l0 kj24 0 a0_0 a0_1 a0_2 l0_3) = some r := by rw [if_neg (show ¬ (false = true) by decide)] at H; exact H
                    clear H
                    have H := H1
                    clear H1
                    have H' := Aside0.mk H
                    clear H
                    go_wp2
                    go_loopg [5] kj24 (fun kq v5 w' => ∃ (x5_3 : Int), v5 = .int .i64 x5_3 ∧ Aside0 (spec_ValueRight.l0 kq x5_3 a0_0 a0_1 a0_2 l0_3 = some r) ∧ Aside0 (kq ≤ kj24) ∧ Aside0 (w'.heap[gb103]? = some (.cells #[.int .i64 a0_0, .int .i64 a0_1, .string a0_2, (.slice A0_3 l0_3.length c0_3)] 24 (0, 0))) ∧ Aside0 (Below w.heap.size w w'))
                    case atStart => exact ⟨(0), (by first | rfl | (simp; done) | (simp [*]; done)), H', ⟨Nat.le_refl _⟩, ⟨by (with_reducible repeat (first | refine blk_drewN ?_ _ | refine blk_drew ?_ | refine blk_alloc ?_ _)); exact BK103.out⟩, ⟨by repeat (first | (with_reducible first | exact HB.out | apply below_alloc | apply pw_below_drewN | apply below_drew1 | refine below_set ?_ GE103.out) | exact HB.out)⟩⟩
                    case round =>
                      clear H'
                      try clear c1
                      try clear c2
                      try clear p2
                      try clear c3
                      try clear c6
                      try clear c6b0
                      try clear c6b1
                      try clear c7
                      try clear c7b0
                      try clear c7b1
                      try clear c8
                      try clear c9
                      try clear c9b0
                      try clear c9b1
                      try clear c10
                      try clear c10b0
                      try clear c10b1
                      try clear c14
                      try clear c14b0
                      try clear c14b1
                      try clear c15
                      try clear c15b0
                      try clear c15b1
                      try clear c18
                      try clear c18b0
                      try clear c18b1
                      try clear c19
                      try clear c19b0
                      try clear c19b1
                      try clear c20
                      try clear c20b0
                      try clear c20b1
                      try clear c20b2
                      try clear c24
                      try clear c24b0
                      try clear c24b1
                      try clear c26
                      try clear c27
                      try clear c27b0
                      try clear c27b1
                      try clear c28
                      try clear c28b0
                      try clear c28b1
                      try clear c32
                      try clear hcz11_0
                      try clear hcz11_1
                      try clear hcz11_2
                      try clear hcz11_3
                      try clear hcz12_0
                      try clear hcz12_1
                      try clear hcz12_2
                      try clear hcz12_3
                      try clear hcz13_0
                      try clear hcz13_1
                      try clear hcz13_2
                      try clear hcz13_3
                      try clear hcz16_0
                      try clear hcz16_1
                      try clear hcz16_2
                      try clear hcz16_3
                      try clear hcz17_0
                      try clear hcz17_1
                      try clear hcz17_2
                      try clear hcz17_3
                      try clear hcz21_0
                      try clear hcz21_1
                      try clear hcz21_2
                      try clear hcz21_3
                      try clear hcz22_0
                      try clear hcz22_1
                      try clear hcz22_2
                      try clear hcz22_3
                      try clear hcz23_0
                      try clear hcz23_1
                      try clear hcz23_2
                      try clear hcz23_3
                      try clear hcz29_0
                      try clear hcz29_1
                      try clear hcz29_2
                      try clear hcz29_3
                      try clear hcz30_0
                      try clear hcz30_1
                      try clear hcz30_2
                      try clear hcz30_3
                      try clear hcz31_0
                      try clear hcz31_1
                      try clear hcz31_2
                      try clear hcz31_3
                      try clear hcz5_0
                      try clear hcz5_1
                      try clear hcz5_2
                      try clear hcz5_3
                      try clear hfz11_0
                      try clear hfz11_1
                      try clear hfz11_2
                      try clear hfz11_3
                      try clear hfz12_0
                      try clear hfz12_1
                      try clear hfz12_2
                      try clear hfz12_3
                      try clear hfz13_0
                      try clear hfz13_1
                      try clear hfz13_2
                      try clear hfz13_3
                      try clear hfz16_0
                      try clear hfz16_1
                      try clear hfz16_2
                      try clear hfz16_3
                      try clear hfz17_0
                      try clear hfz17_1
                      try clear hfz17_2
                      try clear hfz17_3
                      try clear hfz21_0
                      try clear hfz21_1
                      try clear hfz21_2
                      try clear hfz21_3
                      try clear hfz22_0
                      try clear hfz22_1
                      try clear hfz22_2
                      try clear hfz22_3
                      try clear hfz23_0
                      try clear hfz23_1
                      try clear hfz23_2
                      try clear hfz23_3
                      try clear hfz29_0
                      try clear hfz29_1
                      try clear hfz29_2
                      try clear hfz29_3
                      try clear hfz30_0
                      try clear hfz30_1
                      try clear hfz30_2
                      try clear hfz30_3
                      try clear hfz31_0
                      try clear hfz31_1
                      try clear hfz31_2
                      try clear hfz31_3
                      try clear hfz5_0
                      try clear hfz5_1
                      try clear hfz5_2
                      try clear hfz5_3
                      try clear p2
                      obtain ⟨x5_3, rfl, HA, HK3, BK103, HB⟩ := hrel
                      cases gk with
                      | zero => exact absurd HA.out (by simp [spec_ValueRight.l0])
                      | succ k3 =>
                        have H := HA.out
                        clear HA
                        simp only [spec_ValueRight.l0] at H
                        by_cases c33 : x5_3 < (l0_3.length : Int)
                        · rw [if_pos c33] at H
                          have c33b0 : decide (x5_3 < (l0_3.length : Int)) = true := decide_eq_true c33
                          clear c33
                          by_cases c34 : 0 ≤ x5_3
                          · rw [if_pos c34] at H
                            have c34b0 : decide (0 ≤ x5_3) = true := decide_eq_true c34
                            clear c34
                            replace H := Option.bind_eq_some_iff.mp H
                            obtain ⟨t105, A350, H⟩ := H
                            replace H : (if t105 = true then (spec_ValueRight.l0 k3 (wrap64 (x5_3 + 1)) a0_0 a0_1 a0_2 l0_3) else (some false)) = some r := H
                            have A35 := Aside0.mk A350
                            clear A350
                            by_cases c36 : t105 = true
                            · subst c36
                              have H1 : (spec_ValueRight.l0 k3 (wrap64 (x5_3 + 1)) a0_0 a0_1 a0_2 l0_3) = some r := by rw [if_pos rfl] at H; exact H
                              clear H
                              have H := H1
                              clear H1
                              have H' := Aside0.mk H
                              clear H
                              have hcz37_0 : wr.cell? ⟨gb103, 0, none⟩ = some (.int .i64 a0_0) := (blk_cell BK103.out 0).trans rfl
                              have hcz37_1 : wr.cell? ⟨gb103, 1, none⟩ = some (.int .i64 a0_1) := (blk_cell BK103.out 1).trans rfl
                              have hcz37_2 : wr.cell? ⟨gb103, 2, none⟩ = some (.string a0_2) := (blk_cell BK103.out 2).trans rfl
                              have hcz37_3 : wr.cell? ⟨gb103, 3, none⟩ = some (.slice A0_3 l0_3.length c0_3) := (blk_cell BK103.out 3).trans rfl
                              have hfz37_0 := blk_frozen BK103.out 0
                              have hfz37_1 := blk_frozen BK103.out 1
                              have hfz37_2 := blk_frozen BK103.out 2
                              have hfz37_3 := blk_frozen BK103.out 3
                              have p104 : 0 ≤ (x5_3 : Int) := of_decide_eq_true (by first | (with_reducible assumption) | assumption)
                              have q104 : x5_3 < (l0_3.length : Int) := of_decide_eq_true (by first | (with_reducible assumption) | assumption)
                              obtain ⟨ad104, A104_3, c104_3, e104, hx104_0, hx104_1, hx104_2, hx104_3, hl104_3, hi104_3⟩ := at_T24 HR0_3.out x5_3 p104 q104
                              cases e104
                              replace hx104_0 := (HB.out.cell (World.block_lt_of_cell? w _ hx104_0)).trans hx104_0
                              replace hx104_1 := (HB.out.cell (World.block_lt_of_cell? w _ hx104_1)).trans hx104_1
                              replace hx104_2 := (HB.out.cell (World.block_lt_of_cell? w _ hx104_2)).trans hx104_2
                              replace hx104_3 := (HB.out.cell (World.block_lt_of_cell? w _ hx104_3)).trans hx104_3
                              have HR104_3 := Aside0.mk hi104_3
                              have HC104_3 := Aside0.mk hl104_3
                              clear hi104_3 hl104_3
                              replace p104 := eq_true p104
                              replace q104 := eq_true q104
                              go_wp2_with (first | ((with_reducible refine gate_callee (f := 7) rfl ?_); refine goesL_ (some 86) rfl rfl Try.func7 (by kernel_rfl) rfl #[.agg #[.int .i64 ((rd_T24 l0_3 x5_3).f0), .int .i64 ((rd_T24 l0_3 x5_3).f1), .string ((rd_T24 l0_3 x5_3).f2), .slice A104_3 ((rd_T24 l0_3 x5_3).f3).length c104_3], .bool false] rfl (by (try simp only [List.map_toArray, List.map_cons, List.map_nil]); first | done | rfl | (simp only [List.length_drop, List.length_take]; rfl)) ?_; (with_reducible refine (ih k3 (by have := HJ2.out; have := HJ24.out; have := HK3.out; omega) ((rd_T24 l0_3 x5_3).f0) ((rd_T24 l0_3 x5_3).f1) ((rd_T24 l0_3 x5_3).f2) _ _ ((rd_T24 l0_3 x5_3).f3) false true _ ?side1 ?side2 A35.out).mono ?_); (case side1 => repeat (first | exact (Kd.C_below HR104_3.out HB.out) | (with_reducible refine Kd.C_alloc ?_ _) | (with_reducible refine Kd.C_drewN ?_ _) | (with_reducible refine Kd.C_drew ?_))); (case side2 => exact HC104_3.out); rintro e w38 ⟨rfl, hb⟩; refine ⟨_, rfl, ?_⟩; have n0_ := Aside0.mk (blk_below (g := gb103) (o := .cells #[.int .i64 a0_0, .int .i64 a0_1, .string a0_2, .slice (some ad104) l0_3.length c0_3] 24 (0, 0)) (by (with_reducible repeat (first | refine blk_drewN ?_ _ | refine blk_drew ?_ | refine blk_alloc ?_ _)); exact BK103.out) hb); have n1_ := Aside0.mk (below_step (by repeat (first | (with_reducible first | exact HB.out | apply below_alloc | apply pw_below_drewN | apply below_drew1 | refine below_set ?_ GE103.out) | exact HB.out)) hb); clear BK103; clear HB; have BK103 := n0_; have HB := n1_; clear n0_ n1_; (try clear hb); (try clear hb2); (try clear hk); (try clear hi)))
                              go_roundg k3
                              case measure => have := HJ2.out; have := HJ24.out; have := HK3.out; omega
                              case rel => exact ⟨(wrap64 (x5_3 + 1)), (by first | rfl | (simp; done) | (simp [*]; done)), H', ⟨by have := HJ2.out; have := HJ24.out; have := HK3.out; omega⟩, ⟨by (with_reducible repeat (first | refine blk_drewN ?_ _ | refine blk_drew ?_ | refine blk_alloc ?_ _)); exact BK103.out⟩, ⟨by repeat (first | (with_reducible first | exact HB.out | apply below_alloc | apply pw_below_drewN | apply below_drew1 | refine below_set ?_ GE103.out) | exact HB.out)⟩⟩
                            · replace c36 := Bool.eq_false_iff.mpr c36
                              subst c36
                              have H1 : (some false) = some r := by rw [if_neg (show ¬ (false = true) by decide)] at H; exact H
                              clear H
                              have H := H1
                              clear H1
                              obtain rfl := Option.some.inj H
                              have hcz39_0 : wr.cell? ⟨gb103, 0, none⟩ = some (.int .i64 a0_0) := (blk_cell BK103.out 0).trans rfl
                              have hcz39_1 : wr.cell? ⟨gb103, 1, none⟩ = some (.int .i64 a0_1) := (blk_cell BK103.out 1).trans rfl
                              have hcz39_2 : wr.cell? ⟨gb103, 2, none⟩ = some (.string a0_2) := (blk_cell BK103.out 2).trans rfl
                              have hcz39_3 : wr.cell? ⟨gb103, 3, none⟩ = some (.slice A0_3 l0_3.length c0_3) := (blk_cell BK103.out 3).trans rfl
                              have hfz39_0 := blk_frozen BK103.out 0
                              have hfz39_1 := blk_frozen BK103.out 1
                              have hfz39_2 := blk_frozen BK103.out 2
                              have hfz39_3 := blk_frozen BK103.out 3
                              have p104 : 0 ≤ (x5_3 : Int) := of_decide_eq_true (by first | (with_reducible assumption) | assumption)
                              have q104 : x5_3 < (l0_3.length : Int) := of_decide_eq_true (by first | (with_reducible assumption) | assumption)
                              obtain ⟨ad104, A104_3, c104_3, e104, hx104_0, hx104_1, hx104_2, hx104_3, hl104_3, hi104_3⟩ := at_T24 HR0_3.out x5_3 p104 q104
                              cases e104
                              replace hx104_0 := (HB.out.cell (World.block_lt_of_cell? w _ hx104_0)).trans hx104_0
                              replace hx104_1 := (HB.out.cell (World.block_lt_of_cell? w _ hx104_1)).trans hx104_1
                              replace hx104_2 := (HB.out.cell (World.block_lt_of_cell? w _ hx104_2)).trans hx104_2
                              replace hx104_3 := (HB.out.cell (World.block_lt_of_cell? w _ hx104_3)).trans hx104_3
                              have HR104_3 := Aside0.mk hi104_3
                              have HC104_3 := Aside0.mk hl104_3
                              clear hi104_3 hl104_3
                              replace p104 := eq_true p104
                              replace q104 := eq_true q104
                              go_wp2_with (first | ((with_reducible refine gate_callee (f := 7) rfl ?_); refine goesL_ (some 86) rfl rfl Try.func7 (by kernel_rfl) rfl #[.agg #[.int .i64 ((rd_T24 l0_3 x5_3).f0), .int .i64 ((rd_T24 l0_3 x5_3).f1), .string ((rd_T24 l0_3 x5_3).f2), .slice A104_3 ((rd_T24 l0_3 x5_3).f3).length c104_3], .bool false] rfl (by (try simp only [List.map_toArray, List.map_cons, List.map_nil]); first | done | rfl | (simp only [List.length_drop, List.length_take]; rfl)) ?_; (with_reducible refine (ih k3 (by have := HJ2.out; have := HJ24.out; have := HK3.out; omega) ((rd_T24 l0_3 x5_3).f0) ((rd_T24 l0_3 x5_3).f1) ((rd_T24 l0_3 x5_3).f2) _ _ ((rd_T24 l0_3 x5_3).f3) false false _ ?side1 ?side2 A35.out).mono ?_); (case side1 => repeat (first | exact (Kd.C_below HR104_3.out HB.out) | (with_reducible refine Kd.C_alloc ?_ _) | (with_reducible refine Kd.C_drewN ?_ _) | (with_reducible refine Kd.C_drew ?_))); (case side2 => exact HC104_3.out); rintro e w40 ⟨rfl, hb⟩; refine ⟨_, rfl, ?_⟩; have n0_ := Aside0.mk (blk_below (g := gb103) (o := .cells #[.int .i64 a0_0, .int .i64 a0_1, .string a0_2, .slice (some ad104) l0_3.length c0_3] 24 (0, 0)) (by (with_reducible repeat (first | refine blk_drewN ?_ _ | refine blk_drew ?_ | refine blk_alloc ?_ _)); exact BK103.out) hb); have n1_ := Aside0.mk (below_step (by repeat (first | (with_reducible first | exact HB.out | apply below_alloc | apply pw_below_drewN | apply below_drew1 | refine below_set ?_ GE103.out) | exact HB.out)) hb); clear BK103; clear HB; have BK103 := n0_; have HB := n1_; clear n0_ n1_; (try clear hb); (try clear hb2); (try clear hk); (try clear hi)))
                              go_ret
                              exact ⟨by first | rfl | (simp [errW_none, errW_some] <;> rfl) | (simp [*, errW_none, errW_some] <;> rfl), by repeat (first | (with_reducible first | exact HB.out | apply below_alloc | apply pw_below_drewN | apply below_drew1 | refine below_set ?_ GE103.out) | exact HB.out)⟩
                          · rw [if_neg c34] at H
                            exact absurd H (by simp)
                        · rw [if_neg c33] at H
                          have c33b0 : decide (x5_3 < (l0_3.length : Int)) = false := decide_eq_false c33
                          clear c33
                          obtain rfl := Option.some.inj H
                          have hcz41_0 : wr.cell? ⟨gb103, 0, none⟩ = some (.int .i64 a0_0) := (blk_cell BK103.out 0).trans rfl
                          have hcz41_1 : wr.cell? ⟨gb103, 1, none⟩ = some (.int .i64 a0_1) := (blk_cell BK103.out 1).trans rfl
                          have hcz41_2 : wr.cell? ⟨gb103, 2, none⟩ = some (.string a0_2) := (blk_cell BK103.out 2).trans rfl
                          have hcz41_3 : wr.cell? ⟨gb103, 3, none⟩ = some (.slice A0_3 l0_3.length c0_3) := (blk_cell BK103.out 3).trans rfl
                          have hfz41_0 := blk_frozen BK103.out 0
                          have hfz41_1 := blk_frozen BK103.out 1
                          have hfz41_2 := blk_frozen BK103.out 2
                          have hfz41_3 := blk_frozen BK103.out 3
                          go_wp2
                          go_ret
                          exact ⟨by first | rfl | (simp [errW_none, errW_some] <;> rfl) | (simp [*, errW_none, errW_some] <;> rfl), by repeat (first | (with_reducible first | exact HB.out | apply below_alloc | apply pw_below_drewN | apply below_drew1 | refine below_set ?_ GE103.out) | exact HB.out)⟩
            · rw [if_neg c24] at H
              have c24b0 : (a0_0 == 5) = false := beq_eq_false_iff_ne.mpr c24
              have c24b1 : (a0_0 != 5) = true := bne_iff_ne.mpr c24
              obtain rfl := Option.some.inj H
              go_wp2
              go_ret
              exact ⟨by first | rfl | (simp [errW_none, errW_some] <;> rfl) | (simp [*, errW_none, errW_some] <;> rfl), by repeat (first | (with_reducible first | exact HB.out | apply below_alloc | apply pw_below_drewN | apply below_drew1 | refine below_set ?_ GE103.out) | exact HB.out)⟩

end Go.Proofs.Ytmiggjncmeomlaa.QS
