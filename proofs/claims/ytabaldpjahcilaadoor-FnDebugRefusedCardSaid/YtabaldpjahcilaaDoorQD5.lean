-- WRITTEN BY A PROGRAM OF THIS SESSION (wip/print2.py): the print, with contracts of this session's own let in. Not trusted: Lean checks it.
import Derived.Test.YtabaldpjahcilaaDoorQD0
import Derived.Test.YtabaldpjahcilaaDoorQD4
namespace Go.Proofs.YtabaldpjahcilaaDoor.QD
open Go.RowKit Go.Proofs.YtabaldpjahcilaaDoorW.PrintWords Go.Proofs.YtabaldpjahcilaaDoorW.PrintLast Go.Proofs.YtabaldpjahcilaaDoorW.PrintMore
attribute [local go_sem] max2_int min2_int max_two min_two max_three min_three max_four min_four   -- for this text's walks alone
set_option linter.unusedVariables false
set_option linter.unusedSimpArgs false

/-! ### spec_shown: function 18 -/
def spec_shown.f (k : Nat) (a0_0 : Int) (a0_1 : Int) (a0_2 : ByteArray) (l0_3 : List (S27)) : Option (ByteArray) := if a0_0 = 1 then ((spec_decimal.f k a0_1).bind fun t119 => (some t119)) else (if a0_0 = 2 then (some a0_2) else (if a0_0 = 3 then (some (⟨#[116, 114, 117, 101]⟩ : ByteArray)) else (if a0_0 = 4 then (some (⟨#[102, 97, 108, 115, 101]⟩ : ByteArray)) else (some (⟨#[60, 110, 105, 108, 62]⟩ : ByteArray)))))
theorem spec_shown.mono : ∀ a0 a1 a2 a3 k, LeO (spec_shown.f k a0 a1 a2 a3) (spec_shown.f (k + 1) a0 a1 a2 a3) := by
  intro a0 a1 a2 a3 k
  unfold spec_shown.f
  repeat' first
      | (with_reducible exact spec_decimal.mono _ _)
      | (with_reducible exact LeO.refl _)
      | (with_reducible exact LeO.none _)
      | (with_reducible refine LeO.ite ?_ ?_)
      | (with_reducible refine LeO.bind ?_ (fun _ => ?_))
      | exact spec_decimal.mono _ _
      | exact LeO.none _
      | refine LeO.ite ?_ ?_
      | refine LeO.bind ?_ (fun _ => ?_)
set_option maxHeartbeats 8000000 in
set_option maxRecDepth 100000 in
theorem spec_shown.calls (k : Nat) (a0_0 : Int) (a0_1 : Int) (a0_2 : ByteArray) (A0_3 : Option Addr) (c0_3 : Nat) (l0_3 : List (S27)) (r : ByteArray) (w : World) (hr0_3 : Kd.C k27 w A0_3 l0_3.length l0_3) (hc0_3 : l0_3.length ≤ c0_3) (h : spec_shown.f k a0_0 a0_1 a0_2 l0_3 = some r) :
    Calls Tryd.prog 18 #[.agg #[.int .i64 a0_0, .int .i64 a0_1, .string a0_2, .slice A0_3 l0_3.length c0_3]] w fun e w' => e = .returned (.string r) ∧ Below w.heap.size w w' := by
  have hu27 := Tryd.underlying27
  have HR0_3 := Aside0.mk hr0_3
  have HC0_3 := Aside0.mk hc0_3
  clear hr0_3 hc0_3
  have HB := Aside0.mk (Below.refl w.heap.size w)
  have H : (if a0_0 = 1 then ((spec_decimal.f k a0_1).bind fun t119 => (some t119)) else (if a0_0 = 2 then (some a0_2) else (if a0_0 = 3 then (some (⟨#[116, 114, 117, 101]⟩ : ByteArray)) else (if a0_0 = 4 then (some (⟨#[102, 97, 108, 115, 101]⟩ : ByteArray)) else (some (⟨#[60, 110, 105, 108, 62]⟩ : ByteArray)))))) = some r := h
  clear h
  by_cases c2 : a0_0 = 1
  · rw [if_pos c2] at H
    have c2b0 : (a0_0 == 1) = true := beq_iff_eq.mpr c2
    have c2b1 : (a0_0 != 1) = false := bne_eq_false_iff_eq.mpr c2
    clear c2
    replace H := Option.bind_eq_some_iff.mp H
    obtain ⟨t119, A30, H⟩ := H
    replace H : (some t119) = some r := H
    have A3 := Aside0.mk A30
    clear A30
    obtain rfl := Option.some.inj H
    go_enter Tryd.func18, Tryd.ntmps18
    go_wp2_with (first | ((with_reducible refine gate_dst (N := 1) rfl ?_); refine box_event ?hg (N := 1) ?hd (cs := #[.int .i64 a0_0, .int .i64 a0_1, .string a0_2, .slice A0_3 l0_3.length c0_3]) (t := 27) ?hr ?_; (case hd => rfl); (case hg => rfl); (case hr => first | (go_simp; done) | (go_simp; rfl)); intro gb118 hg w4 hbox hb; have n0_ := Aside0.mk (below_step (by repeat (first | (with_reducible first | exact HB.out | apply below_alloc | apply pw_below_drewN | apply below_drew1) | exact HB.out)) hb); have n1_ := Aside0.mk (hbox); have n2_ := Aside0.mk ((by rw [hg]; exact (below_size (by repeat (first | (with_reducible first | exact HB.out | apply below_alloc | apply pw_below_drewN | apply below_drew1) | exact HB.out))) : w.heap.size ≤ gb118)); have n3_ := Aside0.mk ((by rw [hg]; exact (below_size (by repeat (first | (with_reducible first | exact HB.out | apply below_alloc | apply pw_below_drewN | apply below_drew1) | exact HB.out))) : w.heap.size ≤ gb118)); clear HB; have HB := n0_; have BK118 := n1_; have GW118 := n2_; have GE118 := n3_; clear n0_ n1_ n2_ n3_; clear hb hbox hg; have hcz5_0 : w4.cell? ⟨gb118, 0, none⟩ = some (.int .i64 a0_0) := (blk_cell BK118.out 0).trans rfl; have hcz5_1 : w4.cell? ⟨gb118, 1, none⟩ = some (.int .i64 a0_1) := (blk_cell BK118.out 1).trans rfl; have hcz5_2 : w4.cell? ⟨gb118, 2, none⟩ = some (.string a0_2) := (blk_cell BK118.out 2).trans rfl; have hcz5_3 : w4.cell? ⟨gb118, 3, none⟩ = some (.slice A0_3 l0_3.length c0_3) := (blk_cell BK118.out 3).trans rfl; have hfz5_0 := blk_frozen BK118.out 0; have hfz5_1 := blk_frozen BK118.out 1; have hfz5_2 := blk_frozen BK118.out 2; have hfz5_3 := blk_frozen BK118.out 3) | ((with_reducible refine gate_callee (f := 29) rfl ?_); refine goesL_ (some 9) rfl rfl Tryd.func29 (by kernel_rfl) rfl #[.int .i64 a0_1] rfl (by (try simp only [List.map_toArray, List.map_cons, List.map_nil]); first | done | rfl | (simp only [List.length_drop, List.length_take]; rfl)) ?_; (with_reducible refine (spec_decimal.calls k a0_1 t119 _ A3.out).mono ?_); rintro e w6 ⟨rfl, hb⟩; refine ⟨_, rfl, ?_⟩; have n0_ := Aside0.mk (blk_below (g := gb118) (o := .cells #[.int .i64 a0_0, .int .i64 a0_1, .string a0_2, .slice A0_3 l0_3.length c0_3] 27 (0, 0)) (by (with_reducible repeat (first | refine blk_drewN ?_ _ | refine blk_drew ?_ | refine blk_alloc ?_ _)); exact BK118.out) hb); have n1_ := Aside0.mk (below_step (by repeat (first | (with_reducible first | exact HB.out | apply below_alloc | apply pw_below_drewN | apply below_drew1 | refine below_set ?_ GE118.out) | exact HB.out)) hb); clear BK118; clear HB; have BK118 := n0_; have HB := n1_; clear n0_ n1_; (try clear hb); (try clear hb2); (try clear hk); (try clear hi)))
    go_ret
    exact ⟨by first | rfl | (simp [errW_none, errW_some] <;> rfl) | (simp [*, errW_none, errW_some] <;> rfl), by repeat (first | (with_reducible first | exact HB.out | apply below_alloc | apply pw_below_drewN | apply below_drew1 | refine below_set ?_ GE118.out) | exact HB.out)⟩
  · rw [if_neg c2] at H
    have c2b0 : (a0_0 == 1) = false := beq_eq_false_iff_ne.mpr c2
    have c2b1 : (a0_0 != 1) = true := bne_iff_ne.mpr c2
    by_cases c7 : a0_0 = 2
    · rw [if_pos c7] at H
      have c7b0 : (a0_0 == 2) = true := beq_iff_eq.mpr c7
      have c7b1 : (a0_0 != 2) = false := bne_eq_false_iff_eq.mpr c7
      clear c7
      obtain rfl := Option.some.inj H
      go_enter Tryd.func18, Tryd.ntmps18
      go_wp2_with (first | ((with_reducible refine gate_dst (N := 1) rfl ?_); refine box_event ?hg (N := 1) ?hd (cs := #[.int .i64 a0_0, .int .i64 a0_1, .string a0_2, .slice A0_3 l0_3.length c0_3]) (t := 27) ?hr ?_; (case hd => rfl); (case hg => rfl); (case hr => first | (go_simp; done) | (go_simp; rfl)); intro gb118 hg w8 hbox hb; have n0_ := Aside0.mk (below_step (by repeat (first | (with_reducible first | exact HB.out | apply below_alloc | apply pw_below_drewN | apply below_drew1) | exact HB.out)) hb); have n1_ := Aside0.mk (hbox); have n2_ := Aside0.mk ((by rw [hg]; exact (below_size (by repeat (first | (with_reducible first | exact HB.out | apply below_alloc | apply pw_below_drewN | apply below_drew1) | exact HB.out))) : w.heap.size ≤ gb118)); have n3_ := Aside0.mk ((by rw [hg]; exact (below_size (by repeat (first | (with_reducible first | exact HB.out | apply below_alloc | apply pw_below_drewN | apply below_drew1) | exact HB.out))) : w.heap.size ≤ gb118)); clear HB; have HB := n0_; have BK118 := n1_; have GW118 := n2_; have GE118 := n3_; clear n0_ n1_ n2_ n3_; clear hb hbox hg; have hcz9_0 : w8.cell? ⟨gb118, 0, none⟩ = some (.int .i64 a0_0) := (blk_cell BK118.out 0).trans rfl; have hcz9_1 : w8.cell? ⟨gb118, 1, none⟩ = some (.int .i64 a0_1) := (blk_cell BK118.out 1).trans rfl; have hcz9_2 : w8.cell? ⟨gb118, 2, none⟩ = some (.string a0_2) := (blk_cell BK118.out 2).trans rfl; have hcz9_3 : w8.cell? ⟨gb118, 3, none⟩ = some (.slice A0_3 l0_3.length c0_3) := (blk_cell BK118.out 3).trans rfl; have hfz9_0 := blk_frozen BK118.out 0; have hfz9_1 := blk_frozen BK118.out 1; have hfz9_2 := blk_frozen BK118.out 2; have hfz9_3 := blk_frozen BK118.out 3))
      go_ret
      exact ⟨by first | rfl | (simp [errW_none, errW_some] <;> rfl) | (simp [*, errW_none, errW_some] <;> rfl), by repeat (first | (with_reducible first | exact HB.out | apply below_alloc | apply pw_below_drewN | apply below_drew1 | refine below_set ?_ GE118.out) | exact HB.out)⟩
    · rw [if_neg c7] at H
      have c7b0 : (a0_0 == 2) = false := beq_eq_false_iff_ne.mpr c7
      have c7b1 : (a0_0 != 2) = true := bne_iff_ne.mpr c7
      by_cases c10 : a0_0 = 3
      · rw [if_pos c10] at H
        have c10b0 : (a0_0 == 3) = true := beq_iff_eq.mpr c10
        have c10b1 : (a0_0 != 3) = false := bne_eq_false_iff_eq.mpr c10
        clear c10
        obtain rfl := Option.some.inj H
        go_enter Tryd.func18, Tryd.ntmps18
        go_wp2_with (first | ((with_reducible refine gate_dst (N := 1) rfl ?_); refine box_event ?hg (N := 1) ?hd (cs := #[.int .i64 a0_0, .int .i64 a0_1, .string a0_2, .slice A0_3 l0_3.length c0_3]) (t := 27) ?hr ?_; (case hd => rfl); (case hg => rfl); (case hr => first | (go_simp; done) | (go_simp; rfl)); intro gb118 hg w11 hbox hb; have n0_ := Aside0.mk (below_step (by repeat (first | (with_reducible first | exact HB.out | apply below_alloc | apply pw_below_drewN | apply below_drew1) | exact HB.out)) hb); have n1_ := Aside0.mk (hbox); have n2_ := Aside0.mk ((by rw [hg]; exact (below_size (by repeat (first | (with_reducible first | exact HB.out | apply below_alloc | apply pw_below_drewN | apply below_drew1) | exact HB.out))) : w.heap.size ≤ gb118)); have n3_ := Aside0.mk ((by rw [hg]; exact (below_size (by repeat (first | (with_reducible first | exact HB.out | apply below_alloc | apply pw_below_drewN | apply below_drew1) | exact HB.out))) : w.heap.size ≤ gb118)); clear HB; have HB := n0_; have BK118 := n1_; have GW118 := n2_; have GE118 := n3_; clear n0_ n1_ n2_ n3_; clear hb hbox hg; have hcz12_0 : w11.cell? ⟨gb118, 0, none⟩ = some (.int .i64 a0_0) := (blk_cell BK118.out 0).trans rfl; have hcz12_1 : w11.cell? ⟨gb118, 1, none⟩ = some (.int .i64 a0_1) := (blk_cell BK118.out 1).trans rfl; have hcz12_2 : w11.cell? ⟨gb118, 2, none⟩ = some (.string a0_2) := (blk_cell BK118.out 2).trans rfl; have hcz12_3 : w11.cell? ⟨gb118, 3, none⟩ = some (.slice A0_3 l0_3.length c0_3) := (blk_cell BK118.out 3).trans rfl; have hfz12_0 := blk_frozen BK118.out 0; have hfz12_1 := blk_frozen BK118.out 1; have hfz12_2 := blk_frozen BK118.out 2; have hfz12_3 := blk_frozen BK118.out 3))
        go_ret
        exact ⟨by first | rfl | (simp [errW_none, errW_some] <;> rfl) | (simp [*, errW_none, errW_some] <;> rfl), by repeat (first | (with_reducible first | exact HB.out | apply below_alloc | apply pw_below_drewN | apply below_drew1 | refine below_set ?_ GE118.out) | exact HB.out)⟩
      · rw [if_neg c10] at H
        have c10b0 : (a0_0 == 3) = false := beq_eq_false_iff_ne.mpr c10
        have c10b1 : (a0_0 != 3) = true := bne_iff_ne.mpr c10
        by_cases c13 : a0_0 = 4
        · rw [if_pos c13] at H
          have c13b0 : (a0_0 == 4) = true := beq_iff_eq.mpr c13
          have c13b1 : (a0_0 != 4) = false := bne_eq_false_iff_eq.mpr c13
          clear c13
          obtain rfl := Option.some.inj H
          go_enter Tryd.func18, Tryd.ntmps18
          go_wp2_with (first | ((with_reducible refine gate_dst (N := 1) rfl ?_); refine box_event ?hg (N := 1) ?hd (cs := #[.int .i64 a0_0, .int .i64 a0_1, .string a0_2, .slice A0_3 l0_3.length c0_3]) (t := 27) ?hr ?_; (case hd => rfl); (case hg => rfl); (case hr => first | (go_simp; done) | (go_simp; rfl)); intro gb118 hg w14 hbox hb; have n0_ := Aside0.mk (below_step (by repeat (first | (with_reducible first | exact HB.out | apply below_alloc | apply pw_below_drewN | apply below_drew1) | exact HB.out)) hb); have n1_ := Aside0.mk (hbox); have n2_ := Aside0.mk ((by rw [hg]; exact (below_size (by repeat (first | (with_reducible first | exact HB.out | apply below_alloc | apply pw_below_drewN | apply below_drew1) | exact HB.out))) : w.heap.size ≤ gb118)); have n3_ := Aside0.mk ((by rw [hg]; exact (below_size (by repeat (first | (with_reducible first | exact HB.out | apply below_alloc | apply pw_below_drewN | apply below_drew1) | exact HB.out))) : w.heap.size ≤ gb118)); clear HB; have HB := n0_; have BK118 := n1_; have GW118 := n2_; have GE118 := n3_; clear n0_ n1_ n2_ n3_; clear hb hbox hg; have hcz15_0 : w14.cell? ⟨gb118, 0, none⟩ = some (.int .i64 a0_0) := (blk_cell BK118.out 0).trans rfl; have hcz15_1 : w14.cell? ⟨gb118, 1, none⟩ = some (.int .i64 a0_1) := (blk_cell BK118.out 1).trans rfl; have hcz15_2 : w14.cell? ⟨gb118, 2, none⟩ = some (.string a0_2) := (blk_cell BK118.out 2).trans rfl; have hcz15_3 : w14.cell? ⟨gb118, 3, none⟩ = some (.slice A0_3 l0_3.length c0_3) := (blk_cell BK118.out 3).trans rfl; have hfz15_0 := blk_frozen BK118.out 0; have hfz15_1 := blk_frozen BK118.out 1; have hfz15_2 := blk_frozen BK118.out 2; have hfz15_3 := blk_frozen BK118.out 3))
          go_ret
          exact ⟨by first | rfl | (simp [errW_none, errW_some] <;> rfl) | (simp [*, errW_none, errW_some] <;> rfl), by repeat (first | (with_reducible first | exact HB.out | apply below_alloc | apply pw_below_drewN | apply below_drew1 | refine below_set ?_ GE118.out) | exact HB.out)⟩
        · rw [if_neg c13] at H
          have c13b0 : (a0_0 == 4) = false := beq_eq_false_iff_ne.mpr c13
          have c13b1 : (a0_0 != 4) = true := bne_iff_ne.mpr c13
          obtain rfl := Option.some.inj H
          go_enter Tryd.func18, Tryd.ntmps18
          go_wp2_with (first | ((with_reducible refine gate_dst (N := 1) rfl ?_); refine box_event ?hg (N := 1) ?hd (cs := #[.int .i64 a0_0, .int .i64 a0_1, .string a0_2, .slice A0_3 l0_3.length c0_3]) (t := 27) ?hr ?_; (case hd => rfl); (case hg => rfl); (case hr => first | (go_simp; done) | (go_simp; rfl)); intro gb118 hg w16 hbox hb; have n0_ := Aside0.mk (below_step (by repeat (first | (with_reducible first | exact HB.out | apply below_alloc | apply pw_below_drewN | apply below_drew1) | exact HB.out)) hb); have n1_ := Aside0.mk (hbox); have n2_ := Aside0.mk ((by rw [hg]; exact (below_size (by repeat (first | (with_reducible first | exact HB.out | apply below_alloc | apply pw_below_drewN | apply below_drew1) | exact HB.out))) : w.heap.size ≤ gb118)); have n3_ := Aside0.mk ((by rw [hg]; exact (below_size (by repeat (first | (with_reducible first | exact HB.out | apply below_alloc | apply pw_below_drewN | apply below_drew1) | exact HB.out))) : w.heap.size ≤ gb118)); clear HB; have HB := n0_; have BK118 := n1_; have GW118 := n2_; have GE118 := n3_; clear n0_ n1_ n2_ n3_; clear hb hbox hg; have hcz17_0 : w16.cell? ⟨gb118, 0, none⟩ = some (.int .i64 a0_0) := (blk_cell BK118.out 0).trans rfl; have hcz17_1 : w16.cell? ⟨gb118, 1, none⟩ = some (.int .i64 a0_1) := (blk_cell BK118.out 1).trans rfl; have hcz17_2 : w16.cell? ⟨gb118, 2, none⟩ = some (.string a0_2) := (blk_cell BK118.out 2).trans rfl; have hcz17_3 : w16.cell? ⟨gb118, 3, none⟩ = some (.slice A0_3 l0_3.length c0_3) := (blk_cell BK118.out 3).trans rfl; have hfz17_0 := blk_frozen BK118.out 0; have hfz17_1 := blk_frozen BK118.out 1; have hfz17_2 := blk_frozen BK118.out 2; have hfz17_3 := blk_frozen BK118.out 3))
          go_ret
          exact ⟨by first | rfl | (simp [errW_none, errW_some] <;> rfl) | (simp [*, errW_none, errW_some] <;> rfl), by repeat (first | (with_reducible first | exact HB.out | apply below_alloc | apply pw_below_drewN | apply below_drew1 | refine below_set ?_ GE118.out) | exact HB.out)⟩

/-! ### spec_Debug: function 9 -/
def spec_Debug.l0 : Nat → ByteArray → List (S27) → ByteArray → Int → Int → Option (ByteArray)
  | 0, _, _, _, _, _ => none
  | k + 1, x0, x1, x5, x6, x7 => if x7 < (x0.size : Int) then (if 0 ≤ x7 then (if (bt x0 x7) = 63 then (if (wrap64 (x7 + 1)) < (x0.size : Int) then (if 0 ≤ (wrap64 (x7 + 1)) then (if (bt x0 (wrap64 (x7 + 1))) = 63 then (if x5.size + 1 ≤ 9223372036854775807 then (spec_Debug.l0 k x0 x1 (x5 ++ (⟨#[63]⟩ : ByteArray)) x6 (wrap64 ((wrap64 (x7 + 1)) + 1))) else (none)) else (if 0 ≤ x6 then (if x6 < (x1.length : Int) then ((spec_shown.f k ((rd_T27 x1 x6).f0) ((rd_T27 x1 x6).f1) ((rd_T27 x1 x6).f2) ((rd_T27 x1 x6).f3)).bind fun t121 => (if 1 + t121.size ≤ 9223372036854775807 then (if ((⟨#[39]⟩ : ByteArray) ++ t121).size + 1 ≤ 9223372036854775807 then (if x5.size + (((⟨#[39]⟩ : ByteArray) ++ t121) ++ (⟨#[39]⟩ : ByteArray)).size ≤ 9223372036854775807 then (spec_Debug.l0 k x0 x1 (x5 ++ (((⟨#[39]⟩ : ByteArray) ++ t121) ++ (⟨#[39]⟩ : ByteArray))) (wrap64 (x6 + 1)) (wrap64 (x7 + 1))) else (none)) else (none)) else (none))) else (none)) else (none))) else (none)) else (if 0 ≤ x6 then (if x6 < (x1.length : Int) then ((spec_shown.f k ((rd_T27 x1 x6).f0) ((rd_T27 x1 x6).f1) ((rd_T27 x1 x6).f2) ((rd_T27 x1 x6).f3)).bind fun t123 => (if 1 + t123.size ≤ 9223372036854775807 then (if ((⟨#[39]⟩ : ByteArray) ++ t123).size + 1 ≤ 9223372036854775807 then (if x5.size + (((⟨#[39]⟩ : ByteArray) ++ t123) ++ (⟨#[39]⟩ : ByteArray)).size ≤ 9223372036854775807 then (spec_Debug.l0 k x0 x1 (x5 ++ (((⟨#[39]⟩ : ByteArray) ++ t123) ++ (⟨#[39]⟩ : ByteArray))) (wrap64 (x6 + 1)) (wrap64 (x7 + 1))) else (none)) else (none)) else (none))) else (none)) else (none))) else (if x7 ≤ (wrap64 (x7 + 1)) then (if (wrap64 (x7 + 1)) ≤ (x0.size : Int) then (if x5.size + (x0.extract (x7 : Int).toNat ((wrap64 (x7 + 1)) : Int).toNat).size ≤ 9223372036854775807 then (spec_Debug.l0 k x0 x1 (x5 ++ (x0.extract (x7 : Int).toNat ((wrap64 (x7 + 1)) : Int).toNat)) x6 (wrap64 (x7 + 1))) else (none)) else (none)) else (none))) else (none)) else (some x5)
def spec_Debug.f (k : Nat) (a0 : ByteArray) (l1 : List (S27)) : Option (ByteArray) := spec_Debug.l0 k a0 l1 (⟨#[]⟩ : ByteArray) 0 0
theorem spec_Debug.mono_l : ∀ k, (∀ y0 y1 y2 y3 y4, LeO (spec_Debug.l0 k y0 y1 y2 y3 y4) (spec_Debug.l0 (k + 1) y0 y1 y2 y3 y4))
  | 0 => fun _ _ _ _ _ r h => by simp [spec_Debug.l0] at h
  | k + 1 => by
    have ih0 := spec_Debug.mono_l k
    · intro y0 y1 y2 y3 y4
      unfold spec_Debug.l0
      repeat' first
      | (with_reducible exact ih0 _ _ _ _ _)
      | (with_reducible exact spec_shown.mono _ _ _ _ _)
      | (with_reducible exact LeO.refl _)
      | (with_reducible exact LeO.none _)
      | (with_reducible refine LeO.ite ?_ ?_)
      | (with_reducible refine LeO.bind ?_ (fun _ => ?_))
      | exact ih0 _ _ _ _ _
      | exact spec_shown.mono _ _ _ _ _
      | exact LeO.none _
      | refine LeO.ite ?_ ?_
      | refine LeO.bind ?_ (fun _ => ?_)
theorem spec_Debug.mono : ∀ a0 a1 k, LeO (spec_Debug.f k a0 a1) (spec_Debug.f (k + 1) a0 a1) := by
  intro a0 a1 k
  have ih0 := spec_Debug.mono_l k
  unfold spec_Debug.f
  repeat' first
      | (with_reducible exact ih0 _ _ _ _ _)
      | (with_reducible exact spec_shown.mono _ _ _ _ _)
      | (with_reducible exact LeO.refl _)
      | (with_reducible exact LeO.none _)
      | (with_reducible refine LeO.ite ?_ ?_)
      | (with_reducible refine LeO.bind ?_ (fun _ => ?_))
      | exact ih0 _ _ _ _ _
      | exact spec_shown.mono _ _ _ _ _
      | exact LeO.none _
      | refine LeO.ite ?_ ?_
      | refine LeO.bind ?_ (fun _ => ?_)
set_option maxHeartbeats 8000000 in
set_option maxRecDepth 100000 in
theorem spec_Debug.calls (k : Nat) (a0 : ByteArray) (A1 : Option Addr) (c1 : Nat) (l1 : List (S27)) (r : ByteArray) (w : World) (hr1 : Kd.C k27 w A1 l1.length l1) (hc1 : l1.length ≤ c1) (h : spec_Debug.f k a0 l1 = some r) :
    Calls Tryd.prog 9 #[.string a0, .slice A1 l1.length c1] w fun e w' => e = .returned (.string r) ∧ Below w.heap.size w w' := by
  have hu27 := Tryd.underlying27
  have HR1 := Aside0.mk hr1
  have HC1 := Aside0.mk hc1
  clear hr1 hc1
  have HB := Aside0.mk (Below.refl w.heap.size w)
  have H : (spec_Debug.l0 k a0 l1 (⟨#[]⟩ : ByteArray) 0 0) = some r := h
  clear h
  have H' := Aside0.mk H
  clear H
  go_enter Tryd.func9, Tryd.ntmps9
  go_wp2
  go_loopg [5, 6, 7] k (fun kq v5 v6 v7 w' => ∃ (x5_1 : ByteArray) (x6_1 : Int) (x7_1 : Int), v5 = .string x5_1 ∧ v6 = .int .i64 x6_1 ∧ v7 = .int .i64 x7_1 ∧ Aside0 (spec_Debug.l0 kq a0 l1 x5_1 x6_1 x7_1 = some r) ∧ Aside0 (kq ≤ k) ∧ Aside0 (Below w.heap.size w w'))
  case atStart => exact ⟨((⟨#[]⟩ : ByteArray)), (0), (0), (by first | rfl | (simp; done) | (simp [*]; done)), (by first | rfl | (simp; done) | (simp [*]; done)), (by first | rfl | (simp; done) | (simp [*]; done)), H', ⟨Nat.le_refl _⟩, ⟨by repeat (first | (with_reducible first | exact HB.out | apply below_alloc | apply pw_below_drewN | apply below_drew1) | exact HB.out)⟩⟩
  case round =>
    clear H'
    try clear c1
    try clear p2
    obtain ⟨x5_1, x6_1, x7_1, rfl, rfl, rfl, HA, HK1, HB⟩ := hrel
    cases gk with
    | zero => exact absurd HA.out (by simp [spec_Debug.l0])
    | succ k1 =>
      have H := HA.out
      clear HA
      simp only [spec_Debug.l0] at H
      by_cases c3 : x7_1 < (a0.size : Int)
      · rw [if_pos c3] at H
        have c3b0 : decide (x7_1 < (a0.size : Int)) = true := decide_eq_true c3
        clear c3
        by_cases c4 : 0 ≤ x7_1
        · rw [if_pos c4] at H
          have c4b0 : decide (0 ≤ x7_1) = true := decide_eq_true c4
          clear c4
          by_cases c6 : (bt a0 x7_1) = 63
          · rw [if_pos c6] at H
            have c6b0 : ((bt a0 x7_1) == 63) = true := beq_iff_eq.mpr c6
            have c6b1 : ((bt a0 x7_1) != 63) = false := bne_eq_false_iff_eq.mpr c6
            clear c6
            by_cases c7 : (wrap64 (x7_1 + 1)) < (a0.size : Int)
            · rw [if_pos c7] at H
              have c7b0 : decide ((wrap64 (x7_1 + 1)) < (a0.size : Int)) = true := decide_eq_true c7
              clear c7
              obtain ⟨ji8, hji8⟩ : ∃ j_ : Int, (wrap64 (x7_1 + 1)) = j_ := ⟨_, rfl⟩
              replace H : (if 0 ≤ (ji8) then (if (bt a0 (ji8)) = 63 then (if x5_1.size + 1 ≤ 9223372036854775807 then (spec_Debug.l0 k1 a0 l1 (x5_1 ++ (⟨#[63]⟩ : ByteArray)) x6_1 (wrap64 ((ji8) + 1))) else (none)) else (if 0 ≤ x6_1 then (if x6_1 < (l1.length : Int) then ((spec_shown.f k1 ((rd_T27 l1 x6_1).f0) ((rd_T27 l1 x6_1).f1) ((rd_T27 l1 x6_1).f2) ((rd_T27 l1 x6_1).f3)).bind fun t121 => (if 1 + t121.size ≤ 9223372036854775807 then (if ((⟨#[39]⟩ : ByteArray) ++ t121).size + 1 ≤ 9223372036854775807 then (if x5_1.size + (((⟨#[39]⟩ : ByteArray) ++ t121) ++ (⟨#[39]⟩ : ByteArray)).size ≤ 9223372036854775807 then (spec_Debug.l0 k1 a0 l1 (x5_1 ++ (((⟨#[39]⟩ : ByteArray) ++ t121) ++ (⟨#[39]⟩ : ByteArray))) (wrap64 (x6_1 + 1)) ji8) else (none)) else (none)) else (none))) else (none)) else (none))) else (none)) = some r := by first | (rw [hji8] at H; exact H) | (simp only [hji8] at H ⊢; exact H)
              (try rw [hji8] at c7b0)
              have hji8w : (IntKind.i64.wrap (x7_1 + 1)) = ji8 := (i64_w _).trans hji8
              by_cases c9 : 0 ≤ (ji8)
              · rw [if_pos c9] at H
                have c9b0 : decide (0 ≤ (ji8)) = true := decide_eq_true c9
                clear c9
                by_cases c11 : (bt a0 (ji8)) = 63
                · rw [if_pos c11] at H
                  have c11b0 : ((bt a0 (ji8)) == 63) = true := beq_iff_eq.mpr c11
                  have c11b1 : ((bt a0 (ji8)) != 63) = false := bne_eq_false_iff_eq.mpr c11
                  clear c11
                  by_cases c12 : x5_1.size + 1 ≤ 9223372036854775807
                  · rw [if_pos c12] at H
                    have c12b0 := eq_true c12
                    have c12b1 : decide (x5_1.size + 1 ≤ 9223372036854775807) = true := decide_eq_true c12
                    try have c12b2 : (9223372036854775807 < x5_1.size + 1) = False := eq_false (Nat.not_lt.2 c12)
                    have H' := Aside0.mk H
                    clear H
                    have p5 : 0 ≤ (x7_1 : Int) := of_decide_eq_true (by first | (with_reducible assumption) | assumption)
                    have q5 : x7_1 < (a0.size : Int) := of_decide_eq_true (by first | (with_reducible assumption) | assumption)
                    have hx5 := bt_at a0 x7_1
                    replace p5 := eq_true p5
                    replace q5 := eq_true q5
                    have p10 : 0 ≤ ((ji8) : Int) := of_decide_eq_true (by first | (with_reducible assumption) | assumption)
                    have q10 : (ji8) < (a0.size : Int) := of_decide_eq_true (by first | (with_reducible assumption) | assumption)
                    have hx10 := bt_at a0 (ji8)
                    replace p10 := eq_true p10
                    replace q10 := eq_true q10
                    go_wp2
                    go_roundg k1
                    case measure => have := HK1.out; omega
                    case rel => exact ⟨(x5_1 ++ (⟨#[63]⟩ : ByteArray)), (x6_1), (wrap64 ((ji8) + 1)), (by first | rfl | (simp; done) | (simp [*]; done)), (by first | rfl | (simp; done) | (simp [*]; done)), (by first | rfl | (simp; done) | (simp only [← hji8] <;> (first | rfl | simp)) | (simp [*]; done)), H', ⟨by have := HK1.out; omega⟩, ⟨by repeat (first | (with_reducible first | exact HB.out | apply below_alloc | apply pw_below_drewN | apply below_drew1) | exact HB.out)⟩⟩
                  · rw [if_neg c12] at H
                    exact absurd H (by simp)
                · rw [if_neg c11] at H
                  have c11b0 : ((bt a0 (ji8)) == 63) = false := beq_eq_false_iff_ne.mpr c11
                  have c11b1 : ((bt a0 (ji8)) != 63) = true := bne_iff_ne.mpr c11
                  by_cases c13 : 0 ≤ x6_1
                  · rw [if_pos c13] at H
                    have c13b0 : decide (0 ≤ x6_1) = true := decide_eq_true c13
                    clear c13
                    by_cases c14 : x6_1 < (l1.length : Int)
                    · rw [if_pos c14] at H
                      have c14b0 : decide (x6_1 < (l1.length : Int)) = true := decide_eq_true c14
                      clear c14
                      replace H := Option.bind_eq_some_iff.mp H
                      obtain ⟨t121, A150, H⟩ := H
                      replace H : (if 1 + t121.size ≤ 9223372036854775807 then (if ((⟨#[39]⟩ : ByteArray) ++ t121).size + 1 ≤ 9223372036854775807 then (if x5_1.size + (((⟨#[39]⟩ : ByteArray) ++ t121) ++ (⟨#[39]⟩ : ByteArray)).size ≤ 9223372036854775807 then (spec_Debug.l0 k1 a0 l1 (x5_1 ++ (((⟨#[39]⟩ : ByteArray) ++ t121) ++ (⟨#[39]⟩ : ByteArray))) (wrap64 (x6_1 + 1)) ji8) else (none)) else (none)) else (none)) = some r := H
                      have A15 := Aside0.mk A150
                      clear A150
                      by_cases c16 : 1 + t121.size ≤ 9223372036854775807
                      · rw [if_pos c16] at H
                        have c16b0 := eq_true c16
                        have c16b1 : decide (1 + t121.size ≤ 9223372036854775807) = true := decide_eq_true c16
                        try have c16b2 : (9223372036854775807 < 1 + t121.size) = False := eq_false (Nat.not_lt.2 c16)
                        by_cases c17 : ((⟨#[39]⟩ : ByteArray) ++ t121).size + 1 ≤ 9223372036854775807
                        · rw [if_pos c17] at H
                          have c17b0 := eq_true c17
                          have c17b1 : decide (((⟨#[39]⟩ : ByteArray) ++ t121).size + 1 ≤ 9223372036854775807) = true := decide_eq_true c17
                          try have c17b2 : (9223372036854775807 < ((⟨#[39]⟩ : ByteArray) ++ t121).size + 1) = False := eq_false (Nat.not_lt.2 c17)
                          have c17b3 : (9223372036854775807 < 1 + t121.size + 1) = False := eq_false (Nat.not_lt.2 (by have h := c17; rw [ByteArray.size_append] at h; exact h))
                          by_cases c18 : x5_1.size + (((⟨#[39]⟩ : ByteArray) ++ t121) ++ (⟨#[39]⟩ : ByteArray)).size ≤ 9223372036854775807
                          · rw [if_pos c18] at H
                            have c18b0 := eq_true c18
                            have c18b1 : decide (x5_1.size + (((⟨#[39]⟩ : ByteArray) ++ t121) ++ (⟨#[39]⟩ : ByteArray)).size ≤ 9223372036854775807) = true := decide_eq_true c18
                            try have c18b2 : (9223372036854775807 < x5_1.size + (((⟨#[39]⟩ : ByteArray) ++ t121) ++ (⟨#[39]⟩ : ByteArray)).size) = False := eq_false (Nat.not_lt.2 c18)
                            have c18b3 : (9223372036854775807 < x5_1.size + (1 + t121.size + 1)) = False := eq_false (Nat.not_lt.2 (by have h := c18; rw [ByteArray.size_append, ByteArray.size_append] at h; exact h))
                            have H' := Aside0.mk H
                            clear H
                            have p5 : 0 ≤ (x7_1 : Int) := of_decide_eq_true (by first | (with_reducible assumption) | assumption)
                            have q5 : x7_1 < (a0.size : Int) := of_decide_eq_true (by first | (with_reducible assumption) | assumption)
                            have hx5 := bt_at a0 x7_1
                            replace p5 := eq_true p5
                            replace q5 := eq_true q5
                            have p10 : 0 ≤ ((ji8) : Int) := of_decide_eq_true (by first | (with_reducible assumption) | assumption)
                            have q10 : (ji8) < (a0.size : Int) := of_decide_eq_true (by first | (with_reducible assumption) | assumption)
                            have hx10 := bt_at a0 (ji8)
                            replace p10 := eq_true p10
                            replace q10 := eq_true q10
                            have p120 : 0 ≤ (x6_1 : Int) := of_decide_eq_true (by first | (with_reducible assumption) | assumption)
                            have q120 : x6_1 < (l1.length : Int) := of_decide_eq_true (by first | (with_reducible assumption) | assumption)
                            obtain ⟨ad120, A120_3, c120_3, e120, hx120_0, hx120_1, hx120_2, hx120_3, hl120_3, hi120_3⟩ := at_T27 HR1.out x6_1 p120 q120
                            cases e120
                            replace hx120_0 := (HB.out.cell (World.block_lt_of_cell? w _ hx120_0)).trans hx120_0
                            replace hx120_1 := (HB.out.cell (World.block_lt_of_cell? w _ hx120_1)).trans hx120_1
                            replace hx120_2 := (HB.out.cell (World.block_lt_of_cell? w _ hx120_2)).trans hx120_2
                            replace hx120_3 := (HB.out.cell (World.block_lt_of_cell? w _ hx120_3)).trans hx120_3
                            have HR120_3 := Aside0.mk hi120_3
                            have HC120_3 := Aside0.mk hl120_3
                            clear hi120_3 hl120_3
                            replace p120 := eq_true p120
                            replace q120 := eq_true q120
                            go_wp2_with (first | ((with_reducible refine gate_callee (f := 18) rfl ?_); refine goesL_ (some 19) rfl rfl Tryd.func18 (by kernel_rfl) rfl #[.agg #[.int .i64 ((rd_T27 l1 x6_1).f0), .int .i64 ((rd_T27 l1 x6_1).f1), .string ((rd_T27 l1 x6_1).f2), .slice A120_3 ((rd_T27 l1 x6_1).f3).length c120_3]] rfl (by (try simp only [List.map_toArray, List.map_cons, List.map_nil]); first | done | rfl | (simp only [List.length_drop, List.length_take]; rfl)) ?_; (with_reducible refine (spec_shown.calls k1 ((rd_T27 l1 x6_1).f0) ((rd_T27 l1 x6_1).f1) ((rd_T27 l1 x6_1).f2) _ _ ((rd_T27 l1 x6_1).f3) t121 _ ?side1 ?side2 A15.out).mono ?_); (case side1 => repeat (first | exact (Kd.C_below HR120_3.out HB.out) | (with_reducible refine Kd.C_alloc ?_ _) | (with_reducible refine Kd.C_drewN ?_ _) | (with_reducible refine Kd.C_drew ?_))); (case side2 => exact HC120_3.out); rintro e w19 ⟨rfl, hb⟩; refine ⟨_, rfl, ?_⟩; have n0_ := Aside0.mk (below_step (by repeat (first | (with_reducible first | exact HB.out | apply below_alloc | apply pw_below_drewN | apply below_drew1) | exact HB.out)) hb); clear HB; have HB := n0_; clear n0_; (try clear hb); (try clear hb2); (try clear hk); (try clear hi)))
                            go_roundg k1
                            case measure => have := HK1.out; omega
                            case rel => exact ⟨(x5_1 ++ (((⟨#[39]⟩ : ByteArray) ++ t121) ++ (⟨#[39]⟩ : ByteArray))), (wrap64 (x6_1 + 1)), (ji8), (by first | rfl | (simp; done) | (simp [*]; done)), (by first | rfl | (simp; done) | (simp [*]; done)), (by first | rfl | (simp; done) | (simp only [← hji8] <;> (first | rfl | simp)) | (simp [*]; done)), H', ⟨by have := HK1.out; omega⟩, ⟨by repeat (first | (with_reducible first | exact HB.out | apply below_alloc | apply pw_below_drewN | apply below_drew1) | exact HB.out)⟩⟩
                          · rw [if_neg c18] at H
                            exact absurd H (by simp)
                        · rw [if_neg c17] at H
                          exact absurd H (by simp)
                      · rw [if_neg c16] at H
                        exact absurd H (by simp)
                    · rw [if_neg c14] at H
                      exact absurd H (by simp)
                  · rw [if_neg c13] at H
                    exact absurd H (by simp)
              · rw [if_neg c9] at H
                exact absurd H (by simp)
            · rw [if_neg c7] at H
              have c7b0 : decide ((wrap64 (x7_1 + 1)) < (a0.size : Int)) = false := decide_eq_false c7
              clear c7
              by_cases c20 : 0 ≤ x6_1
              · rw [if_pos c20] at H
                have c20b0 : decide (0 ≤ x6_1) = true := decide_eq_true c20
                clear c20
                by_cases c21 : x6_1 < (l1.length : Int)
                · rw [if_pos c21] at H
                  have c21b0 : decide (x6_1 < (l1.length : Int)) = true := decide_eq_true c21
                  clear c21
                  replace H := Option.bind_eq_some_iff.mp H
                  obtain ⟨t123, A220, H⟩ := H
                  replace H : (if 1 + t123.size ≤ 9223372036854775807 then (if ((⟨#[39]⟩ : ByteArray) ++ t123).size + 1 ≤ 9223372036854775807 then (if x5_1.size + (((⟨#[39]⟩ : ByteArray) ++ t123) ++ (⟨#[39]⟩ : ByteArray)).size ≤ 9223372036854775807 then (spec_Debug.l0 k1 a0 l1 (x5_1 ++ (((⟨#[39]⟩ : ByteArray) ++ t123) ++ (⟨#[39]⟩ : ByteArray))) (wrap64 (x6_1 + 1)) (wrap64 (x7_1 + 1))) else (none)) else (none)) else (none)) = some r := H
                  have A22 := Aside0.mk A220
                  clear A220
                  by_cases c23 : 1 + t123.size ≤ 9223372036854775807
                  · rw [if_pos c23] at H
                    have c23b0 := eq_true c23
                    have c23b1 : decide (1 + t123.size ≤ 9223372036854775807) = true := decide_eq_true c23
                    try have c23b2 : (9223372036854775807 < 1 + t123.size) = False := eq_false (Nat.not_lt.2 c23)
                    by_cases c24 : ((⟨#[39]⟩ : ByteArray) ++ t123).size + 1 ≤ 9223372036854775807
                    · rw [if_pos c24] at H
                      have c24b0 := eq_true c24
                      have c24b1 : decide (((⟨#[39]⟩ : ByteArray) ++ t123).size + 1 ≤ 9223372036854775807) = true := decide_eq_true c24
                      try have c24b2 : (9223372036854775807 < ((⟨#[39]⟩ : ByteArray) ++ t123).size + 1) = False := eq_false (Nat.not_lt.2 c24)
                      have c24b3 : (9223372036854775807 < 1 + t123.size + 1) = False := eq_false (Nat.not_lt.2 (by have h := c24; rw [ByteArray.size_append] at h; exact h))
                      by_cases c25 : x5_1.size + (((⟨#[39]⟩ : ByteArray) ++ t123) ++ (⟨#[39]⟩ : ByteArray)).size ≤ 9223372036854775807
                      · rw [if_pos c25] at H
                        have c25b0 := eq_true c25
                        have c25b1 : decide (x5_1.size + (((⟨#[39]⟩ : ByteArray) ++ t123) ++ (⟨#[39]⟩ : ByteArray)).size ≤ 9223372036854775807) = true := decide_eq_true c25
                        try have c25b2 : (9223372036854775807 < x5_1.size + (((⟨#[39]⟩ : ByteArray) ++ t123) ++ (⟨#[39]⟩ : ByteArray)).size) = False := eq_false (Nat.not_lt.2 c25)
                        have c25b3 : (9223372036854775807 < x5_1.size + (1 + t123.size + 1)) = False := eq_false (Nat.not_lt.2 (by have h := c25; rw [ByteArray.size_append, ByteArray.size_append] at h; exact h))
                        have H' := Aside0.mk H
                        clear H
                        have p5 : 0 ≤ (x7_1 : Int) := of_decide_eq_true (by first | (with_reducible assumption) | assumption)
                        have q5 : x7_1 < (a0.size : Int) := of_decide_eq_true (by first | (with_reducible assumption) | assumption)
                        have hx5 := bt_at a0 x7_1
                        replace p5 := eq_true p5
                        replace q5 := eq_true q5
                        have p122 : 0 ≤ (x6_1 : Int) := of_decide_eq_true (by first | (with_reducible assumption) | assumption)
                        have q122 : x6_1 < (l1.length : Int) := of_decide_eq_true (by first | (with_reducible assumption) | assumption)
                        obtain ⟨ad122, A122_3, c122_3, e122, hx122_0, hx122_1, hx122_2, hx122_3, hl122_3, hi122_3⟩ := at_T27 HR1.out x6_1 p122 q122
                        cases e122
                        replace hx122_0 := (HB.out.cell (World.block_lt_of_cell? w _ hx122_0)).trans hx122_0
                        replace hx122_1 := (HB.out.cell (World.block_lt_of_cell? w _ hx122_1)).trans hx122_1
                        replace hx122_2 := (HB.out.cell (World.block_lt_of_cell? w _ hx122_2)).trans hx122_2
                        replace hx122_3 := (HB.out.cell (World.block_lt_of_cell? w _ hx122_3)).trans hx122_3
                        have HR122_3 := Aside0.mk hi122_3
                        have HC122_3 := Aside0.mk hl122_3
                        clear hi122_3 hl122_3
                        replace p122 := eq_true p122
                        replace q122 := eq_true q122
                        go_wp2_with (first | ((with_reducible refine gate_callee (f := 18) rfl ?_); refine goesL_ (some 19) rfl rfl Tryd.func18 (by kernel_rfl) rfl #[.agg #[.int .i64 ((rd_T27 l1 x6_1).f0), .int .i64 ((rd_T27 l1 x6_1).f1), .string ((rd_T27 l1 x6_1).f2), .slice A122_3 ((rd_T27 l1 x6_1).f3).length c122_3]] rfl (by (try simp only [List.map_toArray, List.map_cons, List.map_nil]); first | done | rfl | (simp only [List.length_drop, List.length_take]; rfl)) ?_; (with_reducible refine (spec_shown.calls k1 ((rd_T27 l1 x6_1).f0) ((rd_T27 l1 x6_1).f1) ((rd_T27 l1 x6_1).f2) _ _ ((rd_T27 l1 x6_1).f3) t123 _ ?side1 ?side2 A22.out).mono ?_); (case side1 => repeat (first | exact (Kd.C_below HR122_3.out HB.out) | (with_reducible refine Kd.C_alloc ?_ _) | (with_reducible refine Kd.C_drewN ?_ _) | (with_reducible refine Kd.C_drew ?_))); (case side2 => exact HC122_3.out); rintro e w26 ⟨rfl, hb⟩; refine ⟨_, rfl, ?_⟩; have n0_ := Aside0.mk (below_step (by repeat (first | (with_reducible first | exact HB.out | apply below_alloc | apply pw_below_drewN | apply below_drew1) | exact HB.out)) hb); clear HB; have HB := n0_; clear n0_; (try clear hb); (try clear hb2); (try clear hk); (try clear hi)))
                        go_roundg k1
                        case measure => have := HK1.out; omega
                        case rel => exact ⟨(x5_1 ++ (((⟨#[39]⟩ : ByteArray) ++ t123) ++ (⟨#[39]⟩ : ByteArray))), (wrap64 (x6_1 + 1)), (wrap64 (x7_1 + 1)), (by first | rfl | (simp; done) | (simp [*]; done)), (by first | rfl | (simp; done) | (simp [*]; done)), (by first | rfl | (simp; done) | (simp [*]; done)), H', ⟨by have := HK1.out; omega⟩, ⟨by repeat (first | (with_reducible first | exact HB.out | apply below_alloc | apply pw_below_drewN | apply below_drew1) | exact HB.out)⟩⟩
                      · rw [if_neg c25] at H
                        exact absurd H (by simp)
                    · rw [if_neg c24] at H
                      exact absurd H (by simp)
                  · rw [if_neg c23] at H
                    exact absurd H (by simp)
                · rw [if_neg c21] at H
                  exact absurd H (by simp)
              · rw [if_neg c20] at H
                exact absurd H (by simp)
          · rw [if_neg c6] at H
            have c6b0 : ((bt a0 x7_1) == 63) = false := beq_eq_false_iff_ne.mpr c6
            have c6b1 : ((bt a0 x7_1) != 63) = true := bne_iff_ne.mpr c6
            have c27b0 := eq_true (of_decide_eq_true (by first | (with_reducible assumption) | assumption) : 0 ≤ x7_1)
            by_cases c28 : x7_1 ≤ (wrap64 (x7_1 + 1))
            · rw [if_pos c28] at H
              have c28b0 := eq_true c28
              have c28b1 : decide (x7_1 ≤ (wrap64 (x7_1 + 1))) = true := decide_eq_true c28
              by_cases c29 : (wrap64 (x7_1 + 1)) ≤ (a0.size : Int)
              · rw [if_pos c29] at H
                have c29b0 := eq_true c29
                have c29b1 : decide ((wrap64 (x7_1 + 1)) ≤ (a0.size : Int)) = true := decide_eq_true c29
                by_cases c30 : x5_1.size + (a0.extract (x7_1 : Int).toNat ((wrap64 (x7_1 + 1)) : Int).toNat).size ≤ 9223372036854775807
                · rw [if_pos c30] at H
                  have c30b0 := eq_true c30
                  have c30b1 : decide (x5_1.size + (a0.extract (x7_1 : Int).toNat ((wrap64 (x7_1 + 1)) : Int).toNat).size ≤ 9223372036854775807) = true := decide_eq_true c30
                  try have c30b2 : (9223372036854775807 < x5_1.size + (a0.extract (x7_1 : Int).toNat ((wrap64 (x7_1 + 1)) : Int).toNat).size) = False := eq_false (Nat.not_lt.2 c30)
                  have H' := Aside0.mk H
                  clear H
                  have p5 : 0 ≤ (x7_1 : Int) := of_decide_eq_true (by first | (with_reducible assumption) | assumption)
                  have q5 : x7_1 < (a0.size : Int) := of_decide_eq_true (by first | (with_reducible assumption) | assumption)
                  have hx5 := bt_at a0 x7_1
                  replace p5 := eq_true p5
                  replace q5 := eq_true q5
                  go_wp2
                  go_roundg k1
                  case measure => have := HK1.out; omega
                  case rel => exact ⟨(x5_1 ++ (a0.extract (x7_1 : Int).toNat ((wrap64 (x7_1 + 1)) : Int).toNat)), (x6_1), (wrap64 (x7_1 + 1)), (by first | rfl | (simp; done) | (simp [*]; done)), (by first | rfl | (simp; done) | (simp [*]; done)), (by first | rfl | (simp; done) | (simp [*]; done)), H', ⟨by have := HK1.out; omega⟩, ⟨by repeat (first | (with_reducible first | exact HB.out | apply below_alloc | apply pw_below_drewN | apply below_drew1) | exact HB.out)⟩⟩
                · rw [if_neg c30] at H
                  exact absurd H (by simp)
              · rw [if_neg c29] at H
                exact absurd H (by simp)
            · rw [if_neg c28] at H
              exact absurd H (by simp)
        · rw [if_neg c4] at H
          exact absurd H (by simp)
      · rw [if_neg c3] at H
        have c3b0 : decide (x7_1 < (a0.size : Int)) = false := decide_eq_false c3
        clear c3
        obtain rfl := Option.some.inj H
        go_wp2
        go_ret
        exact ⟨by first | rfl | (simp [errW_none, errW_some] <;> rfl) | (simp [*, errW_none, errW_some] <;> rfl), by repeat (first | (with_reducible first | exact HB.out | apply below_alloc | apply pw_below_drewN | apply below_drew1) | exact HB.out)⟩

end Go.Proofs.YtabaldpjahcilaaDoor.QD
