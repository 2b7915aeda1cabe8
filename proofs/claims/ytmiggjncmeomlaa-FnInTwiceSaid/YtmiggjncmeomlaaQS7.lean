-- WRITTEN BY A PROGRAM OF THIS SESSION (wip/print2.py): the print, with contracts of this session's own let in. Not trusted: Lean checks it.
import Derived.Test.YtmiggjncmeomlaaQS0
import Derived.Test.YtmiggjncmeomlaaQS1
import Derived.Test.YtmiggjncmeomlaaQS2
import Derived.Test.YtmiggjncmeomlaaQS3
import Derived.Test.YtmiggjncmeomlaaHEqI
import Derived.Test.YtmiggjncmeomlaaHExpI
import Derived.Test.YtmiggjncmeomlaaHSame
namespace Go.Proofs.Ytmiggjncmeomlaa.QS
open Go.RowKit Go.Proofs.YtmiggjncmeomlaaW.PrintWords Go.Proofs.YtmiggjncmeomlaaW.PrintLast Go.Proofs.YtmiggjncmeomlaaW.PrintMore
attribute [local go_sem] max2_int min2_int max_two min_two max_three min_three max_four min_four   -- for this text's walks alone
set_option linter.unusedVariables false
set_option linter.unusedSimpArgs false

open Go.Proofs.Ytmiggjncmeomlaa.H
/-! ### laws_FnInTwice: function 4 -/
mutual
def laws_FnInTwice.j0 : Nat → ByteArray → Bool → Int → Int → ByteArray → List (S24) → Option (Bool)
  | 0, _, _, _, _, _, _ => none
  | k + 1, x0, x20, x134000, x134001, x134002, x134003 => if x20 = true then (some true) else ((spec_NameOnly.f k x0).bind fun t135 => (if t135 = true then ((spec_ValueRight.f k x134000 x134001 x134002 x134003 true).bind fun t136 => (if t136 = true then (if x134000 = 5 then (if (x134003.length : Int) = 0 then (laws_FnInTwice.j1 k x0 true x134000 x134001 x134002 x134003) else (laws_FnInTwice.j1 k x0 (decide ((x0.size : Int) > 40)) x134000 x134001 x134002 x134003)) else (laws_FnInTwice.j1 k x0 true x134000 x134001 x134002 x134003)) else (laws_FnInTwice.j1 k x0 true x134000 x134001 x134002 x134003))) else (laws_FnInTwice.j1 k x0 true x134000 x134001 x134002 x134003)))
def laws_FnInTwice.j1 : Nat → ByteArray → Bool → Int → Int → ByteArray → List (S24) → Option (Bool)
  | 0, _, _, _, _, _, _ => none
  | k + 1, x0, x44, x134000, x134001, x134002, x134003 => if x44 = true then (some true) else ((impl_EqOf.f (([x0] : List ByteArray)) (([(⟨x134000, x134001, x134002, x134003⟩ : S24)] : List (S24)))).bind fun bt143 => (if x0.size + 7 ≤ 9223372036854775807 then ((impl_Expanded.f (x0 ++ (⟨#[32, 73, 78, 32, 40, 63, 41]⟩ : ByteArray)) (([(⟨x134000, x134001, x134002, x134003⟩ : S24)] : List (S24)))).bind fun bt151 => (laws_FnInTwice.l0 k bt143.1 bt143.2.1 bt143.2.2 bt151.1 bt151.2.1 bt151.2.2 (⟨#[]⟩ : ByteArray) 0 x134000 x134001 x134002 x134003)) else (none)))
def laws_FnInTwice.l0 : Nat → ByteArray → List (S24) → Bool → ByteArray → List (S24) → Bool → ByteArray → Int → Int → Int → ByteArray → List (S24) → Option (Bool)
  | 0, _, _, _, _, _, _, _, _, _, _, _, _ => none
  | k + 1, x5, x6, x7, x8, x9, x10, x11, x12, x134000, x134001, x134002, x134003 => if x12 < (x8.size : Int) then (if 0 ≤ x12 then (if (bt x8 x12) = 32 then (if x12 > 0 then (if 0 ≤ (wrap64 (x12 - 1)) then (if (wrap64 (x12 - 1)) < (x8.size : Int) then (laws_FnInTwice.j3 k x5 x6 x7 x8 x9 x10 x11 x12 ((bt x8 (wrap64 (x12 - 1))) == 44) x134000 x134001 x134002 x134003) else (none)) else (none)) else (laws_FnInTwice.j3 k x5 x6 x7 x8 x9 x10 x11 x12 false x134000 x134001 x134002 x134003)) else (laws_FnInTwice.j3 k x5 x6 x7 x8 x9 x10 x11 x12 false x134000 x134001 x134002 x134003)) else (none)) else (if x7 = true then (if x10 = true then (if x5.toList = x11.toList then ((spec_SameValues.f x6 x9).bind fun t156 => (if t156 = true then (some ((x6.length : Int) == (x134003.length : Int))) else (some false))) else (some false)) else (some false)) else (some false))
def laws_FnInTwice.j3 : Nat → ByteArray → List (S24) → Bool → ByteArray → List (S24) → Bool → ByteArray → Int → Bool → Int → Int → ByteArray → List (S24) → Option (Bool)
  | 0, _, _, _, _, _, _, _, _, _, _, _, _, _ => none
  | k + 1, x5, x6, x7, x8, x9, x10, x11, x12, x83, x134000, x134001, x134002, x134003 => if x83 = true then (laws_FnInTwice.l0 k x5 x6 x7 x8 x9 x10 x11 (wrap64 (x12 + 1)) x134000 x134001 x134002 x134003) else (if 0 ≤ x12 then (if x12 ≤ (wrap64 (x12 + 1)) then (if (wrap64 (x12 + 1)) ≤ (x8.size : Int) then (if x11.size + (x8.extract (x12 : Int).toNat ((wrap64 (x12 + 1)) : Int).toNat).size ≤ 9223372036854775807 then (laws_FnInTwice.l0 k x5 x6 x7 x8 x9 x10 (x11 ++ (x8.extract (x12 : Int).toNat ((wrap64 (x12 + 1)) : Int).toNat)) (wrap64 (x12 + 1)) x134000 x134001 x134002 x134003) else (none)) else (none)) else (none)) else (none))
end
def laws_FnInTwice.f (k : Nat) (a0 : ByteArray) (a1_0 : Int) (a1_1 : Int) (a1_2 : ByteArray) (l1_3 : List (S24)) : Option (Bool) := if (a0.size : Int) > 2147483647 then (laws_FnInTwice.j0 k a0 true a1_0 a1_1 a1_2 l1_3) else ((laws_zzFits2.f a1_0 a1_1 a1_2 l1_3).bind fun t134 => (laws_FnInTwice.j0 k a0 (!t134) a1_0 a1_1 a1_2 l1_3))
theorem laws_FnInTwice.mono_l : ∀ k, (∀ y0 y1 y2 y3 y4 y5, LeO (laws_FnInTwice.j0 k y0 y1 y2 y3 y4 y5) (laws_FnInTwice.j0 (k + 1) y0 y1 y2 y3 y4 y5)) ∧ (∀ y0 y1 y2 y3 y4 y5, LeO (laws_FnInTwice.j1 k y0 y1 y2 y3 y4 y5) (laws_FnInTwice.j1 (k + 1) y0 y1 y2 y3 y4 y5)) ∧ (∀ y0 y1 y2 y3 y4 y5 y6 y7 y8 y9 y10 y11, LeO (laws_FnInTwice.l0 k y0 y1 y2 y3 y4 y5 y6 y7 y8 y9 y10 y11) (laws_FnInTwice.l0 (k + 1) y0 y1 y2 y3 y4 y5 y6 y7 y8 y9 y10 y11)) ∧ (∀ y0 y1 y2 y3 y4 y5 y6 y7 y8 y9 y10 y11 y12, LeO (laws_FnInTwice.j3 k y0 y1 y2 y3 y4 y5 y6 y7 y8 y9 y10 y11 y12) (laws_FnInTwice.j3 (k + 1) y0 y1 y2 y3 y4 y5 y6 y7 y8 y9 y10 y11 y12))
  | 0 => ⟨fun _ _ _ _ _ _ r h => by simp [laws_FnInTwice.j0] at h, fun _ _ _ _ _ _ r h => by simp [laws_FnInTwice.j1] at h, fun _ _ _ _ _ _ _ _ _ _ _ _ r h => by simp [laws_FnInTwice.l0] at h, fun _ _ _ _ _ _ _ _ _ _ _ _ _ r h => by simp [laws_FnInTwice.j3] at h⟩
  | k + 1 => by
    obtain ⟨ih0, ih1, ih2, ih3⟩ := laws_FnInTwice.mono_l k
    refine ⟨?_, ?_, ?_, ?_⟩
    · intro y0 y1 y2 y3 y4 y5
      unfold laws_FnInTwice.j0
      repeat' first
      | (with_reducible exact ih0 _ _ _ _ _ _)
      | (with_reducible exact ih1 _ _ _ _ _ _)
      | (with_reducible exact ih2 _ _ _ _ _ _ _ _ _ _ _ _)
      | (with_reducible exact ih3 _ _ _ _ _ _ _ _ _ _ _ _ _)
      | (with_reducible exact spec_NameOnly.mono _ _)
      | (with_reducible exact spec_ValueRight.mono _ _ _ _ _ _)
      | (with_reducible exact LeO.refl _)
      | (with_reducible exact LeO.none _)
      | (with_reducible refine LeO.ite ?_ ?_)
      | (with_reducible refine LeO.bind ?_ (fun _ => ?_))
      | exact ih0 _ _ _ _ _ _
      | exact ih1 _ _ _ _ _ _
      | exact ih2 _ _ _ _ _ _ _ _ _ _ _ _
      | exact ih3 _ _ _ _ _ _ _ _ _ _ _ _ _
      | exact spec_NameOnly.mono _ _
      | exact spec_ValueRight.mono _ _ _ _ _ _
      | exact LeO.none _
      | refine LeO.ite ?_ ?_
      | refine LeO.bind ?_ (fun _ => ?_)
    · intro y0 y1 y2 y3 y4 y5
      unfold laws_FnInTwice.j1
      repeat' first
      | (with_reducible exact ih0 _ _ _ _ _ _)
      | (with_reducible exact ih1 _ _ _ _ _ _)
      | (with_reducible exact ih2 _ _ _ _ _ _ _ _ _ _ _ _)
      | (with_reducible exact ih3 _ _ _ _ _ _ _ _ _ _ _ _ _)
      | (with_reducible exact spec_NameOnly.mono _ _)
      | (with_reducible exact spec_ValueRight.mono _ _ _ _ _ _)
      | (with_reducible exact LeO.refl _)
      | (with_reducible exact LeO.none _)
      | (with_reducible refine LeO.ite ?_ ?_)
      | (with_reducible refine LeO.bind ?_ (fun _ => ?_))
      | exact ih0 _ _ _ _ _ _
      | exact ih1 _ _ _ _ _ _
      | exact ih2 _ _ _ _ _ _ _ _ _ _ _ _
      | exact ih3 _ _ _ _ _ _ _ _ _ _ _ _ _
      | exact spec_NameOnly.mono _ _
      | exact spec_ValueRight.mono _ _ _ _ _ _
      | exact LeO.none _
      | refine LeO.ite ?_ ?_
      | refine LeO.bind ?_ (fun _ => ?_)
    · intro y0 y1 y2 y3 y4 y5 y6 y7 y8 y9 y10 y11
      unfold laws_FnInTwice.l0
      repeat' first
      | (with_reducible exact ih0 _ _ _ _ _ _)
      | (with_reducible exact ih1 _ _ _ _ _ _)
      | (with_reducible exact ih2 _ _ _ _ _ _ _ _ _ _ _ _)
      | (with_reducible exact ih3 _ _ _ _ _ _ _ _ _ _ _ _ _)
      | (with_reducible exact spec_NameOnly.mono _ _)
      | (with_reducible exact spec_ValueRight.mono _ _ _ _ _ _)
      | (with_reducible exact LeO.refl _)
      | (with_reducible exact LeO.none _)
      | (with_reducible refine LeO.ite ?_ ?_)
      | (with_reducible refine LeO.bind ?_ (fun _ => ?_))
      | exact ih0 _ _ _ _ _ _
      | exact ih1 _ _ _ _ _ _
      | exact ih2 _ _ _ _ _ _ _ _ _ _ _ _
      | exact ih3 _ _ _ _ _ _ _ _ _ _ _ _ _
      | exact spec_NameOnly.mono _ _
      | exact spec_ValueRight.mono _ _ _ _ _ _
      | exact LeO.none _
      | refine LeO.ite ?_ ?_
      | refine LeO.bind ?_ (fun _ => ?_)
    · intro y0 y1 y2 y3 y4 y5 y6 y7 y8 y9 y10 y11 y12
      unfold laws_FnInTwice.j3
      repeat' first
      | (with_reducible exact ih0 _ _ _ _ _ _)
      | (with_reducible exact ih1 _ _ _ _ _ _)
      | (with_reducible exact ih2 _ _ _ _ _ _ _ _ _ _ _ _)
      | (with_reducible exact ih3 _ _ _ _ _ _ _ _ _ _ _ _ _)
      | (with_reducible exact spec_NameOnly.mono _ _)
      | (with_reducible exact spec_ValueRight.mono _ _ _ _ _ _)
      | (with_reducible exact LeO.refl _)
      | (with_reducible exact LeO.none _)
      | (with_reducible refine LeO.ite ?_ ?_)
      | (with_reducible refine LeO.bind ?_ (fun _ => ?_))
      | exact ih0 _ _ _ _ _ _
      | exact ih1 _ _ _ _ _ _
      | exact ih2 _ _ _ _ _ _ _ _ _ _ _ _
      | exact ih3 _ _ _ _ _ _ _ _ _ _ _ _ _
      | exact spec_NameOnly.mono _ _
      | exact spec_ValueRight.mono _ _ _ _ _ _
      | exact LeO.none _
      | refine LeO.ite ?_ ?_
      | refine LeO.bind ?_ (fun _ => ?_)
theorem laws_FnInTwice.mono : ∀ a0 a1 a2 a3 a4 k, LeO (laws_FnInTwice.f k a0 a1 a2 a3 a4) (laws_FnInTwice.f (k + 1) a0 a1 a2 a3 a4) := by
  intro a0 a1 a2 a3 a4 k
  obtain ⟨ih0, ih1, ih2, ih3⟩ := laws_FnInTwice.mono_l k
  unfold laws_FnInTwice.f
  repeat' first
      | (with_reducible exact ih0 _ _ _ _ _ _)
      | (with_reducible exact ih1 _ _ _ _ _ _)
      | (with_reducible exact ih2 _ _ _ _ _ _ _ _ _ _ _ _)
      | (with_reducible exact ih3 _ _ _ _ _ _ _ _ _ _ _ _ _)
      | (with_reducible exact spec_NameOnly.mono _ _)
      | (with_reducible exact spec_ValueRight.mono _ _ _ _ _ _)
      | (with_reducible exact LeO.refl _)
      | (with_reducible exact LeO.none _)
      | (with_reducible refine LeO.ite ?_ ?_)
      | (with_reducible refine LeO.bind ?_ (fun _ => ?_))
      | exact ih0 _ _ _ _ _ _
      | exact ih1 _ _ _ _ _ _
      | exact ih2 _ _ _ _ _ _ _ _ _ _ _ _
      | exact ih3 _ _ _ _ _ _ _ _ _ _ _ _ _
      | exact spec_NameOnly.mono _ _
      | exact spec_ValueRight.mono _ _ _ _ _ _
      | exact LeO.none _
      | refine LeO.ite ?_ ?_
      | refine LeO.bind ?_ (fun _ => ?_)
set_option maxHeartbeats 8000000 in
set_option maxRecDepth 100000 in
theorem laws_FnInTwice.calls (k : Nat) (a0 : ByteArray) (a1_0 : Int) (a1_1 : Int) (a1_2 : ByteArray) (P1_3_ : Nat → Prop) (A1_3 : Option Addr) (c1_3 : Nat) (l1_3 : List (S24)) (r : Bool) (w : World) (hs1_3 : Kd.V k24 24 w w.heap.size (fun k_ => P1_3_ k_) (.slice A1_3 l1_3.length c1_3) l1_3) (h : laws_FnInTwice.f k a0 a1_0 a1_1 a1_2 l1_3 = some r) :
    Calls Try.prog 4 #[.string a0, .agg #[.int .i64 a1_0, .int .i64 a1_1, .string a1_2, .slice A1_3 l1_3.length c1_3]] w fun e w' => e = .returned (.bool r) ∧ Below w.heap.size w w' := by
  have hu24 := Try.underlying24
  have HO1_3 := Aside0.mk (show Kd.V k24 24 w w.heap.size (fun k_ => (P1_3_ k_ ∨ w.heap.size ≤ k_)) (.slice A1_3 l1_3.length c1_3) l1_3 from Kd.V_mono hs1_3 (fun k_ hk => .inl hk))
  have HB := Aside0.mk (Below.refl w.heap.size w)
  have H : (if (a0.size : Int) > 2147483647 then (laws_FnInTwice.j0 k a0 true a1_0 a1_1 a1_2 l1_3) else ((laws_zzFits2.f a1_0 a1_1 a1_2 l1_3).bind fun t134 => (laws_FnInTwice.j0 k a0 (!t134) a1_0 a1_1 a1_2 l1_3))) = some r := h
  clear h
  have HC3 := Aside0.mk H
  clear H
  go_enter Try.func4, Try.ntmps4
  go_upto_region 1 with (first | ((with_reducible refine gate_dst (N := 3) rfl ?_); (try (refine gate_guard (by rfl) ?_; dsimp only)); refine box_event ?hg (N := 3) ?hd (cs := #[.int .i64 a1_0, .int .i64 a1_1, .string a1_2, .slice A1_3 l1_3.length c1_3]) (t := 24) ?hr ?_; (case hd => rfl); (case hg => rfl); (case hr => first | (go_simp; done) | (go_simp; rfl)); intro gb133 hg w4 hbox hb; have n0_ := Aside0.mk (Kd.V_below (Kd.V_elderB (by (with_reducible repeat (first | apply Kd.V_alloc | apply Kd.V_drewN | apply Kd.V_drew)); exact HO1_3.out) gb133 (Nat.le_of_eq hg.symm)) hb); have n1_ := Aside0.mk (below_step (by repeat (first | (with_reducible first | exact HB.out | apply below_alloc | apply pw_below_drewN | apply below_drew1) | exact HB.out)) hb); have n2_ := Aside0.mk (hbox); have n3_ := Aside0.mk ((by rw [hg]; exact (below_size (by repeat (first | (with_reducible first | exact HB.out | apply below_alloc | apply pw_below_drewN | apply below_drew1) | exact HB.out))) : w.heap.size ≤ gb133)); have n4_ := Aside0.mk ((by rw [hg]; exact (below_size (by repeat (first | (with_reducible first | exact HB.out | apply below_alloc | apply pw_below_drewN | apply below_drew1) | exact HB.out))) : w.heap.size ≤ gb133)); clear HO1_3; clear HB; have HO1_3 := n0_; have HB := n1_; have BK133 := n2_; have GW133 := n3_; have GE133 := n4_; clear n0_ n1_ n2_ n3_ n4_; clear hb hbox hg))
  (try simp only [Act.put, List.setIfInBounds_toArray, List.set_cons_zero, List.set_cons_succ])
  go_cut [20] (fun v20 wc => ∃ (kq : Nat) (x20_2 : Bool), v20 = .bool x20_2 ∧ Aside0 (laws_FnInTwice.j0 kq a0 x20_2 a1_0 a1_1 a1_2 l1_3 = some r) ∧ Aside0 (kq ≤ k) ∧ Aside0 (Kd.V k24 24 wc w.heap.size (fun k_ => (P1_3_ k_ ∨ w.heap.size ≤ k_) ∧ k_ ≠ gb133) (.slice A1_3 l1_3.length c1_3) l1_3) ∧ Aside0 (wc.heap[gb133]? = some (.cells #[.int .i64 a1_0, .int .i64 a1_1, .string a1_2, (.slice A1_3 l1_3.length c1_3)] 24 (0, 0))) ∧ Aside0 (Below w.heap.size w wc))
  case first =>
    have H := HC3.out
    clear HC3
    by_cases c5 : (a0.size : Int) > 2147483647
    · rw [if_pos c5] at H
      have c5b0 : decide (2147483647 < (a0.size : Int)) = true := decide_eq_true c5
      have c5b1 : decide (2147483647 < a0.size) = true := decide_eq_true (by omega)
      clear c5
      (first | rw [c5b0] | (simp only [i64_w, i32_w]; rw [c5b0]) | skip)
      have H' := Aside0.mk H
      clear H
      go_wp2
      go_meet
      case rel => exact ⟨_, (true), (by first | rfl | (simp; done) | (simp [*]; done)), H', ⟨by first | omega | exact Nat.le_refl _⟩, ⟨by (with_reducible repeat (first | apply Kd.V_alloc | apply Kd.V_drewN | apply Kd.V_drew)); exact HO1_3.out⟩, ⟨by (with_reducible repeat (first | refine blk_drewN ?_ _ | refine blk_drew ?_ | refine blk_alloc ?_ _)); exact BK133.out⟩, ⟨by repeat (first | (with_reducible first | exact HB.out | apply below_alloc | apply pw_below_drewN | apply below_drew1 | refine below_set ?_ GE133.out) | exact HB.out)⟩⟩
    · rw [if_neg c5] at H
      have c5b0 : decide (2147483647 < (a0.size : Int)) = false := decide_eq_false c5
      have c5b1 : decide (2147483647 < a0.size) = false := decide_eq_false (by omega)
      clear c5
      (first | rw [c5b0] | (simp only [i64_w, i32_w]; rw [c5b0]) | skip)
      replace H := Option.bind_eq_some_iff.mp H
      obtain ⟨t134, A60, H⟩ := H
      replace H : (laws_FnInTwice.j0 k a0 (!t134) a1_0 a1_1 a1_2 l1_3) = some r := H
      have A6 := Aside0.mk A60
      clear A60
      have H' := Aside0.mk H
      clear H
      have hcz7_0 : w4.cell? ⟨gb133, 0, none⟩ = some (.int .i64 a1_0) := (blk_cell BK133.out 0).trans rfl
      have hcz7_1 : w4.cell? ⟨gb133, 1, none⟩ = some (.int .i64 a1_1) := (blk_cell BK133.out 1).trans rfl
      have hcz7_2 : w4.cell? ⟨gb133, 2, none⟩ = some (.string a1_2) := (blk_cell BK133.out 2).trans rfl
      have hcz7_3 : w4.cell? ⟨gb133, 3, none⟩ = some (.slice A1_3 l1_3.length c1_3) := (blk_cell BK133.out 3).trans rfl
      have hfz7_0 := blk_frozen BK133.out 0
      have hfz7_1 := blk_frozen BK133.out 1
      have hfz7_2 := blk_frozen BK133.out 2
      have hfz7_3 := blk_frozen BK133.out 3
      go_wp2_with (first | (go_at_call 5; (with_reducible refine (laws_zzFits2.calls a1_0 a1_1 a1_2 _ _ l1_3 t134 _ ?side1 ?side2 A6.out).mono ?_); (case side1 => repeat (first | exact (Kd.V_reads' HO1_3.out).2.2 | (with_reducible refine Kd.C_alloc ?_ _) | (with_reducible refine Kd.C_drewN ?_ _) | (with_reducible refine Kd.C_drew ?_))); (case side2 => exact (Kd.V_reads' HO1_3.out).2.1); rintro e w8 ⟨rfl, hb⟩; have n0_ := Aside0.mk (Kd.V_below (by (with_reducible repeat (first | apply Kd.V_alloc | apply Kd.V_drewN | apply Kd.V_drew)); exact HO1_3.out) hb); have n1_ := Aside0.mk (blk_below (g := gb133) (o := .cells #[.int .i64 a1_0, .int .i64 a1_1, .string a1_2, .slice A1_3 l1_3.length c1_3] 24 (0, 0)) (by (with_reducible repeat (first | refine blk_drewN ?_ _ | refine blk_drew ?_ | refine blk_alloc ?_ _)); exact BK133.out) hb); have n2_ := Aside0.mk (below_step (by repeat (first | (with_reducible first | exact HB.out | apply below_alloc | apply pw_below_drewN | apply below_drew1 | refine below_set ?_ GE133.out) | exact HB.out)) hb); clear HO1_3; clear BK133; clear HB; have HO1_3 := n0_; have BK133 := n1_; have HB := n2_; clear n0_ n1_ n2_; (try clear hb); (try clear hb2); (try clear hk); (try clear hi)))
      go_meet
      case rel => exact ⟨_, (!t134), (by first | rfl | (simp; done) | (simp [*]; done)), H', ⟨by first | omega | exact Nat.le_refl _⟩, ⟨by (with_reducible repeat (first | apply Kd.V_alloc | apply Kd.V_drewN | apply Kd.V_drew)); exact HO1_3.out⟩, ⟨by (with_reducible repeat (first | refine blk_drewN ?_ _ | refine blk_drew ?_ | refine blk_alloc ?_ _)); exact BK133.out⟩, ⟨by repeat (first | (with_reducible first | exact HB.out | apply below_alloc | apply pw_below_drewN | apply below_drew1 | refine below_set ?_ GE133.out) | exact HB.out)⟩⟩
  case rest =>
    clear HC3
    try clear c1
    try clear p2
    try clear c4
    try clear c5
    try clear c5b0
    try clear c5b1
    try clear hcz7_0
    try clear hcz7_1
    try clear hcz7_2
    try clear hcz7_3
    try clear hfz7_0
    try clear hfz7_1
    try clear hfz7_2
    try clear hfz7_3
    obtain ⟨kq, x20_2, rfl, HA, HJ2, HO_134003, BK133, HB⟩ := hcut
    cases kq with
    | zero => exact absurd HA.out (by simp [laws_FnInTwice.j0])
    | succ kj2 =>
      have H := HA.out
      clear HA
      simp only [laws_FnInTwice.j0] at H
      by_cases c9 : x20_2 = true
      · subst c9
        have H1 : (some true) = some r := by rw [if_pos rfl] at H; exact H
        clear H
        have H := H1
        clear H1
        obtain rfl := Option.some.inj H
        go_wp2
        go_ret
        exact ⟨by first | rfl | (simp [errW_none, errW_some] <;> rfl) | (simp [*, errW_none, errW_some] <;> rfl), by repeat (first | (with_reducible first | exact HB.out | apply below_alloc | apply pw_below_drewN | apply below_drew1 | refine below_set ?_ GE133.out) | exact HB.out)⟩
      · replace c9 := Bool.eq_false_iff.mpr c9
        subst c9
        have H1 : ((spec_NameOnly.f kj2 a0).bind fun t135 => (if t135 = true then ((spec_ValueRight.f kj2 a1_0 a1_1 a1_2 l1_3 true).bind fun t136 => (if t136 = true then (if a1_0 = 5 then (if (l1_3.length : Int) = 0 then (laws_FnInTwice.j1 kj2 a0 true a1_0 a1_1 a1_2 l1_3) else (laws_FnInTwice.j1 kj2 a0 (decide ((a0.size : Int) > 40)) a1_0 a1_1 a1_2 l1_3)) else (laws_FnInTwice.j1 kj2 a0 true a1_0 a1_1 a1_2 l1_3)) else (laws_FnInTwice.j1 kj2 a0 true a1_0 a1_1 a1_2 l1_3))) else (laws_FnInTwice.j1 kj2 a0 true a1_0 a1_1 a1_2 l1_3))) = some r := by rw [if_neg (show ¬ (false = true) by decide)] at H; exact H
        clear H
        have H := H1
        clear H1
        have HC10 := Aside0.mk H
        clear H
        go_upto_region 3 with (fail)
        go_cut [44] (fun v44 wc => ∃ (kq : Nat) (x44_9 : Bool), v44 = .bool x44_9 ∧ Aside0 (laws_FnInTwice.j1 kq a0 x44_9 a1_0 a1_1 a1_2 l1_3 = some r) ∧ Aside0 (kq ≤ kj2) ∧ Aside0 (Kd.V k24 24 wc w.heap.size (fun k_ => (P1_3_ k_ ∨ w.heap.size ≤ k_) ∧ k_ ≠ gb133) (.slice A1_3 l1_3.length c1_3) l1_3) ∧ Aside0 (wc.heap[gb133]? = some (.cells #[.int .i64 a1_0, .int .i64 a1_1, .string a1_2, (.slice A1_3 l1_3.length c1_3)] 24 (0, 0))) ∧ Aside0 (Below w.heap.size w wc))
        case first =>
          have H := HC10.out
          clear HC10
          replace H := Option.bind_eq_some_iff.mp H
          obtain ⟨t135, A110, H⟩ := H
          replace H : (if t135 = true then ((spec_ValueRight.f kj2 a1_0 a1_1 a1_2 l1_3 true).bind fun t136 => (if t136 = true then (if a1_0 = 5 then (if (l1_3.length : Int) = 0 then (laws_FnInTwice.j1 kj2 a0 true a1_0 a1_1 a1_2 l1_3) else (laws_FnInTwice.j1 kj2 a0 (decide ((a0.size : Int) > 40)) a1_0 a1_1 a1_2 l1_3)) else (laws_FnInTwice.j1 kj2 a0 true a1_0 a1_1 a1_2 l1_3)) else (laws_FnInTwice.j1 kj2 a0 true a1_0 a1_1 a1_2 l1_3))) else (laws_FnInTwice.j1 kj2 a0 true a1_0 a1_1 a1_2 l1_3)) = some r := H
          have A11 := Aside0.mk A110
          clear A110
          by_cases c12 : t135 = true
          · subst c12
            have H1 : ((spec_ValueRight.f kj2 a1_0 a1_1 a1_2 l1_3 true).bind fun t136 => (if t136 = true then (if a1_0 = 5 then (if (l1_3.length : Int) = 0 then (laws_FnInTwice.j1 kj2 a0 true a1_0 a1_1 a1_2 l1_3) else (laws_FnInTwice.j1 kj2 a0 (decide ((a0.size : Int) > 40)) a1_0 a1_1 a1_2 l1_3)) else (laws_FnInTwice.j1 kj2 a0 true a1_0 a1_1 a1_2 l1_3)) else (laws_FnInTwice.j1 kj2 a0 true a1_0 a1_1 a1_2 l1_3))) = some r := by rw [if_pos rfl] at H; exact H
            clear H
            have H := H1
            clear H1
            replace H := Option.bind_eq_some_iff.mp H
            obtain ⟨t136, A130, H⟩ := H
            replace H : (if t136 = true then (if a1_0 = 5 then (if (l1_3.length : Int) = 0 then (laws_FnInTwice.j1 kj2 a0 true a1_0 a1_1 a1_2 l1_3) else (laws_FnInTwice.j1 kj2 a0 (decide ((a0.size : Int) > 40)) a1_0 a1_1 a1_2 l1_3)) else (laws_FnInTwice.j1 kj2 a0 true a1_0 a1_1 a1_2 l1_3)) else (laws_FnInTwice.j1 kj2 a0 true a1_0 a1_1 a1_2 l1_3)) = some r := H
            have A13 := Aside0.mk A130
            clear A130
            by_cases c14 : t136 = true
            · subst c14
              have H1 : (if a1_0 = 5 then (if (l1_3.length : Int) = 0 then (laws_FnInTwice.j1 kj2 a0 true a1_0 a1_1 a1_2 l1_3) else (laws_FnInTwice.j1 kj2 a0 (decide ((a0.size : Int) > 40)) a1_0 a1_1 a1_2 l1_3)) else (laws_FnInTwice.j1 kj2 a0 true a1_0 a1_1 a1_2 l1_3)) = some r := by rw [if_pos rfl] at H; exact H
              clear H
              have H := H1
              clear H1
              by_cases c15 : a1_0 = 5
              · rw [if_pos c15] at H
                have c15b0 : (a1_0 == 5) = true := beq_iff_eq.mpr c15
                have c15b1 : (a1_0 != 5) = false := bne_eq_false_iff_eq.mpr c15
                clear c15
                (first | rw [c15b0] | (simp only [i64_w, i32_w]; rw [c15b0]) | skip)
                by_cases c16 : (l1_3.length : Int) = 0
                · rw [if_pos c16] at H
                  have c16b0 : ((l1_3.length : Int) == 0) = true := beq_iff_eq.mpr c16
                  have c16b1 : ((l1_3.length : Int) != 0) = false := bne_eq_false_iff_eq.mpr c16
                  clear c16
                  have H' := Aside0.mk H
                  clear H
                  go_wp2_with (first | ((with_reducible refine gate_callee (f := 6) rfl ?_); refine goesL_ (some 22) rfl rfl Try.func6 (by kernel_rfl) rfl #[.string a0] rfl (by (try simp only [List.map_toArray, List.map_cons, List.map_nil]); first | done | rfl | (simp only [List.length_drop, List.length_take]; rfl)) ?_; (with_reducible refine (spec_NameOnly.calls kj2 a0 true _ A11.out).mono ?_); rintro e w' ⟨rfl, ⟨nd, rfl⟩⟩; refine ⟨_, rfl, ?_⟩; have hcz17_0 : wc.cell? ⟨gb133, 0, none⟩ = some (.int .i64 a1_0) := (blk_cell BK133.out 0).trans rfl; have hcz17_1 : wc.cell? ⟨gb133, 1, none⟩ = some (.int .i64 a1_1) := (blk_cell BK133.out 1).trans rfl; have hcz17_2 : wc.cell? ⟨gb133, 2, none⟩ = some (.string a1_2) := (blk_cell BK133.out 2).trans rfl; have hcz17_3 : wc.cell? ⟨gb133, 3, none⟩ = some (.slice A1_3 l1_3.length c1_3) := (blk_cell BK133.out 3).trans rfl; have hfz17_0 := blk_frozen BK133.out 0; have hfz17_1 := blk_frozen BK133.out 1; have hfz17_2 := blk_frozen BK133.out 2; have hfz17_3 := blk_frozen BK133.out 3) | (go_at_call 7; (with_reducible refine (spec_ValueRight.calls kj2 a1_0 a1_1 a1_2 _ _ l1_3 true true _ ?side1 ?side2 A13.out).mono ?_); (case side1 => repeat (first | exact (Kd.V_reads' HO_134003.out).2.2 | (with_reducible refine Kd.C_alloc ?_ _) | (with_reducible refine Kd.C_drewN ?_ _) | (with_reducible refine Kd.C_drew ?_))); (case side2 => exact (Kd.V_reads' HO_134003.out).2.1); rintro e w18 ⟨rfl, hb⟩; have n0_ := Aside0.mk (Kd.V_below (by (with_reducible repeat (first | apply Kd.V_alloc | apply Kd.V_drewN | apply Kd.V_drew)); exact HO_134003.out) hb); have n1_ := Aside0.mk (blk_below (g := gb133) (o := .cells #[.int .i64 a1_0, .int .i64 a1_1, .string a1_2, .slice A1_3 l1_3.length c1_3] 24 (0, 0)) (by (with_reducible repeat (first | refine blk_drewN ?_ _ | refine blk_drew ?_ | refine blk_alloc ?_ _)); exact BK133.out) hb); have n2_ := Aside0.mk (below_step (by repeat (first | (with_reducible first | exact HB.out | apply below_alloc | apply pw_below_drewN | apply below_drew1 | refine below_set ?_ GE133.out) | exact HB.out)) hb); clear HO_134003; clear BK133; clear HB; have HO_134003 := n0_; have BK133 := n1_; have HB := n2_; clear n0_ n1_ n2_; (try clear hb); (try clear hb2); (try clear hk); (try clear hi); have hcz19_0 : w18.cell? ⟨gb133, 0, none⟩ = some (.int .i64 a1_0) := (blk_cell BK133.out 0).trans rfl; have hcz19_1 : w18.cell? ⟨gb133, 1, none⟩ = some (.int .i64 a1_1) := (blk_cell BK133.out 1).trans rfl; have hcz19_2 : w18.cell? ⟨gb133, 2, none⟩ = some (.string a1_2) := (blk_cell BK133.out 2).trans rfl; have hcz19_3 : w18.cell? ⟨gb133, 3, none⟩ = some (.slice A1_3 l1_3.length c1_3) := (blk_cell BK133.out 3).trans rfl; have hfz19_0 := blk_frozen BK133.out 0; have hfz19_1 := blk_frozen BK133.out 1; have hfz19_2 := blk_frozen BK133.out 2; have hfz19_3 := blk_frozen BK133.out 3))
                  go_meet
                  case rel => exact ⟨_, (true), (by first | rfl | (simp; done) | (simp [*]; done)), H', ⟨by have := HJ2.out; first | omega | exact Nat.le_refl _⟩, ⟨by (with_reducible repeat (first | apply Kd.V_alloc | apply Kd.V_drewN | apply Kd.V_drew)); exact HO_134003.out⟩, ⟨by (with_reducible repeat (first | refine blk_drewN ?_ _ | refine blk_drew ?_ | refine blk_alloc ?_ _)); exact BK133.out⟩, ⟨by repeat (first | (with_reducible first | exact HB.out | apply below_alloc | apply pw_below_drewN | apply below_drew1 | refine below_set ?_ GE133.out) | exact HB.out)⟩⟩
                · rw [if_neg c16] at H
                  have c16b0 : ((l1_3.length : Int) == 0) = false := beq_eq_false_iff_ne.mpr c16
                  have c16b1 : ((l1_3.length : Int) != 0) = true := bne_iff_ne.mpr c16
                  have c16b2 : ¬ (l1_3 = []) := fun h_ => c16 (by rw [h_]; rfl)
                  have H' := Aside0.mk H
                  clear H
                  go_wp2_with (first | ((with_reducible refine gate_callee (f := 6) rfl ?_); refine goesL_ (some 22) rfl rfl Try.func6 (by kernel_rfl) rfl #[.string a0] rfl (by (try simp only [List.map_toArray, List.map_cons, List.map_nil]); first | done | rfl | (simp only [List.length_drop, List.length_take]; rfl)) ?_; (with_reducible refine (spec_NameOnly.calls kj2 a0 true _ A11.out).mono ?_); rintro e w' ⟨rfl, ⟨nd, rfl⟩⟩; refine ⟨_, rfl, ?_⟩; have hcz20_0 : wc.cell? ⟨gb133, 0, none⟩ = some (.int .i64 a1_0) := (blk_cell BK133.out 0).trans rfl; have hcz20_1 : wc.cell? ⟨gb133, 1, none⟩ = some (.int .i64 a1_1) := (blk_cell BK133.out 1).trans rfl; have hcz20_2 : wc.cell? ⟨gb133, 2, none⟩ = some (.string a1_2) := (blk_cell BK133.out 2).trans rfl; have hcz20_3 : wc.cell? ⟨gb133, 3, none⟩ = some (.slice A1_3 l1_3.length c1_3) := (blk_cell BK133.out 3).trans rfl; have hfz20_0 := blk_frozen BK133.out 0; have hfz20_1 := blk_frozen BK133.out 1; have hfz20_2 := blk_frozen BK133.out 2; have hfz20_3 := blk_frozen BK133.out 3) | (go_at_call 7; (with_reducible refine (spec_ValueRight.calls kj2 a1_0 a1_1 a1_2 _ _ l1_3 true true _ ?side1 ?side2 A13.out).mono ?_); (case side1 => repeat (first | exact (Kd.V_reads' HO_134003.out).2.2 | (with_reducible refine Kd.C_alloc ?_ _) | (with_reducible refine Kd.C_drewN ?_ _) | (with_reducible refine Kd.C_drew ?_))); (case side2 => exact (Kd.V_reads' HO_134003.out).2.1); rintro e w21 ⟨rfl, hb⟩; have n0_ := Aside0.mk (Kd.V_below (by (with_reducible repeat (first | apply Kd.V_alloc | apply Kd.V_drewN | apply Kd.V_drew)); exact HO_134003.out) hb); have n1_ := Aside0.mk (blk_below (g := gb133) (o := .cells #[.int .i64 a1_0, .int .i64 a1_1, .string a1_2, .slice A1_3 l1_3.length c1_3] 24 (0, 0)) (by (with_reducible repeat (first | refine blk_drewN ?_ _ | refine blk_drew ?_ | refine blk_alloc ?_ _)); exact BK133.out) hb); have n2_ := Aside0.mk (below_step (by repeat (first | (with_reducible first | exact HB.out | apply below_alloc | apply pw_below_drewN | apply below_drew1 | refine below_set ?_ GE133.out) | exact HB.out)) hb); clear HO_134003; clear BK133; clear HB; have HO_134003 := n0_; have BK133 := n1_; have HB := n2_; clear n0_ n1_ n2_; (try clear hb); (try clear hb2); (try clear hk); (try clear hi); have hcz22_0 : w21.cell? ⟨gb133, 0, none⟩ = some (.int .i64 a1_0) := (blk_cell BK133.out 0).trans rfl; have hcz22_1 : w21.cell? ⟨gb133, 1, none⟩ = some (.int .i64 a1_1) := (blk_cell BK133.out 1).trans rfl; have hcz22_2 : w21.cell? ⟨gb133, 2, none⟩ = some (.string a1_2) := (blk_cell BK133.out 2).trans rfl; have hcz22_3 : w21.cell? ⟨gb133, 3, none⟩ = some (.slice A1_3 l1_3.length c1_3) := (blk_cell BK133.out 3).trans rfl; have hfz22_0 := blk_frozen BK133.out 0; have hfz22_1 := blk_frozen BK133.out 1; have hfz22_2 := blk_frozen BK133.out 2; have hfz22_3 := blk_frozen BK133.out 3))
                  go_meet
                  case rel => exact ⟨_, (decide ((a0.size : Int) > 40)), (by first | rfl | (simp; done) | (simp [*]; done)), H', ⟨by have := HJ2.out; first | omega | exact Nat.le_refl _⟩, ⟨by (with_reducible repeat (first | apply Kd.V_alloc | apply Kd.V_drewN | apply Kd.V_drew)); exact HO_134003.out⟩, ⟨by (with_reducible repeat (first | refine blk_drewN ?_ _ | refine blk_drew ?_ | refine blk_alloc ?_ _)); exact BK133.out⟩, ⟨by repeat (first | (with_reducible first | exact HB.out | apply below_alloc | apply pw_below_drewN | apply below_drew1 | refine below_set ?_ GE133.out) | exact HB.out)⟩⟩
              · rw [if_neg c15] at H
                have c15b0 : (a1_0 == 5) = false := beq_eq_false_iff_ne.mpr c15
                have c15b1 : (a1_0 != 5) = true := bne_iff_ne.mpr c15
                (first | rw [c15b0] | (simp only [i64_w, i32_w]; rw [c15b0]) | skip)
                have H' := Aside0.mk H
                clear H
                go_wp2_with (first | ((with_reducible refine gate_callee (f := 6) rfl ?_); refine goesL_ (some 22) rfl rfl Try.func6 (by kernel_rfl) rfl #[.string a0] rfl (by (try simp only [List.map_toArray, List.map_cons, List.map_nil]); first | done | rfl | (simp only [List.length_drop, List.length_take]; rfl)) ?_; (with_reducible refine (spec_NameOnly.calls kj2 a0 true _ A11.out).mono ?_); rintro e w' ⟨rfl, ⟨nd, rfl⟩⟩; refine ⟨_, rfl, ?_⟩; have hcz23_0 : wc.cell? ⟨gb133, 0, none⟩ = some (.int .i64 a1_0) := (blk_cell BK133.out 0).trans rfl; have hcz23_1 : wc.cell? ⟨gb133, 1, none⟩ = some (.int .i64 a1_1) := (blk_cell BK133.out 1).trans rfl; have hcz23_2 : wc.cell? ⟨gb133, 2, none⟩ = some (.string a1_2) := (blk_cell BK133.out 2).trans rfl; have hcz23_3 : wc.cell? ⟨gb133, 3, none⟩ = some (.slice A1_3 l1_3.length c1_3) := (blk_cell BK133.out 3).trans rfl; have hfz23_0 := blk_frozen BK133.out 0; have hfz23_1 := blk_frozen BK133.out 1; have hfz23_2 := blk_frozen BK133.out 2; have hfz23_3 := blk_frozen BK133.out 3) | (go_at_call 7; (with_reducible refine (spec_ValueRight.calls kj2 a1_0 a1_1 a1_2 _ _ l1_3 true true _ ?side1 ?side2 A13.out).mono ?_); (case side1 => repeat (first | exact (Kd.V_reads' HO_134003.out).2.2 | (with_reducible refine Kd.C_alloc ?_ _) | (with_reducible refine Kd.C_drewN ?_ _) | (with_reducible refine Kd.C_drew ?_))); (case side2 => exact (Kd.V_reads' HO_134003.out).2.1); rintro e w24 ⟨rfl, hb⟩; have n0_ := Aside0.mk (Kd.V_below (by (with_reducible repeat (first | apply Kd.V_alloc | apply Kd.V_drewN | apply Kd.V_drew)); exact HO_134003.out) hb); have n1_ := Aside0.mk (blk_below (g := gb133) (o := .cells #[.int .i64 a1_0, .int .i64 a1_1, .string a1_2, .slice A1_3 l1_3.length c1_3] 24 (0, 0)) (by (with_reducible repeat (first | refine blk_drewN ?_ _ | refine blk_drew ?_ | refine blk_alloc ?_ _)); exact BK133.out) hb); have n2_ := Aside0.mk (below_step (by repeat (first | (with_reducible first | exact HB.out | apply below_alloc | apply pw_below_drewN | apply below_drew1 | refine below_set ?_ GE133.out) | exact HB.out)) hb); clear HO_134003; clear BK133; clear HB; have HO_134003 := n0_; have BK133 := n1_; have HB := n2_; clear n0_ n1_ n2_; (try clear hb); (try clear hb2); (try clear hk); (try clear hi); have hcz25_0 : w24.cell? ⟨gb133, 0, none⟩ = some (.int .i64 a1_0) := (blk_cell BK133.out 0).trans rfl; have hcz25_1 : w24.cell? ⟨gb133, 1, none⟩ = some (.int .i64 a1_1) := (blk_cell BK133.out 1).trans rfl; have hcz25_2 : w24.cell? ⟨gb133, 2, none⟩ = some (.string a1_2) := (blk_cell BK133.out 2).trans rfl; have hcz25_3 : w24.cell? ⟨gb133, 3, none⟩ = some (.slice A1_3 l1_3.length c1_3) := (blk_cell BK133.out 3).trans rfl; have hfz25_0 := blk_frozen BK133.out 0; have hfz25_1 := blk_frozen BK133.out 1; have hfz25_2 := blk_frozen BK133.out 2; have hfz25_3 := blk_frozen BK133.out 3))
                go_meet
                case rel => exact ⟨_, (true), (by first | rfl | (simp; done) | (simp [*]; done)), H', ⟨by have := HJ2.out; first | omega | exact Nat.le_refl _⟩, ⟨by (with_reducible repeat (first | apply Kd.V_alloc | apply Kd.V_drewN | apply Kd.V_drew)); exact HO_134003.out⟩, ⟨by (with_reducible repeat (first | refine blk_drewN ?_ _ | refine blk_drew ?_ | refine blk_alloc ?_ _)); exact BK133.out⟩, ⟨by repeat (first | (with_reducible first | exact HB.out | apply below_alloc | apply pw_below_drewN | apply below_drew1 | refine below_set ?_ GE133.out) | exact HB.out)⟩⟩
            · replace c14 := Bool.eq_false_iff.mpr c14
              subst c14
              have H1 : (laws_FnInTwice.j1 kj2 a0 true a1_0 a1_1 a1_2 l1_3) = some r := by rw [if_neg (show ¬ (false = true) by decide)] at H; exact H
              clear H
              have H := H1
              clear H1
              have H' := Aside0.mk H
              clear H
              go_wp2_with (first | ((with_reducible refine gate_callee (f := 6) rfl ?_); refine goesL_ (some 22) rfl rfl Try.func6 (by kernel_rfl) rfl #[.string a0] rfl (by (try simp only [List.map_toArray, List.map_cons, List.map_nil]); first | done | rfl | (simp only [List.length_drop, List.length_take]; rfl)) ?_; (with_reducible refine (spec_NameOnly.calls kj2 a0 true _ A11.out).mono ?_); rintro e w' ⟨rfl, ⟨nd, rfl⟩⟩; refine ⟨_, rfl, ?_⟩; have hcz26_0 : wc.cell? ⟨gb133, 0, none⟩ = some (.int .i64 a1_0) := (blk_cell BK133.out 0).trans rfl; have hcz26_1 : wc.cell? ⟨gb133, 1, none⟩ = some (.int .i64 a1_1) := (blk_cell BK133.out 1).trans rfl; have hcz26_2 : wc.cell? ⟨gb133, 2, none⟩ = some (.string a1_2) := (blk_cell BK133.out 2).trans rfl; have hcz26_3 : wc.cell? ⟨gb133, 3, none⟩ = some (.slice A1_3 l1_3.length c1_3) := (blk_cell BK133.out 3).trans rfl; have hfz26_0 := blk_frozen BK133.out 0; have hfz26_1 := blk_frozen BK133.out 1; have hfz26_2 := blk_frozen BK133.out 2; have hfz26_3 := blk_frozen BK133.out 3) | (go_at_call 7; (with_reducible refine (spec_ValueRight.calls kj2 a1_0 a1_1 a1_2 _ _ l1_3 true false _ ?side1 ?side2 A13.out).mono ?_); (case side1 => repeat (first | exact (Kd.V_reads' HO_134003.out).2.2 | (with_reducible refine Kd.C_alloc ?_ _) | (with_reducible refine Kd.C_drewN ?_ _) | (with_reducible refine Kd.C_drew ?_))); (case side2 => exact (Kd.V_reads' HO_134003.out).2.1); rintro e w27 ⟨rfl, hb⟩; have n0_ := Aside0.mk (Kd.V_below (by (with_reducible repeat (first | apply Kd.V_alloc | apply Kd.V_drewN | apply Kd.V_drew)); exact HO_134003.out) hb); have n1_ := Aside0.mk (blk_below (g := gb133) (o := .cells #[.int .i64 a1_0, .int .i64 a1_1, .string a1_2, .slice A1_3 l1_3.length c1_3] 24 (0, 0)) (by (with_reducible repeat (first | refine blk_drewN ?_ _ | refine blk_drew ?_ | refine blk_alloc ?_ _)); exact BK133.out) hb); have n2_ := Aside0.mk (below_step (by repeat (first | (with_reducible first | exact HB.out | apply below_alloc | apply pw_below_drewN | apply below_drew1 | refine below_set ?_ GE133.out) | exact HB.out)) hb); clear HO_134003; clear BK133; clear HB; have HO_134003 := n0_; have BK133 := n1_; have HB := n2_; clear n0_ n1_ n2_; (try clear hb); (try clear hb2); (try clear hk); (try clear hi)))
              go_meet
              case rel => exact ⟨_, (true), (by first | rfl | (simp; done) | (simp [*]; done)), H', ⟨by have := HJ2.out; first | omega | exact Nat.le_refl _⟩, ⟨by (with_reducible repeat (first | apply Kd.V_alloc | apply Kd.V_drewN | apply Kd.V_drew)); exact HO_134003.out⟩, ⟨by (with_reducible repeat (first | refine blk_drewN ?_ _ | refine blk_drew ?_ | refine blk_alloc ?_ _)); exact BK133.out⟩, ⟨by repeat (first | (with_reducible first | exact HB.out | apply below_alloc | apply pw_below_drewN | apply below_drew1 | refine below_set ?_ GE133.out) | exact HB.out)⟩⟩
          · replace c12 := Bool.eq_false_iff.mpr c12
            subst c12
            have H1 : (laws_FnInTwice.j1 kj2 a0 true a1_0 a1_1 a1_2 l1_3) = some r := by rw [if_neg (show ¬ (false = true) by decide)] at H; exact H
            clear H
            have H := H1
            clear H1
            have H' := Aside0.mk H
            clear H
            go_wp2_with (first | ((with_reducible refine gate_callee (f := 6) rfl ?_); refine goesL_ (some 22) rfl rfl Try.func6 (by kernel_rfl) rfl #[.string a0] rfl (by (try simp only [List.map_toArray, List.map_cons, List.map_nil]); first | done | rfl | (simp only [List.length_drop, List.length_take]; rfl)) ?_; (with_reducible refine (spec_NameOnly.calls kj2 a0 false _ A11.out).mono ?_); rintro e w' ⟨rfl, ⟨nd, rfl⟩⟩; refine ⟨_, rfl, ?_⟩))
            go_meet
            case rel => exact ⟨_, (true), (by first | rfl | (simp; done) | (simp [*]; done)), H', ⟨by have := HJ2.out; first | omega | exact Nat.le_refl _⟩, ⟨by (with_reducible repeat (first | apply Kd.V_alloc | apply Kd.V_drewN | apply Kd.V_drew)); exact HO_134003.out⟩, ⟨by (with_reducible repeat (first | refine blk_drewN ?_ _ | refine blk_drew ?_ | refine blk_alloc ?_ _)); exact BK133.out⟩, ⟨by repeat (first | (with_reducible first | exact HB.out | apply below_alloc | apply pw_below_drewN | apply below_drew1 | refine below_set ?_ GE133.out) | exact HB.out)⟩⟩
        case rest =>
          clear HC10
          try clear c1
          try clear p2
          try clear c4
          try clear c5
          try clear c5b0
          try clear c5b1
          try clear c6
          try clear c9
          try clear c12
          try clear c14
          try clear c15
          try clear c15b0
          try clear c15b1
          try clear c16
          try clear c16b0
          try clear c16b1
          try clear c16b2
          try clear hcz17_0
          try clear hcz17_1
          try clear hcz17_2
          try clear hcz17_3
          try clear hcz19_0
          try clear hcz19_1
          try clear hcz19_2
          try clear hcz19_3
          try clear hcz20_0
          try clear hcz20_1
          try clear hcz20_2
          try clear hcz20_3
          try clear hcz22_0
          try clear hcz22_1
          try clear hcz22_2
          try clear hcz22_3
          try clear hcz23_0
          try clear hcz23_1
          try clear hcz23_2
          try clear hcz23_3
          try clear hcz25_0
          try clear hcz25_1
          try clear hcz25_2
          try clear hcz25_3
          try clear hcz26_0
          try clear hcz26_1
          try clear hcz26_2
          try clear hcz26_3
          try clear hcz7_0
          try clear hcz7_1
          try clear hcz7_2
          try clear hcz7_3
          try clear hfz17_0
          try clear hfz17_1
          try clear hfz17_2
          try clear hfz17_3
          try clear hfz19_0
          try clear hfz19_1
          try clear hfz19_2
          try clear hfz19_3
          try clear hfz20_0
          try clear hfz20_1
          try clear hfz20_2
          try clear hfz20_3
          try clear hfz22_0
          try clear hfz22_1
          try clear hfz22_2
          try clear hfz22_3
          try clear hfz23_0
          try clear hfz23_1
          try clear hfz23_2
          try clear hfz23_3
          try clear hfz25_0
          try clear hfz25_1
          try clear hfz25_2
          try clear hfz25_3
          try clear hfz26_0
          try clear hfz26_1
          try clear hfz26_2
          try clear hfz26_3
          try clear hfz7_0
          try clear hfz7_1
          try clear hfz7_2
          try clear hfz7_3
          try clear p2
          obtain ⟨kq, x44_9, rfl, HA, HJ9, HO_134003, BK133, HB⟩ := hcut
          cases kq with
          | zero => exact absurd HA.out (by simp [laws_FnInTwice.j1])
          | succ kj9 =>
            have H := HA.out
            clear HA
            simp only [laws_FnInTwice.j1] at H
            by_cases c28 : x44_9 = true
            · subst c28
              have H1 : (some true) = some r := by rw [if_pos rfl] at H; exact H
              clear H
              have H := H1
              clear H1
              obtain rfl := Option.some.inj H
              go_wp2
              go_ret
              exact ⟨by first | rfl | (simp [errW_none, errW_some] <;> rfl) | (simp [*, errW_none, errW_some] <;> rfl), by repeat (first | (with_reducible first | exact HB.out | apply below_alloc | apply pw_below_drewN | apply below_drew1 | refine below_set ?_ GE133.out) | exact HB.out)⟩
            · replace c28 := Bool.eq_false_iff.mpr c28
              subst c28
              have H1 : ((impl_EqOf.f (([a0] : List ByteArray)) (([(⟨a1_0, a1_1, a1_2, l1_3⟩ : S24)] : List (S24)))).bind fun bt143 => (if a0.size + 7 ≤ 9223372036854775807 then ((impl_Expanded.f (a0 ++ (⟨#[32, 73, 78, 32, 40, 63, 41]⟩ : ByteArray)) (([(⟨a1_0, a1_1, a1_2, l1_3⟩ : S24)] : List (S24)))).bind fun bt151 => (laws_FnInTwice.l0 kj9 bt143.1 bt143.2.1 bt143.2.2 bt151.1 bt151.2.1 bt151.2.2 (⟨#[]⟩ : ByteArray) 0 a1_0 a1_1 a1_2 l1_3)) else (none))) = some r := by rw [if_neg (show ¬ (false = true) by decide)] at H; exact H
              clear H
              have H := H1
              clear H1
              obtain ⟨y137, hy137⟩ : ∃ y_ : List ByteArray, y_ = (([a0] : List ByteArray)) := ⟨_, rfl⟩
              replace H : ((impl_EqOf.f y137 (([(⟨a1_0, a1_1, a1_2, l1_3⟩ : S24)] : List (S24)))).bind fun bt143 => (if a0.size + 7 ≤ 9223372036854775807 then ((impl_Expanded.f (a0 ++ (⟨#[32, 73, 78, 32, 40, 63, 41]⟩ : ByteArray)) (([(⟨a1_0, a1_1, a1_2, l1_3⟩ : S24)] : List (S24)))).bind fun bt151 => (laws_FnInTwice.l0 kj9 bt143.1 bt143.2.1 bt143.2.2 bt151.1 bt151.2.1 bt151.2.2 (⟨#[]⟩ : ByteArray) 0 a1_0 a1_1 a1_2 l1_3)) else (none))) = some r := by first | (rw [hy137]; with_reducible exact H) | (have H2_ := (Option.bind_some _ _).symm.trans H; rw [hy137]; with_reducible exact H2_) | (have H2_ := (Option.bind_some _ _).symm.trans H; with_reducible exact H2_) | with_reducible exact H | (rw [hy137]; exact H) | exact H
              have Ny137 := Aside0.mk hy137
              clear hy137
              obtain ⟨y140, hy140⟩ : ∃ y_ : List (S24), y_ = (([(⟨a1_0, a1_1, a1_2, l1_3⟩ : S24)] : List (S24))) := ⟨_, rfl⟩
              replace H : ((impl_EqOf.f y137 y140).bind fun bt143 => (if a0.size + 7 ≤ 9223372036854775807 then ((impl_Expanded.f (a0 ++ (⟨#[32, 73, 78, 32, 40, 63, 41]⟩ : ByteArray)) (([(⟨a1_0, a1_1, a1_2, l1_3⟩ : S24)] : List (S24)))).bind fun bt151 => (laws_FnInTwice.l0 kj9 bt143.1 bt143.2.1 bt143.2.2 bt151.1 bt151.2.1 bt151.2.2 (⟨#[]⟩ : ByteArray) 0 a1_0 a1_1 a1_2 l1_3)) else (none))) = some r := by first | (rw [hy140]; with_reducible exact H) | (have H2_ := (Option.bind_some _ _).symm.trans H; rw [hy140]; with_reducible exact H2_) | (have H2_ := (Option.bind_some _ _).symm.trans H; with_reducible exact H2_) | with_reducible exact H | (rw [hy140]; exact H) | exact H
              have Ny140 := Aside0.mk hy140
              clear hy140
              replace H := Option.bind_eq_some_iff.mp H
              obtain ⟨⟨t143, t144, t145⟩, A290, H⟩ := H
              replace H : (if a0.size + 7 ≤ 9223372036854775807 then ((impl_Expanded.f (a0 ++ (⟨#[32, 73, 78, 32, 40, 63, 41]⟩ : ByteArray)) (([(⟨a1_0, a1_1, a1_2, l1_3⟩ : S24)] : List (S24)))).bind fun bt151 => (laws_FnInTwice.l0 kj9 t143 t144 t145 bt151.1 bt151.2.1 bt151.2.2 (⟨#[]⟩ : ByteArray) 0 a1_0 a1_1 a1_2 l1_3)) else (none)) = some r := H
              have A29 := Aside0.mk A290
              clear A290
              by_cases c30 : a0.size + 7 ≤ 9223372036854775807
              · rw [if_pos c30] at H
                have c30b0 := eq_true c30
                have c30b1 : decide (a0.size + 7 ≤ 9223372036854775807) = true := decide_eq_true c30
                try have c30b2 : (9223372036854775807 < a0.size + 7) = False := eq_false (Nat.not_lt.2 c30)
                obtain ⟨y148, hy148⟩ : ∃ y_ : List (S24), y_ = (([(⟨a1_0, a1_1, a1_2, l1_3⟩ : S24)] : List (S24))) := ⟨_, rfl⟩
                replace H : ((impl_Expanded.f (a0 ++ (⟨#[32, 73, 78, 32, 40, 63, 41]⟩ : ByteArray)) y148).bind fun bt151 => (laws_FnInTwice.l0 kj9 t143 t144 t145 bt151.1 bt151.2.1 bt151.2.2 (⟨#[]⟩ : ByteArray) 0 a1_0 a1_1 a1_2 l1_3)) = some r := by first | (rw [hy148]; with_reducible exact H) | (have H2_ := (Option.bind_some _ _).symm.trans H; rw [hy148]; with_reducible exact H2_) | (have H2_ := (Option.bind_some _ _).symm.trans H; with_reducible exact H2_) | with_reducible exact H | (rw [hy148]; exact H) | exact H
                have Ny148 := Aside0.mk hy148
                clear hy148
                replace H := Option.bind_eq_some_iff.mp H
                obtain ⟨⟨t151, t152, t153⟩, A310, H⟩ := H
                replace H : (laws_FnInTwice.l0 kj9 t143 t144 t145 t151 t152 t153 (⟨#[]⟩ : ByteArray) 0 a1_0 a1_1 a1_2 l1_3) = some r := H
                have A31 := Aside0.mk A310
                clear A310
                have H' := Aside0.mk H
                clear H
                go_wp2_with (first | ((with_reducible refine gate_dst (N := 47) rfl ?_); (try (refine gate_guard (by rfl) ?_; dsimp only)); refine Kd.R_lit Kd.string _ 9 ?hg (N := 47) ?hd (xs := ([a0] : List ByteArray)) (inner := [.string a0]) (ok := fun _ => True) (okp := fun _ => True) ?hr ?hp (fun _ hk => hk) trivial (Below.refl _ _) (Nat.le_refl _) (by simp) ?_; (case hd => rfl); (case hg => rfl); (case hr => first | (go_simp; done) | (go_simp; rfl)); (case hp => exact (Reps.one (show Kd.M Kd.string _ _ _ a0 [.string a0] from rfl) (Reps.none _ _))); intro v138 w32 ho33 hb hg_ hnew_; clear hg_ hnew_; (first | rw [← Ny137.out] at ho33 | (simp only [Int.reduceToNat] at ho33; rw [← Ny137.out] at ho33)); have n0_ := Aside0.mk (Kd.V_elder' (by (with_reducible repeat (first | apply Kd.V_alloc | apply Kd.V_drewN | apply Kd.V_drew)); exact HO_134003.out) (Kd.R_base ho33) hb); have n1_ := Aside0.mk (Kd.R_lower (Kd.R_newM (M := fun k_ => (w.heap.size ≤ k_)) ho33 (below_size (by repeat (first | (with_reducible first | exact HB.out | apply below_alloc | apply pw_below_drewN | apply below_drew1 | refine below_set ?_ GE133.out) | exact HB.out))) (fun k_ h_ => h_)) (below_size (by repeat (first | (with_reducible first | exact HB.out | apply below_alloc | apply pw_below_drewN | apply below_drew1 | refine below_set ?_ GE133.out) | exact HB.out)))); have n2_ := Aside0.mk (blk_below (g := gb133) (o := .cells #[.int .i64 a1_0, .int .i64 a1_1, .string a1_2, .slice A1_3 l1_3.length c1_3] 24 (0, 0)) (by (with_reducible repeat (first | refine blk_drewN ?_ _ | refine blk_drew ?_ | refine blk_alloc ?_ _)); exact BK133.out) hb); have n3_ := Aside0.mk (below_step (by repeat (first | (with_reducible first | exact HB.out | apply below_alloc | apply pw_below_drewN | apply below_drew1 | refine below_set ?_ GE133.out) | exact HB.out)) hb); clear HO_134003; clear BK133; clear HB; have HO_134003 := n0_; have HO139 := n1_; have BK133 := n2_; have HB := n3_; clear n0_ n1_ n2_ n3_; clear hb ho33; have hcz34_0 : w32.cell? ⟨gb133, 0, none⟩ = some (.int .i64 a1_0) := (blk_cell BK133.out 0).trans rfl; have hcz34_1 : w32.cell? ⟨gb133, 1, none⟩ = some (.int .i64 a1_1) := (blk_cell BK133.out 1).trans rfl; have hcz34_2 : w32.cell? ⟨gb133, 2, none⟩ = some (.string a1_2) := (blk_cell BK133.out 2).trans rfl; have hcz34_3 : w32.cell? ⟨gb133, 3, none⟩ = some (.slice A1_3 l1_3.length c1_3) := (blk_cell BK133.out 3).trans rfl; have hfz34_0 := blk_frozen BK133.out 0; have hfz34_1 := blk_frozen BK133.out 1; have hfz34_2 := blk_frozen BK133.out 2; have hfz34_3 := blk_frozen BK133.out 3) | ((with_reducible refine gate_dst (N := 49) rfl ?_); (try (refine gate_guard (by rfl) ?_; dsimp only)); refine Kd.N_lit k24 _ 24 ?hg (N' := 49) ?hd (xs := ([(⟨a1_0, a1_1, a1_2, l1_3⟩ : S24)] : List (S24))) (inner := [.int .i64 a1_0, .int .i64 a1_1, .string a1_2, .slice A1_3 l1_3.length c1_3]) (ok := (fun k_ => (P1_3_ k_ ∨ w.heap.size ≤ k_) ∧ some k_ ≠ (v138 : Value).ownBlock ∧ k_ ≠ gb133)) (okp := (fun k_ => (P1_3_ k_ ∨ w.heap.size ≤ k_) ∧ some k_ ≠ (v138 : Value).ownBlock ∧ k_ ≠ gb133)) ?hr ?hp (fun _ hk => hk) ((show ∀ k_, w32.heap.size ≤ k_ → (fun k_ => (P1_3_ k_ ∨ w.heap.size ≤ k_) ∧ some k_ ≠ (v138 : Value).ownBlock ∧ k_ ≠ gb133) k_ from fun k_ hk => ⟨(.inr (Nat.le_trans (below_size (by repeat (first | (with_reducible first | exact HB.out | apply below_alloc | apply pw_below_drewN | apply below_drew1 | refine below_set ?_ GE133.out) | exact HB.out))) hk)), Kd.fresh' (Kd.R_lt (by (with_reducible repeat (first | apply Kd.R_alloc | apply Kd.R_drewN | apply Kd.R_drew)); exact HO139.out)) k_ hk, Kd.freshB (g := gb133) (o := .cells #[.int .i64 a1_0, .int .i64 a1_1, .string a1_2, .slice A1_3 l1_3.length c1_3] 24 (0, 0)) (by (with_reducible repeat (first | refine blk_drewN ?_ _ | refine blk_drew ?_ | refine blk_alloc ?_ _)); exact BK133.out) k_ hk⟩) _ (Nat.le_refl _)) (Below.refl _ _) (Nat.le_refl _) (by simp) ?_; (case hd => rfl); (case hg => rfl); (case hr => first | (go_simp; done) | (go_simp; rfl)); (case hp => exact (Reps.c4 (show Kd.FK k24 _ _ (⟨a1_0, a1_1, a1_2, l1_3⟩ : S24) [.int .i64 a1_0, .int .i64 a1_1, .string a1_2, .slice A1_3 l1_3.length c1_3] from (k24_mkF _ _ (⟨a1_0, a1_1, a1_2, l1_3⟩ : S24) (Kd.V_reads' (Kd.V_mono (ok' := (fun k_ => (P1_3_ k_ ∨ w.heap.size ≤ k_) ∧ some k_ ≠ (v138 : Value).ownBlock ∧ k_ ≠ gb133)) (HO_134003.out) (fun k_ hk => ⟨hk.1.1, ⟨hk.2, hk.1.2⟩⟩))).2.1 (Kd.V_F (Kd.V_mono (ok' := (fun k_ => (P1_3_ k_ ∨ w.heap.size ≤ k_) ∧ some k_ ≠ (v138 : Value).ownBlock ∧ k_ ≠ gb133)) (HO_134003.out) (fun k_ hk => ⟨hk.1.1, ⟨hk.2, hk.1.2⟩⟩))))) (Reps.none _ _))); intro v141 w35 ho36 hb hg_ hnew_; clear hg_ hnew_; (first | rw [← Ny140.out] at ho36 | (simp only [Int.reduceToNat] at ho36; rw [← Ny140.out] at ho36)); have n0_ := Aside0.mk (Kd.V_elder' (by (with_reducible repeat (first | apply Kd.V_alloc | apply Kd.V_drewN | apply Kd.V_drew)); exact HO_134003.out) (Kd.N_base ho36) hb); have n1_ := Aside0.mk (Kd.R_below (by (with_reducible repeat (first | apply Kd.R_alloc | apply Kd.R_drewN | apply Kd.R_drew)); exact HO139.out) hb); have n2_ := Aside0.mk (Kd.N_lower ho36 (below_size (by repeat (first | (with_reducible first | exact HB.out | apply below_alloc | apply pw_below_drewN | apply below_drew1 | refine below_set ?_ GE133.out) | exact HB.out)))); have n3_ := Aside0.mk (blk_below (g := gb133) (o := .cells #[.int .i64 a1_0, .int .i64 a1_1, .string a1_2, .slice A1_3 l1_3.length c1_3] 24 (0, 0)) (by (with_reducible repeat (first | refine blk_drewN ?_ _ | refine blk_drew ?_ | refine blk_alloc ?_ _)); exact BK133.out) hb); have n4_ := Aside0.mk (below_step (by repeat (first | (with_reducible first | exact HB.out | apply below_alloc | apply pw_below_drewN | apply below_drew1 | refine below_set ?_ GE133.out) | exact HB.out)) hb); clear HO_134003; clear HO139; clear BK133; clear HB; have HO_134003 := n0_; have HO139 := n1_; have HO142 := n2_; have BK133 := n3_; have HB := n4_; clear n0_ n1_ n2_ n3_ n4_; clear hb ho36; obtain ⟨Ao37, co37, eo37⟩ := Kd.R_slice HO139.out; subst eo37; obtain ⟨Ao38, co38, eo38⟩ := Kd.N_slice HO142.out; subst eo38) | ((with_reducible refine gate_callee (f := 8) rfl ?_); refine goesL_ (some 50) rfl rfl Try.func8 (by kernel_rfl) rfl #[.slice Ao37 y137.length co37, .slice Ao38 y140.length co38] rfl (by (try simp only [List.map_toArray, List.map_cons, List.map_nil]); first | done | rfl | (simp only [List.length_drop, List.length_take]; rfl)) ?_; (with_reducible refine (impl_EqOf.calls _ _ y137 _ _ y140 t143 t144 t145 _ ?side1 ?side2 ?side3 ?side4 A29.out).mono ?_); (case side1 => repeat (first | exact (Kd.R_reads' HO139.out).2.2 | (with_reducible refine Kd.C_alloc ?_ _) | (with_reducible refine Kd.C_drewN ?_ _) | (with_reducible refine Kd.C_drew ?_))); (case side2 => exact (Kd.R_reads' HO139.out).2.1); (case side3 => repeat (first | exact (Kd.N_reads' HO142.out).2.2 | (with_reducible refine Kd.C_alloc ?_ _) | (with_reducible refine Kd.C_drewN ?_ _) | (with_reducible refine Kd.C_drew ?_))); (case side4 => exact (Kd.N_reads' HO142.out).2.1); rintro e w39 ⟨v146, rfl, ho0, hb⟩; refine ⟨_, rfl, ?_⟩; have n0_ := Aside0.mk (Kd.V_elder' (by (with_reducible repeat (first | apply Kd.V_alloc | apply Kd.V_drewN | apply Kd.V_drew)); exact HO_134003.out) (Kd.N_base (Kd.R_N ho0)) hb); have n1_ := Aside0.mk (Kd.R_below (by (with_reducible repeat (first | apply Kd.R_alloc | apply Kd.R_drewN | apply Kd.R_drew)); exact HO139.out) hb); have n2_ := Aside0.mk (Kd.N_elder' (by (with_reducible repeat (first | apply Kd.N_alloc | apply Kd.N_drewN | apply Kd.N_drew)); exact HO142.out) (Kd.N_base (Kd.R_N ho0)) hb); have n3_ := Aside0.mk (Kd.N_lower (Kd.N_mono (ok' := fun k_ => (P1_3_ k_ ∨ w.heap.size ≤ k_) ∧ some k_ ≠ (.slice Ao37 y137.length co37 : Value).ownBlock ∧ some k_ ≠ (.slice Ao38 y140.length co38 : Value).ownBlock ∧ k_ ≠ gb133) (Kd.R_N (Kd.R_bound ho0)) (fun k_ hk_ => ⟨(.inr (Nat.le_trans (below_size (by repeat (first | (with_reducible first | exact HB.out | apply below_alloc | apply pw_below_drewN | apply below_drew1 | refine below_set ?_ GE133.out) | exact HB.out))) hk_.2.1)), (Kd.fresh' (Kd.R_lt (by (with_reducible repeat (first | apply Kd.R_alloc | apply Kd.R_drewN | apply Kd.R_drew)); exact HO139.out)) k_ hk_.2.1), (Kd.fresh' (Kd.N_lt (by (with_reducible repeat (first | apply Kd.N_alloc | apply Kd.N_drewN | apply Kd.N_drew)); exact HO142.out)) k_ hk_.2.1), (Kd.freshB (g := gb133) (o := .cells #[.int .i64 a1_0, .int .i64 a1_1, .string a1_2, .slice A1_3 l1_3.length c1_3] 24 (0, 0)) (by (with_reducible repeat (first | refine blk_drewN ?_ _ | refine blk_drew ?_ | refine blk_alloc ?_ _)); exact BK133.out) k_ hk_.2.1)⟩)) (below_size (by repeat (first | (with_reducible first | exact HB.out | apply below_alloc | apply pw_below_drewN | apply below_drew1 | refine below_set ?_ GE133.out) | exact HB.out)))); have n4_ := Aside0.mk (blk_below (g := gb133) (o := .cells #[.int .i64 a1_0, .int .i64 a1_1, .string a1_2, .slice A1_3 l1_3.length c1_3] 24 (0, 0)) (by (with_reducible repeat (first | refine blk_drewN ?_ _ | refine blk_drew ?_ | refine blk_alloc ?_ _)); exact BK133.out) hb); have n5_ := Aside0.mk (below_step (by repeat (first | (with_reducible first | exact HB.out | apply below_alloc | apply pw_below_drewN | apply below_drew1 | refine below_set ?_ GE133.out) | exact HB.out)) hb); clear HO_134003; clear HO139; clear HO142; clear BK133; clear HB; have HO_134003 := n0_; have HO139 := n1_; have HO142 := n2_; have HO147 := n3_; have BK133 := n4_; have HB := n5_; clear n0_ n1_ n2_ n3_ n4_ n5_; (try clear hb); (try clear hb2); (try clear hk); (try clear hi); (try clear ho0); have hcz40_0 : w39.cell? ⟨gb133, 0, none⟩ = some (.int .i64 a1_0) := (blk_cell BK133.out 0).trans rfl; have hcz40_1 : w39.cell? ⟨gb133, 1, none⟩ = some (.int .i64 a1_1) := (blk_cell BK133.out 1).trans rfl; have hcz40_2 : w39.cell? ⟨gb133, 2, none⟩ = some (.string a1_2) := (blk_cell BK133.out 2).trans rfl; have hcz40_3 : w39.cell? ⟨gb133, 3, none⟩ = some (.slice A1_3 l1_3.length c1_3) := (blk_cell BK133.out 3).trans rfl; have hfz40_0 := blk_frozen BK133.out 0; have hfz40_1 := blk_frozen BK133.out 1; have hfz40_2 := blk_frozen BK133.out 2; have hfz40_3 := blk_frozen BK133.out 3) | ((with_reducible refine gate_dst (N := 58) rfl ?_); (try (refine gate_guard (by rfl) ?_; dsimp only)); refine Kd.N_lit k24 _ 24 ?hg (N' := 58) ?hd (xs := ([(⟨a1_0, a1_1, a1_2, l1_3⟩ : S24)] : List (S24))) (inner := [.int .i64 a1_0, .int .i64 a1_1, .string a1_2, .slice A1_3 l1_3.length c1_3]) (ok := (fun k_ => (P1_3_ k_ ∨ w.heap.size ≤ k_) ∧ some k_ ≠ (.slice Ao37 y137.length co37 : Value).ownBlock ∧ some k_ ≠ (.slice Ao38 y140.length co38 : Value).ownBlock ∧ some k_ ≠ (v146 : Value).ownBlock ∧ k_ ≠ gb133)) (okp := (fun k_ => (P1_3_ k_ ∨ w.heap.size ≤ k_) ∧ some k_ ≠ (.slice Ao37 y137.length co37 : Value).ownBlock ∧ some k_ ≠ (.slice Ao38 y140.length co38 : Value).ownBlock ∧ some k_ ≠ (v146 : Value).ownBlock ∧ k_ ≠ gb133)) ?hr ?hp (fun _ hk => hk) ((show ∀ k_, w39.heap.size ≤ k_ → (fun k_ => (P1_3_ k_ ∨ w.heap.size ≤ k_) ∧ some k_ ≠ (.slice Ao37 y137.length co37 : Value).ownBlock ∧ some k_ ≠ (.slice Ao38 y140.length co38 : Value).ownBlock ∧ some k_ ≠ (v146 : Value).ownBlock ∧ k_ ≠ gb133) k_ from fun k_ hk => ⟨(.inr (Nat.le_trans (below_size (by repeat (first | (with_reducible first | exact HB.out | apply below_alloc | apply pw_below_drewN | apply below_drew1 | refine below_set ?_ GE133.out) | exact HB.out))) hk)), Kd.fresh' (Kd.R_lt (by (with_reducible repeat (first | apply Kd.R_alloc | apply Kd.R_drewN | apply Kd.R_drew)); exact HO139.out)) k_ hk, Kd.fresh' (Kd.N_lt (by (with_reducible repeat (first | apply Kd.N_alloc | apply Kd.N_drewN | apply Kd.N_drew)); exact HO142.out)) k_ hk, Kd.fresh' (Kd.N_lt (by (with_reducible repeat (first | apply Kd.N_alloc | apply Kd.N_drewN | apply Kd.N_drew)); exact HO147.out)) k_ hk, Kd.freshB (g := gb133) (o := .cells #[.int .i64 a1_0, .int .i64 a1_1, .string a1_2, .slice A1_3 l1_3.length c1_3] 24 (0, 0)) (by (with_reducible repeat (first | refine blk_drewN ?_ _ | refine blk_drew ?_ | refine blk_alloc ?_ _)); exact BK133.out) k_ hk⟩) _ (Nat.le_refl _)) (Below.refl _ _) (Nat.le_refl _) (by simp) ?_; (case hd => rfl); (case hg => rfl); (case hr => first | (go_simp; done) | (go_simp; rfl)); (case hp => exact (Reps.c4 (show Kd.FK k24 _ _ (⟨a1_0, a1_1, a1_2, l1_3⟩ : S24) [.int .i64 a1_0, .int .i64 a1_1, .string a1_2, .slice A1_3 l1_3.length c1_3] from (k24_mkF _ _ (⟨a1_0, a1_1, a1_2, l1_3⟩ : S24) (Kd.V_reads' (Kd.V_mono (ok' := (fun k_ => (P1_3_ k_ ∨ w.heap.size ≤ k_) ∧ some k_ ≠ (.slice Ao37 y137.length co37 : Value).ownBlock ∧ some k_ ≠ (.slice Ao38 y140.length co38 : Value).ownBlock ∧ some k_ ≠ (v146 : Value).ownBlock ∧ k_ ≠ gb133)) (HO_134003.out) (fun k_ hk => ⟨hk.1.1.1.1, ⟨hk.1.1.2, ⟨hk.1.2, ⟨hk.2, hk.1.1.1.2⟩⟩⟩⟩))).2.1 (Kd.V_F (Kd.V_mono (ok' := (fun k_ => (P1_3_ k_ ∨ w.heap.size ≤ k_) ∧ some k_ ≠ (.slice Ao37 y137.length co37 : Value).ownBlock ∧ some k_ ≠ (.slice Ao38 y140.length co38 : Value).ownBlock ∧ some k_ ≠ (v146 : Value).ownBlock ∧ k_ ≠ gb133)) (HO_134003.out) (fun k_ hk => ⟨hk.1.1.1.1, ⟨hk.1.1.2, ⟨hk.1.2, ⟨hk.2, hk.1.1.1.2⟩⟩⟩⟩))))) (Reps.none _ _))); intro v149 w41 ho42 hb hg_ hnew_; clear hg_ hnew_; (first | rw [← Ny148.out] at ho42 | (simp only [Int.reduceToNat] at ho42; rw [← Ny148.out] at ho42)); have n0_ := Aside0.mk (Kd.V_elder' (by (with_reducible repeat (first | apply Kd.V_alloc | apply Kd.V_drewN | apply Kd.V_drew)); exact HO_134003.out) (Kd.N_base ho42) hb); have n1_ := Aside0.mk (Kd.R_below (by (with_reducible repeat (first | apply Kd.R_alloc | apply Kd.R_drewN | apply Kd.R_drew)); exact HO139.out) hb); have n2_ := Aside0.mk (Kd.N_elder' (by (with_reducible repeat (first | apply Kd.N_alloc | apply Kd.N_drewN | apply Kd.N_drew)); exact HO142.out) (Kd.N_base ho42) hb); have n3_ := Aside0.mk (Kd.N_elder' (by (with_reducible repeat (first | apply Kd.N_alloc | apply Kd.N_drewN | apply Kd.N_drew)); exact HO147.out) (Kd.N_base ho42) hb); have n4_ := Aside0.mk (Kd.N_lower ho42 (below_size (by repeat (first | (with_reducible first | exact HB.out | apply below_alloc | apply pw_below_drewN | apply below_drew1 | refine below_set ?_ GE133.out) | exact HB.out)))); have n5_ := Aside0.mk (blk_below (g := gb133) (o := .cells #[.int .i64 a1_0, .int .i64 a1_1, .string a1_2, .slice A1_3 l1_3.length c1_3] 24 (0, 0)) (by (with_reducible repeat (first | refine blk_drewN ?_ _ | refine blk_drew ?_ | refine blk_alloc ?_ _)); exact BK133.out) hb); have n6_ := Aside0.mk (below_step (by repeat (first | (with_reducible first | exact HB.out | apply below_alloc | apply pw_below_drewN | apply below_drew1 | refine below_set ?_ GE133.out) | exact HB.out)) hb); clear HO_134003; clear HO139; clear HO142; clear HO147; clear BK133; clear HB; have HO_134003 := n0_; have HO139 := n1_; have HO142 := n2_; have HO147 := n3_; have HO150 := n4_; have BK133 := n5_; have HB := n6_; clear n0_ n1_ n2_ n3_ n4_ n5_ n6_; clear hb ho42; obtain ⟨Ao43, co43, eo43⟩ := Kd.N_slice HO150.out; subst eo43) | ((with_reducible refine gate_callee (f := 11) rfl ?_); refine goesL_ (some 59) rfl rfl Try.func11 (by kernel_rfl) rfl #[.string (a0 ++ (⟨#[32, 73, 78, 32, 40, 63, 41]⟩ : ByteArray)), .slice Ao43 y148.length co43] rfl (by (try simp only [List.map_toArray, List.map_cons, List.map_nil]); first | done | rfl | (simp only [List.length_drop, List.length_take]; rfl)) ?_; (with_reducible refine (impl_Expanded.calls (a0 ++ (⟨#[32, 73, 78, 32, 40, 63, 41]⟩ : ByteArray)) _ _ y148 t151 t152 t153 _ ?side1 ?side2 A31.out).mono ?_); (case side1 => repeat (first | exact (Kd.N_reads' HO150.out).2.2 | (with_reducible refine Kd.C_alloc ?_ _) | (with_reducible refine Kd.C_drewN ?_ _) | (with_reducible refine Kd.C_drew ?_))); (case side2 => exact (Kd.N_reads' HO150.out).2.1); rintro e w44 ⟨v154, rfl, ho0, hb⟩; refine ⟨_, rfl, ?_⟩; have n0_ := Aside0.mk (Kd.V_elder' (by (with_reducible repeat (first | apply Kd.V_alloc | apply Kd.V_drewN | apply Kd.V_drew)); exact HO_134003.out) (Kd.N_base (Kd.R_N ho0)) hb); have n1_ := Aside0.mk (Kd.R_below (by (with_reducible repeat (first | apply Kd.R_alloc | apply Kd.R_drewN | apply Kd.R_drew)); exact HO139.out) hb); have n2_ := Aside0.mk (Kd.N_elder' (by (with_reducible repeat (first | apply Kd.N_alloc | apply Kd.N_drewN | apply Kd.N_drew)); exact HO142.out) (Kd.N_base (Kd.R_N ho0)) hb); have n3_ := Aside0.mk (Kd.N_elder' (by (with_reducible repeat (first | apply Kd.N_alloc | apply Kd.N_drewN | apply Kd.N_drew)); exact HO147.out) (Kd.N_base (Kd.R_N ho0)) hb); have n4_ := Aside0.mk (Kd.N_elder' (by (with_reducible repeat (first | apply Kd.N_alloc | apply Kd.N_drewN | apply Kd.N_drew)); exact HO150.out) (Kd.N_base (Kd.R_N ho0)) hb); have n5_ := Aside0.mk (Kd.N_lower (Kd.N_mono (ok' := fun k_ => (P1_3_ k_ ∨ w.heap.size ≤ k_) ∧ some k_ ≠ (.slice Ao37 y137.length co37 : Value).ownBlock ∧ some k_ ≠ (.slice Ao38 y140.length co38 : Value).ownBlock ∧ some k_ ≠ (v146 : Value).ownBlock ∧ some k_ ≠ (.slice Ao43 y148.length co43 : Value).ownBlock ∧ k_ ≠ gb133) (Kd.R_N (Kd.R_bound ho0)) (fun k_ hk_ => ⟨(.inr (Nat.le_trans (below_size (by repeat (first | (with_reducible first | exact HB.out | apply below_alloc | apply pw_below_drewN | apply below_drew1 | refine below_set ?_ GE133.out) | exact HB.out))) hk_.2.1)), (Kd.fresh' (Kd.R_lt (by (with_reducible repeat (first | apply Kd.R_alloc | apply Kd.R_drewN | apply Kd.R_drew)); exact HO139.out)) k_ hk_.2.1), (Kd.fresh' (Kd.N_lt (by (with_reducible repeat (first | apply Kd.N_alloc | apply Kd.N_drewN | apply Kd.N_drew)); exact HO142.out)) k_ hk_.2.1), (Kd.fresh' (Kd.N_lt (by (with_reducible repeat (first | apply Kd.N_alloc | apply Kd.N_drewN | apply Kd.N_drew)); exact HO147.out)) k_ hk_.2.1), (Kd.fresh' (Kd.N_lt (by (with_reducible repeat (first | apply Kd.N_alloc | apply Kd.N_drewN | apply Kd.N_drew)); exact HO150.out)) k_ hk_.2.1), (Kd.freshB (g := gb133) (o := .cells #[.int .i64 a1_0, .int .i64 a1_1, .string a1_2, .slice A1_3 l1_3.length c1_3] 24 (0, 0)) (by (with_reducible repeat (first | refine blk_drewN ?_ _ | refine blk_drew ?_ | refine blk_alloc ?_ _)); exact BK133.out) k_ hk_.2.1)⟩)) (below_size (by repeat (first | (with_reducible first | exact HB.out | apply below_alloc | apply pw_below_drewN | apply below_drew1 | refine below_set ?_ GE133.out) | exact HB.out)))); have n6_ := Aside0.mk (blk_below (g := gb133) (o := .cells #[.int .i64 a1_0, .int .i64 a1_1, .string a1_2, .slice A1_3 l1_3.length c1_3] 24 (0, 0)) (by (with_reducible repeat (first | refine blk_drewN ?_ _ | refine blk_drew ?_ | refine blk_alloc ?_ _)); exact BK133.out) hb); have n7_ := Aside0.mk (below_step (by repeat (first | (with_reducible first | exact HB.out | apply below_alloc | apply pw_below_drewN | apply below_drew1 | refine below_set ?_ GE133.out) | exact HB.out)) hb); clear HO_134003; clear HO139; clear HO142; clear HO147; clear HO150; clear BK133; clear HB; have HO_134003 := n0_; have HO139 := n1_; have HO142 := n2_; have HO147 := n3_; have HO150 := n4_; have HO155 := n5_; have BK133 := n6_; have HB := n7_; clear n0_ n1_ n2_ n3_ n4_ n5_ n6_ n7_; (try clear hb); (try clear hb2); (try clear hk); (try clear hi); (try clear ho0)))
                go_loopg [11, 12] kj9 (fun kq v11 v12 w' => ∃ (x11_3 : ByteArray) (x12_3 : Int), v11 = .string x11_3 ∧ v12 = .int .i64 x12_3 ∧ Aside0 (laws_FnInTwice.l0 kq t143 t144 t145 t151 t152 t153 x11_3 x12_3 a1_0 a1_1 a1_2 l1_3 = some r) ∧ Aside0 (kq ≤ kj9) ∧ Aside0 (Kd.N k24 24 w' w.heap.size (fun k_ => (P1_3_ k_ ∨ w.heap.size ≤ k_) ∧ some k_ ≠ (v154 : Value).ownBlock ∧ k_ ≠ gb133) v146 t144) ∧ Aside0 (Kd.N k24 24 w' w.heap.size (fun k_ => (P1_3_ k_ ∨ w.heap.size ≤ k_) ∧ some k_ ≠ (v146 : Value).ownBlock ∧ k_ ≠ gb133) v154 t152) ∧ Aside0 (Kd.V k24 24 w' w.heap.size (fun k_ => (P1_3_ k_ ∨ w.heap.size ≤ k_) ∧ some k_ ≠ (v146 : Value).ownBlock ∧ some k_ ≠ (v154 : Value).ownBlock ∧ k_ ≠ gb133) (.slice A1_3 l1_3.length c1_3) l1_3) ∧ Aside0 (w'.heap[gb133]? = some (.cells #[.int .i64 a1_0, .int .i64 a1_1, .string a1_2, (.slice A1_3 l1_3.length c1_3)] 24 (0, 0))) ∧ Aside0 (Below w.heap.size w w'))
                case atStart => exact ⟨((⟨#[]⟩ : ByteArray)), (0), (by first | rfl | (simp; done) | (simp [*]; done)), (by first | rfl | (simp; done) | (simp [*]; done)), H', ⟨Nat.le_refl _⟩, ⟨by (with_reducible repeat (first | apply Kd.N_alloc | apply Kd.N_drewN | apply Kd.N_drew)); exact Kd.N_mono HO147.out (fun _ hk => ⟨hk.1.1.1, ⟨hk.2, hk.1.1.2.2.2⟩⟩)⟩, ⟨by (with_reducible repeat (first | apply Kd.N_alloc | apply Kd.N_drewN | apply Kd.N_drew)); exact Kd.N_mono HO155.out (fun _ hk => ⟨hk.1, ⟨hk.2.2.2.1, hk.2.2.2.2.2⟩⟩)⟩, ⟨by (with_reducible repeat (first | apply Kd.V_alloc | apply Kd.V_drewN | apply Kd.V_drew)); exact Kd.V_mono HO_134003.out (fun _ hk => ⟨hk.1.1.1.1.1.1, ⟨hk.1.1.2, ⟨hk.2, hk.1.1.1.1.1.2⟩⟩⟩)⟩, ⟨by (with_reducible repeat (first | refine blk_drewN ?_ _ | refine blk_drew ?_ | refine blk_alloc ?_ _)); exact BK133.out⟩, ⟨by repeat (first | (with_reducible first | exact HB.out | apply below_alloc | apply pw_below_drewN | apply below_drew1 | refine below_set ?_ GE133.out) | exact HB.out)⟩⟩
                case round =>
                  clear H'
                  try clear c1
                  try clear c2
                  try clear p2
                  try clear c3
                  try clear c4
                  try clear c5
                  try clear c5b0
                  try clear c5b1
                  try clear c6
                  try clear c8
                  try clear c9
                  try clear c11
                  try clear c12
                  try clear c14
                  try clear c15
                  try clear c15b0
                  try clear c15b1
                  try clear c16
                  try clear c16b0
                  try clear c16b1
                  try clear c16b2
                  try clear c28
                  try clear c30
                  try clear c30b0
                  try clear c30b1
                  try clear c30b2
                  try clear hcz17_0
                  try clear hcz17_1
                  try clear hcz17_2
                  try clear hcz17_3
                  try clear hcz19_0
                  try clear hcz19_1
                  try clear hcz19_2
                  try clear hcz19_3
                  try clear hcz20_0
                  try clear hcz20_1
                  try clear hcz20_2
                  try clear hcz20_3
                  try clear hcz22_0
                  try clear hcz22_1
                  try clear hcz22_2
                  try clear hcz22_3
                  try clear hcz23_0
                  try clear hcz23_1
                  try clear hcz23_2
                  try clear hcz23_3
                  try clear hcz25_0
                  try clear hcz25_1
                  try clear hcz25_2
                  try clear hcz25_3
                  try clear hcz26_0
                  try clear hcz26_1
                  try clear hcz26_2
                  try clear hcz26_3
                  try clear hcz34_0
                  try clear hcz34_1
                  try clear hcz34_2
                  try clear hcz34_3
                  try clear hcz40_0
                  try clear hcz40_1
                  try clear hcz40_2
                  try clear hcz40_3
                  try clear hcz7_0
                  try clear hcz7_1
                  try clear hcz7_2
                  try clear hcz7_3
                  try clear hfz17_0
                  try clear hfz17_1
                  try clear hfz17_2
                  try clear hfz17_3
                  try clear hfz19_0
                  try clear hfz19_1
                  try clear hfz19_2
                  try clear hfz19_3
                  try clear hfz20_0
                  try clear hfz20_1
                  try clear hfz20_2
                  try clear hfz20_3
                  try clear hfz22_0
                  try clear hfz22_1
                  try clear hfz22_2
                  try clear hfz22_3
                  try clear hfz23_0
                  try clear hfz23_1
                  try clear hfz23_2
                  try clear hfz23_3
                  try clear hfz25_0
                  try clear hfz25_1
                  try clear hfz25_2
                  try clear hfz25_3
                  try clear hfz26_0
                  try clear hfz26_1
                  try clear hfz26_2
                  try clear hfz26_3
                  try clear hfz34_0
                  try clear hfz34_1
                  try clear hfz34_2
                  try clear hfz34_3
                  try clear hfz40_0
                  try clear hfz40_1
                  try clear hfz40_2
                  try clear hfz40_3
                  try clear hfz7_0
                  try clear hfz7_1
                  try clear hfz7_2
                  try clear hfz7_3
                  try clear p2
                  obtain ⟨x11_3, x12_3, rfl, rfl, HA, HK3, HO_6, HO_9, HO_134003, BK133, HB⟩ := hrel
                  cases gk with
                  | zero => exact absurd HA.out (by simp [laws_FnInTwice.l0])
                  | succ k3 =>
                    have H := HA.out
                    clear HA
                    simp only [laws_FnInTwice.l0] at H
                    by_cases c45 : x12_3 < (t151.size : Int)
                    · rw [if_pos c45] at H
                      have c45b0 : decide (x12_3 < (t151.size : Int)) = true := decide_eq_true c45
                      clear c45
                      have HC46 := Aside0.mk H
                      clear H
                      go_upto_region 11 with (fail)
                      go_cut [83] (fun v83 wc => ∃ (kq : Nat) (x83_45 : Bool), v83 = .bool x83_45 ∧ Aside0 (laws_FnInTwice.j3 kq t143 t144 t145 t151 t152 t153 x11_3 x12_3 x83_45 a1_0 a1_1 a1_2 l1_3 = some r) ∧ Aside0 (kq ≤ k3) ∧ Aside0 (Kd.N k24 24 wc w.heap.size (fun k_ => (P1_3_ k_ ∨ w.heap.size ≤ k_) ∧ some k_ ≠ (v154 : Value).ownBlock ∧ k_ ≠ gb133) v146 t144) ∧ Aside0 (Kd.N k24 24 wc w.heap.size (fun k_ => (P1_3_ k_ ∨ w.heap.size ≤ k_) ∧ some k_ ≠ (v146 : Value).ownBlock ∧ k_ ≠ gb133) v154 t152) ∧ Aside0 (Kd.V k24 24 wc w.heap.size (fun k_ => (P1_3_ k_ ∨ w.heap.size ≤ k_) ∧ some k_ ≠ (v146 : Value).ownBlock ∧ some k_ ≠ (v154 : Value).ownBlock ∧ k_ ≠ gb133) (.slice A1_3 l1_3.length c1_3) l1_3) ∧ Aside0 (wc.heap[gb133]? = some (.cells #[.int .i64 a1_0, .int .i64 a1_1, .string a1_2, (.slice A1_3 l1_3.length c1_3)] 24 (0, 0))) ∧ Aside0 (Below w.heap.size w wc))
                      case first =>
                        have H := HC46.out
                        clear HC46
                        by_cases c47 : 0 ≤ x12_3
                        · rw [if_pos c47] at H
                          have c47b0 : decide (0 ≤ x12_3) = true := decide_eq_true c47
                          clear c47
                          (first | rw [c47b0] | (simp only [i64_w, i32_w]; rw [c47b0]) | skip)
                          by_cases c49 : (bt t151 x12_3) = 32
                          · rw [if_pos c49] at H
                            have c49b0 : ((bt t151 x12_3) == 32) = true := beq_iff_eq.mpr c49
                            have c49b1 : ((bt t151 x12_3) != 32) = false := bne_eq_false_iff_eq.mpr c49
                            clear c49
                            by_cases c50 : x12_3 > 0
                            · rw [if_pos c50] at H
                              have c50b0 : decide (0 < x12_3) = true := decide_eq_true c50
                              clear c50
                              obtain ⟨ji51, hji51⟩ : ∃ j_ : Int, (wrap64 (x12_3 - 1)) = j_ := ⟨_, rfl⟩
                              replace H : (if 0 ≤ (ji51) then (if (ji51) < (t151.size : Int) then (laws_FnInTwice.j3 k3 t143 t144 t145 t151 t152 t153 x11_3 x12_3 ((bt t151 (ji51)) == 44) a1_0 a1_1 a1_2 l1_3) else (none)) else (none)) = some r := by first | (rw [hji51] at H; exact H) | (simp only [hji51] at H ⊢; exact H)
                              have hji51w : (IntKind.i64.wrap (x12_3 - 1)) = ji51 := (i64_w _).trans hji51
                              by_cases c52 : 0 ≤ (ji51)
                              · rw [if_pos c52] at H
                                have c52b0 : decide (0 ≤ (ji51)) = true := decide_eq_true c52
                                clear c52
                                by_cases c53 : (ji51) < (t151.size : Int)
                                · rw [if_pos c53] at H
                                  have c53b0 : decide ((ji51) < (t151.size : Int)) = true := decide_eq_true c53
                                  clear c53
                                  have H' := Aside0.mk H
                                  clear H
                                  have p48 : 0 ≤ (x12_3 : Int) := of_decide_eq_true (by first | (with_reducible assumption) | assumption)
                                  have q48 : x12_3 < (t151.size : Int) := of_decide_eq_true (by first | (with_reducible assumption) | assumption)
                                  have hx48 := bt_at t151 x12_3
                                  replace p48 := eq_true p48
                                  replace q48 := eq_true q48
                                  have p54 : 0 ≤ ((ji51) : Int) := of_decide_eq_true (by first | (with_reducible assumption) | assumption)
                                  have q54 : (ji51) < (t151.size : Int) := of_decide_eq_true (by first | (with_reducible assumption) | assumption)
                                  have hx54 := bt_at t151 (ji51)
                                  replace p54 := eq_true p54
                                  replace q54 := eq_true q54
                                  go_wp2
                                  go_meet
                                  case rel => exact ⟨_, (((bt t151 (ji51)) == 44)), (by first | rfl | (simp; done) | (simp only [← hji51] <;> (first | rfl | simp)) | (simp [*]; done)), H', ⟨by have := HJ2.out; have := HJ9.out; have := HK3.out; first | omega | exact Nat.le_refl _⟩, ⟨by (with_reducible repeat (first | apply Kd.N_alloc | apply Kd.N_drewN | apply Kd.N_drew)); exact HO_6.out⟩, ⟨by (with_reducible repeat (first | apply Kd.N_alloc | apply Kd.N_drewN | apply Kd.N_drew)); exact HO_9.out⟩, ⟨by (with_reducible repeat (first | apply Kd.V_alloc | apply Kd.V_drewN | apply Kd.V_drew)); exact HO_134003.out⟩, ⟨by (with_reducible repeat (first | refine blk_drewN ?_ _ | refine blk_drew ?_ | refine blk_alloc ?_ _)); exact BK133.out⟩, ⟨by repeat (first | (with_reducible first | exact HB.out | apply below_alloc | apply pw_below_drewN | apply below_drew1 | refine below_set ?_ GE133.out) | exact HB.out)⟩⟩
                                · rw [if_neg c53] at H
                                  exact absurd H (by simp)
                              · rw [if_neg c52] at H
                                exact absurd H (by simp)
                            · rw [if_neg c50] at H
                              have c50b0 : decide (0 < x12_3) = false := decide_eq_false c50
                              clear c50
                              have H' := Aside0.mk H
                              clear H
                              have p48 : 0 ≤ (x12_3 : Int) := of_decide_eq_true (by first | (with_reducible assumption) | assumption)
                              have q48 : x12_3 < (t151.size : Int) := of_decide_eq_true (by first | (with_reducible assumption) | assumption)
                              have hx48 := bt_at t151 x12_3
                              replace p48 := eq_true p48
                              replace q48 := eq_true q48
                              go_wp2
                              go_meet
                              case rel => exact ⟨_, (false), (by first | rfl | (simp; done) | (simp [*]; done)), H', ⟨by have := HJ2.out; have := HJ9.out; have := HK3.out; first | omega | exact Nat.le_refl _⟩, ⟨by (with_reducible repeat (first | apply Kd.N_alloc | apply Kd.N_drewN | apply Kd.N_drew)); exact HO_6.out⟩, ⟨by (with_reducible repeat (first | apply Kd.N_alloc | apply Kd.N_drewN | apply Kd.N_drew)); exact HO_9.out⟩, ⟨by (with_reducible repeat (first | apply Kd.V_alloc | apply Kd.V_drewN | apply Kd.V_drew)); exact HO_134003.out⟩, ⟨by (with_reducible repeat (first | refine blk_drewN ?_ _ | refine blk_drew ?_ | refine blk_alloc ?_ _)); exact BK133.out⟩, ⟨by repeat (first | (with_reducible first | exact HB.out | apply below_alloc | apply pw_below_drewN | apply below_drew1 | refine below_set ?_ GE133.out) | exact HB.out)⟩⟩
                          · rw [if_neg c49] at H
                            have c49b0 : ((bt t151 x12_3) == 32) = false := beq_eq_false_iff_ne.mpr c49
                            have c49b1 : ((bt t151 x12_3) != 32) = true := bne_iff_ne.mpr c49
                            have H' := Aside0.mk H
                            clear H
                            have p48 : 0 ≤ (x12_3 : Int) := of_decide_eq_true (by first | (with_reducible assumption) | assumption)
                            have q48 : x12_3 < (t151.size : Int) := of_decide_eq_true (by first | (with_reducible assumption) | assumption)
                            have hx48 := bt_at t151 x12_3
                            replace p48 := eq_true p48
                            replace q48 := eq_true q48
                            go_wp2
                            go_meet
                            case rel => exact ⟨_, (false), (by first | rfl | (simp; done) | (simp [*]; done)), H', ⟨by have := HJ2.out; have := HJ9.out; have := HK3.out; first | omega | exact Nat.le_refl _⟩, ⟨by (with_reducible repeat (first | apply Kd.N_alloc | apply Kd.N_drewN | apply Kd.N_drew)); exact HO_6.out⟩, ⟨by (with_reducible repeat (first | apply Kd.N_alloc | apply Kd.N_drewN | apply Kd.N_drew)); exact HO_9.out⟩, ⟨by (with_reducible repeat (first | apply Kd.V_alloc | apply Kd.V_drewN | apply Kd.V_drew)); exact HO_134003.out⟩, ⟨by (with_reducible repeat (first | refine blk_drewN ?_ _ | refine blk_drew ?_ | refine blk_alloc ?_ _)); exact BK133.out⟩, ⟨by repeat (first | (with_reducible first | exact HB.out | apply below_alloc | apply pw_below_drewN | apply below_drew1 | refine below_set ?_ GE133.out) | exact HB.out)⟩⟩
                        · rw [if_neg c47] at H
                          exact absurd H (by simp)
                      case rest =>
                        clear HC46
                        try clear c1
                        try clear c2
                        try clear p2
                        try clear c3
                        try clear c4
                        try clear p4
                        try clear q4
                        try clear hx4
                        try clear c5
                        try clear c5b0
                        try clear c5b1
                        try clear p5
                        try clear q5
                        try clear hx5
                        try clear c6
                        try clear p6
                        try clear c8
                        try clear c9
                        try clear c11
                        try clear c12
                        try clear c14
                        try clear c15
                        try clear c15b0
                        try clear c15b1
                        try clear c16
                        try clear c16b0
                        try clear c16b1
                        try clear c16b2
                        try clear c28
                        try clear c30
                        try clear c30b0
                        try clear c30b1
                        try clear c30b2
                        try clear c45
                        try clear c45b0
                        try clear c47
                        try clear c47b0
                        try clear p48
                        try clear q48
                        try clear hx48
                        try clear c49
                        try clear c49b0
                        try clear c49b1
                        try clear c50
                        try clear c50b0
                        try clear c52
                        try clear c52b0
                        try clear c53
                        try clear c53b0
                        try clear p54
                        try clear q54
                        try clear hx54
                        try clear hcz17_0
                        try clear hcz17_1
                        try clear hcz17_2
                        try clear hcz17_3
                        try clear hcz19_0
                        try clear hcz19_1
                        try clear hcz19_2
                        try clear hcz19_3
                        try clear hcz20_0
                        try clear hcz20_1
                        try clear hcz20_2
                        try clear hcz20_3
                        try clear hcz22_0
                        try clear hcz22_1
                        try clear hcz22_2
                        try clear hcz22_3
                        try clear hcz23_0
                        try clear hcz23_1
                        try clear hcz23_2
                        try clear hcz23_3
                        try clear hcz25_0
                        try clear hcz25_1
                        try clear hcz25_2
                        try clear hcz25_3
                        try clear hcz26_0
                        try clear hcz26_1
                        try clear hcz26_2
                        try clear hcz26_3
                        try clear hcz34_0
                        try clear hcz34_1
                        try clear hcz34_2
                        try clear hcz34_3
                        try clear hcz40_0
                        try clear hcz40_1
                        try clear hcz40_2
                        try clear hcz40_3
                        try clear hcz7_0
                        try clear hcz7_1
                        try clear hcz7_2
                        try clear hcz7_3
                        try clear hfz17_0
                        try clear hfz17_1
                        try clear hfz17_2
                        try clear hfz17_3
                        try clear hfz19_0
                        try clear hfz19_1
                        try clear hfz19_2
                        try clear hfz19_3
                        try clear hfz20_0
                        try clear hfz20_1
                        try clear hfz20_2
                        try clear hfz20_3
                        try clear hfz22_0
                        try clear hfz22_1
                        try clear hfz22_2
                        try clear hfz22_3
                        try clear hfz23_0
                        try clear hfz23_1
                        try clear hfz23_2
                        try clear hfz23_3
                        try clear hfz25_0
                        try clear hfz25_1
                        try clear hfz25_2
                        try clear hfz25_3
                        try clear hfz26_0
                        try clear hfz26_1
                        try clear hfz26_2
                        try clear hfz26_3
                        try clear hfz34_0
                        try clear hfz34_1
                        try clear hfz34_2
                        try clear hfz34_3
                        try clear hfz40_0
                        try clear hfz40_1
                        try clear hfz40_2
                        try clear hfz40_3
                        try clear hfz7_0
                        try clear hfz7_1
                        try clear hfz7_2
                        try clear hfz7_3
                        try clear p2
                        try clear p48
                        try clear p54
                        try clear q48
                        try clear q54
                        obtain ⟨kq, x83_45, rfl, HA, HJ45, HO_6, HO_9, HO_134003, BK133, HB⟩ := hcut
                        cases kq with
                        | zero => exact absurd HA.out (by simp [laws_FnInTwice.j3])
                        | succ kj45 =>
                          have H := HA.out
                          clear HA
                          simp only [laws_FnInTwice.j3] at H
                          by_cases c55 : x83_45 = true
                          · subst c55
                            have H1 : (laws_FnInTwice.l0 kj45 t143 t144 t145 t151 t152 t153 x11_3 (wrap64 (x12_3 + 1)) a1_0 a1_1 a1_2 l1_3) = some r := by rw [if_pos rfl] at H; exact H
                            clear H
                            have H := H1
                            clear H1
                            have H' := Aside0.mk H
                            clear H
                            go_wp2
                            go_roundg kj45
                            case measure => have := HJ2.out; have := HJ9.out; have := HK3.out; have := HJ45.out; omega
                            case rel => exact ⟨(x11_3), (wrap64 (x12_3 + 1)), (by first | rfl | (simp; done) | (simp [*]; done)), (by first | rfl | (simp; done) | (simp [*]; done)), H', ⟨by have := HJ2.out; have := HJ9.out; have := HK3.out; have := HJ45.out; omega⟩, ⟨by (with_reducible repeat (first | apply Kd.N_alloc | apply Kd.N_drewN | apply Kd.N_drew)); exact HO_6.out⟩, ⟨by (with_reducible repeat (first | apply Kd.N_alloc | apply Kd.N_drewN | apply Kd.N_drew)); exact HO_9.out⟩, ⟨by (with_reducible repeat (first | apply Kd.V_alloc | apply Kd.V_drewN | apply Kd.V_drew)); exact HO_134003.out⟩, ⟨by (with_reducible repeat (first | refine blk_drewN ?_ _ | refine blk_drew ?_ | refine blk_alloc ?_ _)); exact BK133.out⟩, ⟨by repeat (first | (with_reducible first | exact HB.out | apply below_alloc | apply pw_below_drewN | apply below_drew1 | refine below_set ?_ GE133.out) | exact HB.out)⟩⟩
                          · replace c55 := Bool.eq_false_iff.mpr c55
                            subst c55
                            have H1 : (if 0 ≤ x12_3 then (if x12_3 ≤ (wrap64 (x12_3 + 1)) then (if (wrap64 (x12_3 + 1)) ≤ (t151.size : Int) then (if x11_3.size + (t151.extract (x12_3 : Int).toNat ((wrap64 (x12_3 + 1)) : Int).toNat).size ≤ 9223372036854775807 then (laws_FnInTwice.l0 kj45 t143 t144 t145 t151 t152 t153 (x11_3 ++ (t151.extract (x12_3 : Int).toNat ((wrap64 (x12_3 + 1)) : Int).toNat)) (wrap64 (x12_3 + 1)) a1_0 a1_1 a1_2 l1_3) else (none)) else (none)) else (none)) else (none)) = some r := by rw [if_neg (show ¬ (false = true) by decide)] at H; exact H
                            clear H
                            have H := H1
                            clear H1
                            by_cases c56 : 0 ≤ x12_3
                            · rw [if_pos c56] at H
                              have c56b0 := eq_true c56
                              have c56b1 : decide (0 ≤ x12_3) = true := decide_eq_true c56
                              clear c56
                              by_cases c57 : x12_3 ≤ (wrap64 (x12_3 + 1))
                              · rw [if_pos c57] at H
                                have c57b0 := eq_true c57
                                have c57b1 : decide (x12_3 ≤ (wrap64 (x12_3 + 1))) = true := decide_eq_true c57
                                by_cases c58 : (wrap64 (x12_3 + 1)) ≤ (t151.size : Int)
                                · rw [if_pos c58] at H
                                  have c58b0 := eq_true c58
                                  have c58b1 : decide ((wrap64 (x12_3 + 1)) ≤ (t151.size : Int)) = true := decide_eq_true c58
                                  by_cases c59 : x11_3.size + (t151.extract (x12_3 : Int).toNat ((wrap64 (x12_3 + 1)) : Int).toNat).size ≤ 9223372036854775807
                                  · rw [if_pos c59] at H
                                    have c59b0 := eq_true c59
                                    have c59b1 : decide (x11_3.size + (t151.extract (x12_3 : Int).toNat ((wrap64 (x12_3 + 1)) : Int).toNat).size ≤ 9223372036854775807) = true := decide_eq_true c59
                                    try have c59b2 : (9223372036854775807 < x11_3.size + (t151.extract (x12_3 : Int).toNat ((wrap64 (x12_3 + 1)) : Int).toNat).size) = False := eq_false (Nat.not_lt.2 c59)
                                    have H' := Aside0.mk H
                                    clear H
                                    go_wp2
                                    go_roundg kj45
                                    case measure => have := HJ2.out; have := HJ9.out; have := HK3.out; have := HJ45.out; omega
                                    case rel => exact ⟨(x11_3 ++ (t151.extract (x12_3 : Int).toNat ((wrap64 (x12_3 + 1)) : Int).toNat)), (wrap64 (x12_3 + 1)), (by first | rfl | (simp; done) | (simp [*]; done)), (by first | rfl | (simp; done) | (simp [*]; done)), H', ⟨by have := HJ2.out; have := HJ9.out; have := HK3.out; have := HJ45.out; omega⟩, ⟨by (with_reducible repeat (first | apply Kd.N_alloc | apply Kd.N_drewN | apply Kd.N_drew)); exact HO_6.out⟩, ⟨by (with_reducible repeat (first | apply Kd.N_alloc | apply Kd.N_drewN | apply Kd.N_drew)); exact HO_9.out⟩, ⟨by (with_reducible repeat (first | apply Kd.V_alloc | apply Kd.V_drewN | apply Kd.V_drew)); exact HO_134003.out⟩, ⟨by (with_reducible repeat (first | refine blk_drewN ?_ _ | refine blk_drew ?_ | refine blk_alloc ?_ _)); exact BK133.out⟩, ⟨by repeat (first | (with_reducible first | exact HB.out | apply below_alloc | apply pw_below_drewN | apply below_drew1 | refine below_set ?_ GE133.out) | exact HB.out)⟩⟩
                                  · rw [if_neg c59] at H
                                    exact absurd H (by simp)
                                · rw [if_neg c58] at H
                                  exact absurd H (by simp)
                              · rw [if_neg c57] at H
                                exact absurd H (by simp)
                            · rw [if_neg c56] at H
                              exact absurd H (by simp)
                    · rw [if_neg c45] at H
                      have c45b0 : decide (x12_3 < (t151.size : Int)) = false := decide_eq_false c45
                      clear c45
                      by_cases c60 : t145 = true
                      · subst c60
                        have H1 : (if t153 = true then (if t143.toList = x11_3.toList then ((spec_SameValues.f t144 t152).bind fun t156 => (if t156 = true then (some ((t144.length : Int) == (l1_3.length : Int))) else (some false))) else (some false)) else (some false)) = some r := by rw [if_pos rfl] at H; exact H
                        clear H
                        have H := H1
                        clear H1
                        by_cases c61 : t153 = true
                        · subst c61
                          have H1 : (if t143.toList = x11_3.toList then ((spec_SameValues.f t144 t152).bind fun t156 => (if t156 = true then (some ((t144.length : Int) == (l1_3.length : Int))) else (some false))) else (some false)) = some r := by rw [if_pos rfl] at H; exact H
                          clear H
                          have H := H1
                          clear H1
                          by_cases c62 : t143.toList = x11_3.toList
                          · rw [if_pos c62] at H
                            have c62b0 : (t143.toList == x11_3.toList) = true := beq_iff_eq.mpr c62
                            have c62b1 : (t143.toList != x11_3.toList) = false := bne_eq_false_iff_eq.mpr c62
                            clear c62
                            replace H := Option.bind_eq_some_iff.mp H
                            obtain ⟨t156, A630, H⟩ := H
                            replace H : (if t156 = true then (some ((t144.length : Int) == (l1_3.length : Int))) else (some false)) = some r := H
                            have A63 := Aside0.mk A630
                            clear A630
                            by_cases c64 : t156 = true
                            · subst c64
                              have H1 : (some ((t144.length : Int) == (l1_3.length : Int))) = some r := by rw [if_pos rfl] at H; exact H
                              clear H
                              have H := H1
                              clear H1
                              obtain rfl := Option.some.inj H
                              obtain ⟨Ao65, co65, eo65⟩ := Kd.N_slice HO_6.out
                              subst eo65
                              obtain ⟨Ao66, co66, eo66⟩ := Kd.N_slice HO_9.out
                              subst eo66
                              go_wp2_with (first | (go_at_call 10; (with_reducible refine (spec_SameValues.calls _ _ t144 _ _ t152 true _ ?side1 ?side2 ?side3 ?side4 A63.out).mono ?_); (case side1 => repeat (first | exact (Kd.N_reads' HO_6.out).2.2 | (with_reducible refine Kd.C_alloc ?_ _) | (with_reducible refine Kd.C_drewN ?_ _) | (with_reducible refine Kd.C_drew ?_))); (case side2 => exact (Kd.N_reads' HO_6.out).2.1); (case side3 => repeat (first | exact (Kd.N_reads' HO_9.out).2.2 | (with_reducible refine Kd.C_alloc ?_ _) | (with_reducible refine Kd.C_drewN ?_ _) | (with_reducible refine Kd.C_drew ?_))); (case side4 => exact (Kd.N_reads' HO_9.out).2.1); rintro e w67 ⟨rfl, hb⟩; have n0_ := Aside0.mk (Kd.N_below (by (with_reducible repeat (first | apply Kd.N_alloc | apply Kd.N_drewN | apply Kd.N_drew)); exact HO_6.out) hb); have n1_ := Aside0.mk (Kd.N_below (by (with_reducible repeat (first | apply Kd.N_alloc | apply Kd.N_drewN | apply Kd.N_drew)); exact HO_9.out) hb); have n2_ := Aside0.mk (Kd.V_below (by (with_reducible repeat (first | apply Kd.V_alloc | apply Kd.V_drewN | apply Kd.V_drew)); exact HO_134003.out) hb); have n3_ := Aside0.mk (blk_below (g := gb133) (o := .cells #[.int .i64 a1_0, .int .i64 a1_1, .string a1_2, .slice A1_3 l1_3.length c1_3] 24 (0, 0)) (by (with_reducible repeat (first | refine blk_drewN ?_ _ | refine blk_drew ?_ | refine blk_alloc ?_ _)); exact BK133.out) hb); have n4_ := Aside0.mk (below_step (by repeat (first | (with_reducible first | exact HB.out | apply below_alloc | apply pw_below_drewN | apply below_drew1 | refine below_set ?_ GE133.out) | exact HB.out)) hb); clear HO_6; clear HO_9; clear HO_134003; clear BK133; clear HB; have HO_6 := n0_; have HO_9 := n1_; have HO_134003 := n2_; have BK133 := n3_; have HB := n4_; clear n0_ n1_ n2_ n3_ n4_; (try clear hb); (try clear hb2); (try clear hk); (try clear hi); have hcz68_0 : w67.cell? ⟨gb133, 0, none⟩ = some (.int .i64 a1_0) := (blk_cell BK133.out 0).trans rfl; have hcz68_1 : w67.cell? ⟨gb133, 1, none⟩ = some (.int .i64 a1_1) := (blk_cell BK133.out 1).trans rfl; have hcz68_2 : w67.cell? ⟨gb133, 2, none⟩ = some (.string a1_2) := (blk_cell BK133.out 2).trans rfl; have hcz68_3 : w67.cell? ⟨gb133, 3, none⟩ = some (.slice A1_3 l1_3.length c1_3) := (blk_cell BK133.out 3).trans rfl; have hfz68_0 := blk_frozen BK133.out 0; have hfz68_1 := blk_frozen BK133.out 1; have hfz68_2 := blk_frozen BK133.out 2; have hfz68_3 := blk_frozen BK133.out 3))
                              go_ret
                              exact ⟨by first | rfl | (simp [errW_none, errW_some] <;> rfl) | (simp [*, errW_none, errW_some] <;> rfl), by repeat (first | (with_reducible first | exact HB.out | apply below_alloc | apply pw_below_drewN | apply below_drew1 | refine below_set ?_ GE133.out) | exact HB.out)⟩
                            · replace c64 := Bool.eq_false_iff.mpr c64
                              subst c64
                              have H1 : (some false) = some r := by rw [if_neg (show ¬ (false = true) by decide)] at H; exact H
                              clear H
                              have H := H1
                              clear H1
                              obtain rfl := Option.some.inj H
                              obtain ⟨Ao69, co69, eo69⟩ := Kd.N_slice HO_6.out
                              subst eo69
                              obtain ⟨Ao70, co70, eo70⟩ := Kd.N_slice HO_9.out
                              subst eo70
                              go_wp2_with (first | (go_at_call 10; (with_reducible refine (spec_SameValues.calls _ _ t144 _ _ t152 false _ ?side1 ?side2 ?side3 ?side4 A63.out).mono ?_); (case side1 => repeat (first | exact (Kd.N_reads' HO_6.out).2.2 | (with_reducible refine Kd.C_alloc ?_ _) | (with_reducible refine Kd.C_drewN ?_ _) | (with_reducible refine Kd.C_drew ?_))); (case side2 => exact (Kd.N_reads' HO_6.out).2.1); (case side3 => repeat (first | exact (Kd.N_reads' HO_9.out).2.2 | (with_reducible refine Kd.C_alloc ?_ _) | (with_reducible refine Kd.C_drewN ?_ _) | (with_reducible refine Kd.C_drew ?_))); (case side4 => exact (Kd.N_reads' HO_9.out).2.1); rintro e w71 ⟨rfl, hb⟩; have n0_ := Aside0.mk (Kd.N_below (by (with_reducible repeat (first | apply Kd.N_alloc | apply Kd.N_drewN | apply Kd.N_drew)); exact HO_6.out) hb); have n1_ := Aside0.mk (Kd.N_below (by (with_reducible repeat (first | apply Kd.N_alloc | apply Kd.N_drewN | apply Kd.N_drew)); exact HO_9.out) hb); have n2_ := Aside0.mk (Kd.V_below (by (with_reducible repeat (first | apply Kd.V_alloc | apply Kd.V_drewN | apply Kd.V_drew)); exact HO_134003.out) hb); have n3_ := Aside0.mk (blk_below (g := gb133) (o := .cells #[.int .i64 a1_0, .int .i64 a1_1, .string a1_2, .slice A1_3 l1_3.length c1_3] 24 (0, 0)) (by (with_reducible repeat (first | refine blk_drewN ?_ _ | refine blk_drew ?_ | refine blk_alloc ?_ _)); exact BK133.out) hb); have n4_ := Aside0.mk (below_step (by repeat (first | (with_reducible first | exact HB.out | apply below_alloc | apply pw_below_drewN | apply below_drew1 | refine below_set ?_ GE133.out) | exact HB.out)) hb); clear HO_6; clear HO_9; clear HO_134003; clear BK133; clear HB; have HO_6 := n0_; have HO_9 := n1_; have HO_134003 := n2_; have BK133 := n3_; have HB := n4_; clear n0_ n1_ n2_ n3_ n4_; (try clear hb); (try clear hb2); (try clear hk); (try clear hi)))
                              go_ret
                              exact ⟨by first | rfl | (simp [errW_none, errW_some] <;> rfl) | (simp [*, errW_none, errW_some] <;> rfl), by repeat (first | (with_reducible first | exact HB.out | apply below_alloc | apply pw_below_drewN | apply below_drew1 | refine below_set ?_ GE133.out) | exact HB.out)⟩
                          · rw [if_neg c62] at H
                            have c62b0 : (t143.toList == x11_3.toList) = false := beq_eq_false_iff_ne.mpr c62
                            have c62b1 : (t143.toList != x11_3.toList) = true := bne_iff_ne.mpr c62
                            obtain rfl := Option.some.inj H
                            go_wp2
                            go_ret
                            exact ⟨by first | rfl | (simp [errW_none, errW_some] <;> rfl) | (simp [*, errW_none, errW_some] <;> rfl), by repeat (first | (with_reducible first | exact HB.out | apply below_alloc | apply pw_below_drewN | apply below_drew1 | refine below_set ?_ GE133.out) | exact HB.out)⟩
                        · replace c61 := Bool.eq_false_iff.mpr c61
                          subst c61
                          have H1 : (some false) = some r := by rw [if_neg (show ¬ (false = true) by decide)] at H; exact H
                          clear H
                          have H := H1
                          clear H1
                          obtain rfl := Option.some.inj H
                          go_wp2
                          go_ret
                          exact ⟨by first | rfl | (simp [errW_none, errW_some] <;> rfl) | (simp [*, errW_none, errW_some] <;> rfl), by repeat (first | (with_reducible first | exact HB.out | apply below_alloc | apply pw_below_drewN | apply below_drew1 | refine below_set ?_ GE133.out) | exact HB.out)⟩
                      · replace c60 := Bool.eq_false_iff.mpr c60
                        subst c60
                        have H1 : (some false) = some r := by rw [if_neg (show ¬ (false = true) by decide)] at H; exact H
                        clear H
                        have H := H1
                        clear H1
                        obtain rfl := Option.some.inj H
                        go_wp2
                        go_ret
                        exact ⟨by first | rfl | (simp [errW_none, errW_some] <;> rfl) | (simp [*, errW_none, errW_some] <;> rfl), by repeat (first | (with_reducible first | exact HB.out | apply below_alloc | apply pw_below_drewN | apply below_drew1 | refine below_set ?_ GE133.out) | exact HB.out)⟩
              · rw [if_neg c30] at H
                exact absurd H (by simp)

end Go.Proofs.Ytmiggjncmeomlaa.QS
