/-
  MERGED BY A PROGRAM OF THIS SESSION (wip/pack.py): QN18, QN19.
-/
import Derived.Test.YtnmhoghmhglimaaDoorYB
import Derived.Test.YtnmhoghmhglimaaDoorYD
-- WRITTEN BY A PROGRAM OF THIS SESSION (wip/print2.py): the print, with contracts of this session's own let in. Not trusted: Lean checks it.
namespace Go.Proofs.YtnmhoghmhglimaaDoor.QN
open Go.RowKit Go.Proofs.YtnmhoghmhglimaaDoorW.PrintWords Go.Proofs.YtnmhoghmhglimaaDoorW.PrintLast Go.Proofs.YtnmhoghmhglimaaDoorW.PrintMore
attribute [local go_sem] max2_int min2_int max_two min_two max_three min_three max_four min_four   -- for this text's walks alone
set_option linter.unusedVariables false
set_option linter.unusedSimpArgs false

open Go.Proofs.YtnmhoghmhglimaaDoor.H
-- BY HAND: function 49 (sqlx_Rebind)

/-! ### impl_Rebound: function 23 -/
def impl_Rebound.f (a0 : Int) (a1 : ByteArray) : Option (ByteArray) := (sqlx_Rebind.f a0 a1).bind fun t330 => (some t330)
set_option maxHeartbeats 8000000 in
set_option maxRecDepth 100000 in
theorem impl_Rebound.calls (a0 : Int) (a1 : ByteArray) (r : ByteArray) (w : World) (ht_ : Tab w) (h : impl_Rebound.f a0 a1 = some r) :
    Calls Tryd.prog 23 #[.int .i64 a0, .string a1] w fun e w' => e = .returned (.string r) ∧ Below w.heap.size w w' := by
  have HB := Aside0.mk (Below.refl w.heap.size w)
  have HT_ := Aside0.mk (tab_below ht_)
  clear ht_
  have H : ((sqlx_Rebind.f a0 a1).bind fun t330 => (some t330)) = some r := h
  clear h
  replace H := Option.bind_eq_some_iff.mp H
  obtain ⟨t330, A30, H⟩ := H
  replace H : (some t330) = some r := H
  have A3 := Aside0.mk A30
  clear A30
  obtain rfl := Option.some.inj H
  go_enter Tryd.func23, Tryd.ntmps23
  go_wp2_with (first | ((with_reducible refine gate_callee (f := 49) rfl ?_); refine goesL_ (some 7) rfl rfl Tryd.func49 (by kernel_rfl) rfl #[.int .i64 a0, .string a1] rfl (by (try simp only [List.map_toArray, List.map_cons, List.map_nil]); first | done | rfl | (simp only [List.length_drop, List.length_take]; rfl)) ?_; (with_reducible refine (sqlx_Rebind.calls a0 a1 t330 _ (tab_at HT_.out (by repeat (first | (with_reducible first | exact HB.out | apply below_alloc | apply pw_below_drewN | apply below_drew1) | exact HB.out))) A3.out).mono ?_); rintro e w4 ⟨rfl, hb⟩; refine ⟨_, rfl, ?_⟩; have n0_ := Aside0.mk (below_step (by repeat (first | (with_reducible first | exact HB.out | apply below_alloc | apply pw_below_drewN | apply below_drew1) | exact HB.out)) hb); clear HB; have HB := n0_; clear n0_; (try clear hb); (try clear hb2); (try clear hk); (try clear hi)))
  go_ret
  exact ⟨by first | rfl | (simp [errW_none, errW_some] <;> rfl) | (simp [*, errW_none, errW_some] <;> rfl), by repeat (first | (with_reducible first | exact HB.out | apply below_alloc | apply pw_below_drewN | apply below_drew1) | exact HB.out)⟩

/-! ### laws_marks9: function 33 -/
def laws_marks9.l0 : Nat → ByteArray → Int → Int → Option (Int)
  | 0, _, _, _ => none
  | k + 1, x0, x3, x4 => if x4 < (x0.size : Int) then (if 0 ≤ x4 then (if (bt x0 x4) = 63 then (laws_marks9.l0 k x0 (wrap64 (x3 + 1)) (wrap64 (x4 + 1))) else (laws_marks9.l0 k x0 x3 (wrap64 (x4 + 1)))) else (none)) else (some x3)
def laws_marks9.f (k : Nat) (a0 : ByteArray) : Option (Int) := laws_marks9.l0 k a0 0 0
set_option maxHeartbeats 8000000 in
set_option maxRecDepth 100000 in
theorem laws_marks9.calls (k : Nat) (a0 : ByteArray) (r : Int) (w : World) (h : laws_marks9.f k a0 = some r) :
    Calls Tryd.prog 33 #[.string a0] w fun e w' => e = .returned (.int .i64 r) ∧ Drawn0 w w' := by
  have H : (laws_marks9.l0 k a0 0 0) = some r := h
  clear h
  have H' := Aside0.mk H
  clear H
  go_enter Tryd.func33, Tryd.ntmps33
  go_wp2
  go_loopg [3, 4] k (fun kq v3 v4 w' => ∃ (x3_1 : Int) (x4_1 : Int), v3 = .int .i64 x3_1 ∧ v4 = .int .i64 x4_1 ∧ Aside0 (laws_marks9.l0 kq a0 x3_1 x4_1 = some r) ∧ Aside0 (kq ≤ k) ∧ Drawn0 w w')
  case atStart => exact ⟨(0), (0), (by first | rfl | (simp; done) | (simp [*]; done)), (by first | rfl | (simp; done) | (simp [*]; done)), H', ⟨Nat.le_refl _⟩, by repeat (first | exact Drawn0.refl _ | apply Drawn0.step)⟩
  case round =>
    clear H'
    obtain ⟨x3_1, x4_1, rfl, rfl, HA, HK1, ⟨m1, rfl⟩⟩ := hrel
    cases gk with
    | zero => exact absurd HA.out (by simp [laws_marks9.l0])
    | succ k1 =>
      have H := HA.out
      clear HA
      simp only [laws_marks9.l0] at H
      by_cases c2 : x4_1 < (a0.size : Int)
      · rw [if_pos c2] at H
        have c2b0 : decide (x4_1 < (a0.size : Int)) = true := decide_eq_true c2
        clear c2
        by_cases c3 : 0 ≤ x4_1
        · rw [if_pos c3] at H
          have c3b0 : decide (0 ≤ x4_1) = true := decide_eq_true c3
          clear c3
          by_cases c5 : (bt a0 x4_1) = 63
          · rw [if_pos c5] at H
            have c5b0 : ((bt a0 x4_1) == 63) = true := beq_iff_eq.mpr c5
            have c5b1 : ((bt a0 x4_1) != 63) = false := bne_eq_false_iff_eq.mpr c5
            clear c5
            have H' := Aside0.mk H
            clear H
            have p4 : 0 ≤ (x4_1 : Int) := of_decide_eq_true (by first | (with_reducible assumption) | assumption)
            have q4 : x4_1 < (a0.size : Int) := of_decide_eq_true (by first | (with_reducible assumption) | assumption)
            have hx4 := bt_at a0 x4_1
            replace p4 := eq_true p4
            replace q4 := eq_true q4
            go_wp2
            go_roundg k1
            case measure => have := HK1.out; omega
            case rel => exact ⟨(wrap64 (x3_1 + 1)), (wrap64 (x4_1 + 1)), (by first | rfl | (simp; done) | (simp [*]; done)), (by first | rfl | (simp; done) | (simp [*]; done)), H', ⟨by have := HK1.out; omega⟩, by repeat (first | exact Drawn0.refl _ | apply Drawn0.step)⟩
          · rw [if_neg c5] at H
            have c5b0 : ((bt a0 x4_1) == 63) = false := beq_eq_false_iff_ne.mpr c5
            have c5b1 : ((bt a0 x4_1) != 63) = true := bne_iff_ne.mpr c5
            have H' := Aside0.mk H
            clear H
            have p4 : 0 ≤ (x4_1 : Int) := of_decide_eq_true (by first | (with_reducible assumption) | assumption)
            have q4 : x4_1 < (a0.size : Int) := of_decide_eq_true (by first | (with_reducible assumption) | assumption)
            have hx4 := bt_at a0 x4_1
            replace p4 := eq_true p4
            replace q4 := eq_true q4
            go_wp2
            go_roundg k1
            case measure => have := HK1.out; omega
            case rel => exact ⟨(x3_1), (wrap64 (x4_1 + 1)), (by first | rfl | (simp; done) | (simp [*]; done)), (by first | rfl | (simp; done) | (simp [*]; done)), H', ⟨by have := HK1.out; omega⟩, by repeat (first | exact Drawn0.refl _ | apply Drawn0.step)⟩
        · rw [if_neg c3] at H
          exact absurd H (by simp)
      · rw [if_neg c2] at H
        have c2b0 : decide (x4_1 < (a0.size : Int)) = false := decide_eq_false c2
        clear c2
        obtain rfl := Option.some.inj H
        go_wp2
        go_ret
        exact ⟨by first | rfl | (simp; done) | (simp [*]; done), by repeat (first | exact Drawn0.refl _ | apply Drawn0.step)⟩

end Go.Proofs.YtnmhoghmhglimaaDoor.QN
-- WRITTEN BY A PROGRAM OF THIS SESSION (wip/print2.py): the print, with contracts of this session's own let in. Not trusted: Lean checks it.
namespace Go.Proofs.YtnmhoghmhglimaaDoor.QN
open Go.RowKit Go.Proofs.YtnmhoghmhglimaaDoorW.PrintWords Go.Proofs.YtnmhoghmhglimaaDoorW.PrintLast Go.Proofs.YtnmhoghmhglimaaDoorW.PrintMore
attribute [local go_sem] max2_int min2_int max_two min_two max_three min_three max_four min_four   -- for this text's walks alone
set_option linter.unusedVariables false
set_option linter.unusedSimpArgs false

/-! ### spec_Expanded: function 44 -/
mutual
def spec_Expanded.l0 : Nat → ByteArray → List (S52) → ByteArray → List (S52) → Bool → Int → Option (ByteArray × (List (S52)) × Bool)
  | 0, _, _, _, _, _, _ => none
  | k + 1, x0, x1, x4, x5, x7, x8 => if x8 < (x1.length : Int) then (if x7 = true then (if 0 ≤ x8 then (if ((rd_T52 x1 x8).f0) = 5 then (if (((rd_T52 x1 x8).f3).length : Int) = 0 then (some ((⟨#[]⟩ : ByteArray), ([] : List (S52)), false)) else (spec_Expanded.l0 k x0 x1 x4 x5 true (wrap64 (x8 + 1)))) else (spec_Expanded.l0 k x0 x1 x4 x5 true (wrap64 (x8 + 1)))) else (none)) else (if 0 ≤ x8 then (if ((rd_T52 x1 x8).f0) = 5 then (if (((rd_T52 x1 x8).f3).length : Int) = 0 then (some ((⟨#[]⟩ : ByteArray), ([] : List (S52)), false)) else (spec_Expanded.l0 k x0 x1 x4 x5 (((rd_T52 x1 x8).f0) == 5) (wrap64 (x8 + 1)))) else (spec_Expanded.l0 k x0 x1 x4 x5 (((rd_T52 x1 x8).f0) == 5) (wrap64 (x8 + 1)))) else (none))) else (if x7 = true then (spec_Expanded.l1 k x0 x1 x4 x5 0 0) else (some (x0, x1, true)))
def spec_Expanded.l1 : Nat → ByteArray → List (S52) → ByteArray → List (S52) → Int → Int → Option (ByteArray × (List (S52)) × Bool)
  | 0, _, _, _, _, _, _ => none
  | k + 1, x0, x1, x4, x5, x9, x10 => if x10 < (x0.size : Int) then (if 0 ≤ x10 then (if (bt x0 x10) = 63 then (if x9 ≥ (x1.length : Int) then (some ((⟨#[]⟩ : ByteArray), ([] : List (S52)), false)) else (if 0 ≤ x9 then (if x9 < (x1.length : Int) then (if ((rd_T52 x1 x9).f0) = 5 then (spec_Expanded.l2 k x0 x1 x4 x5 x9 x10 0) else (if x4.size + 1 ≤ 9223372036854775807 then (if x5.length < 2513169434916 then (spec_Expanded.l1 k x0 x1 (x4 ++ (⟨#[63]⟩ : ByteArray)) (x5 ++ [(⟨(rd_T52 x1 x9).f0, (rd_T52 x1 x9).f1, (rd_T52 x1 x9).f2, (rd_T52 x1 x9).f3⟩ : S52)]) (wrap64 (x9 + 1)) (wrap64 (x10 + 1))) else (none)) else (none))) else (none)) else (none))) else (if x10 ≤ (wrap64 (x10 + 1)) then (if (wrap64 (x10 + 1)) ≤ (x0.size : Int) then (if x4.size + (x0.extract (x10 : Int).toNat ((wrap64 (x10 + 1)) : Int).toNat).size ≤ 9223372036854775807 then (spec_Expanded.l1 k x0 x1 (x4 ++ (x0.extract (x10 : Int).toNat ((wrap64 (x10 + 1)) : Int).toNat)) x5 x9 (wrap64 (x10 + 1))) else (none)) else (none)) else (none))) else (none)) else (if x9 < (x1.length : Int) then (some ((⟨#[]⟩ : ByteArray), ([] : List (S52)), false)) else (some (x4, x5, true)))
def spec_Expanded.l2 : Nat → ByteArray → List (S52) → ByteArray → List (S52) → Int → Int → Int → Option (ByteArray × (List (S52)) × Bool)
  | 0, _, _, _, _, _, _, _ => none
  | k + 1, x0, x1, x4, x5, x9, x10, x11 => if 0 ≤ x9 then (if x9 < (x1.length : Int) then (if x11 < (((rd_T52 x1 x9).f3).length : Int) then (if x11 > 0 then (if x4.size + 2 ≤ 9223372036854775807 then (if (x4 ++ (⟨#[44, 32]⟩ : ByteArray)).size + 1 ≤ 9223372036854775807 then (spec_Expanded.l2 k x0 x1 ((x4 ++ (⟨#[44, 32]⟩ : ByteArray)) ++ (⟨#[63]⟩ : ByteArray)) x5 x9 x10 (wrap64 (x11 + 1))) else (none)) else (none)) else (if x4.size + 1 ≤ 9223372036854775807 then (spec_Expanded.l2 k x0 x1 (x4 ++ (⟨#[63]⟩ : ByteArray)) x5 x9 x10 (wrap64 (x11 + 1))) else (none))) else (if x5.length + ((rd_T52 x1 x9).f3).length < 2513169434916 then (spec_Expanded.l1 k x0 x1 x4 (x5 ++ ((rd_T52 x1 x9).f3)) (wrap64 (x9 + 1)) (wrap64 (x10 + 1))) else (none))) else (none)) else (none)
end
def spec_Expanded.f (k : Nat) (a0 : ByteArray) (l1 : List (S52)) : Option (ByteArray × (List (S52)) × Bool) := spec_Expanded.l0 k a0 l1 (⟨#[]⟩ : ByteArray) ([] : List (S52)) false 0
set_option maxHeartbeats 8000000 in
set_option maxRecDepth 100000 in
theorem spec_Expanded.calls (k : Nat) (a0 : ByteArray) (P1_ : Nat → Prop) (A1 : Option Addr) (c1 : Nat) (l1 : List (S52)) (r1 : ByteArray) (r2 : List (S52)) (r3 : Bool) (w : World) (hs1 : Kd.V k52 52 w w.heap.size (fun k_ => P1_ k_) (.slice A1 l1.length c1) l1) (h : spec_Expanded.f k a0 l1 = some (r1, r2, r3)) :
    Calls Tryd.prog 44 #[.string a0, .slice A1 l1.length c1] w fun e w' => ∃ v1_ : Value, e = .returned (.tuple #[.string r1, v1_, .bool r3]) ∧ Kd.V k52 52 w' w.heap.size (fun k_ => (P1_ k_ ∨ w.heap.size ≤ k_)) v1_ r2 ∧ Below w.heap.size w w' := by
  have hu52 := Tryd.underlying52
  have HO1 := Aside0.mk (show Kd.V k52 52 w w.heap.size (fun k_ => (P1_ k_ ∨ w.heap.size ≤ k_)) (.slice A1 l1.length c1) l1 from Kd.V_mono hs1 (fun k_ hk => .inl hk))
  have HB := Aside0.mk (Below.refl w.heap.size w)
  have H : (spec_Expanded.l0 k a0 l1 (⟨#[]⟩ : ByteArray) ([] : List (S52)) false 0) = some (r1, r2, r3) := h
  clear h
  have H' := Aside0.mk H
  clear H
  go_enter Tryd.func44, Tryd.ntmps44
  go_wp2
  go_loopg [4, 5, 7, 8] k (fun kq v4 v5 v7 v8 w' => ∃ (x4_1 : ByteArray) (x5_1 : List (S52)) (x7_1 : Bool) (x8_1 : Int), v4 = .string x4_1 ∧ v7 = .bool x7_1 ∧ v8 = .int .i64 x8_1 ∧ Aside0 (spec_Expanded.l0 kq a0 l1 x4_1 x5_1 x7_1 x8_1 = some (r1, r2, r3)) ∧ Aside0 (kq ≤ k) ∧ Aside0 (Kd.V k52 52 w' w.heap.size (fun k_ => (P1_ k_ ∨ w.heap.size ≤ k_) ∧ some k_ ≠ (v5 : Value).ownBlock) (.slice A1 l1.length c1) l1) ∧ Aside0 (Kd.N k52 52 w' w.heap.size (fun k_ => (P1_ k_ ∨ w.heap.size ≤ k_)) v5 x5_1) ∧ Aside0 (Below w.heap.size w w'))
  case atStart => exact ⟨((⟨#[]⟩ : ByteArray)), (([] : List (S52))), (false), (0), (by first | rfl | (simp; done) | (simp [*]; done)), (by first | rfl | (simp; done) | (simp [*]; done)), (by first | rfl | (simp; done) | (simp [*]; done)), H', ⟨Nat.le_refl _⟩, ⟨by (with_reducible repeat (first | apply Kd.V_alloc | apply Kd.V_drewN | apply Kd.V_drew)); exact Kd.V_mono HO1.out (fun _ hk => ⟨hk, (by simp [Value.ownBlock])⟩)⟩, ⟨by first | exact Kd.R_nil _ _ _ _ _ | exact Kd.N_nil _ _ _ _ _ | exact Kd.V_nil _ _ _ _ _ | exact Kd.Q_nil _ _ _ _ _ | exact Kd.S_nil _ _ _ _ _⟩, ⟨by repeat (first | (with_reducible first | exact HB.out | apply below_alloc | apply pw_below_drewN | apply below_drew1) | exact HB.out)⟩⟩
  case round =>
    clear H'
    try clear c1
    try clear p2
    obtain ⟨x4_1, x5_1, x7_1, x8_1, rfl, rfl, rfl, HA, HK1, HO_1, HO_5, HB⟩ := hrel
    cases gk with
    | zero => exact absurd HA.out (by simp [spec_Expanded.l0])
    | succ k1 =>
      have H := HA.out
      clear HA
      simp only [spec_Expanded.l0] at H
      by_cases c3 : x8_1 < (l1.length : Int)
      · rw [if_pos c3] at H
        have c3b0 : decide (x8_1 < (l1.length : Int)) = true := decide_eq_true c3
        clear c3
        by_cases c4 : x7_1 = true
        · subst c4
          have H1 : (if 0 ≤ x8_1 then (if ((rd_T52 l1 x8_1).f0) = 5 then (if (((rd_T52 l1 x8_1).f3).length : Int) = 0 then (some ((⟨#[]⟩ : ByteArray), ([] : List (S52)), false)) else (spec_Expanded.l0 k1 a0 l1 x4_1 x5_1 true (wrap64 (x8_1 + 1)))) else (spec_Expanded.l0 k1 a0 l1 x4_1 x5_1 true (wrap64 (x8_1 + 1)))) else (none)) = some (r1, r2, r3) := by rw [if_pos rfl] at H; exact H
          clear H
          have H := H1
          clear H1
          by_cases c5 : 0 ≤ x8_1
          · rw [if_pos c5] at H
            have c5b0 : decide (0 ≤ x8_1) = true := decide_eq_true c5
            clear c5
            by_cases c6 : ((rd_T52 l1 x8_1).f0) = 5
            · rw [if_pos c6] at H
              have c6b0 : (((rd_T52 l1 x8_1).f0) == 5) = true := beq_iff_eq.mpr c6
              have c6b1 : (((rd_T52 l1 x8_1).f0) != 5) = false := bne_eq_false_iff_eq.mpr c6
              clear c6
              by_cases c7 : (((rd_T52 l1 x8_1).f3).length : Int) = 0
              · rw [if_pos c7] at H
                have c7b0 : ((((rd_T52 l1 x8_1).f3).length : Int) == 0) = true := beq_iff_eq.mpr c7
                have c7b1 : ((((rd_T52 l1 x8_1).f3).length : Int) != 0) = false := bne_eq_false_iff_eq.mpr c7
                clear c7
                simp only [Option.some.injEq, Prod.mk.injEq] at H
                obtain ⟨rfl, rfl, rfl⟩ := H
                have p331 : 0 ≤ (x8_1 : Int) := of_decide_eq_true (by first | (with_reducible assumption) | assumption)
                have q331 : x8_1 < (l1.length : Int) := of_decide_eq_true (by first | (with_reducible assumption) | assumption)
                obtain ⟨ad331, A331_3, c331_3, e331, hx331_0, hx331_1, hx331_2, hx331_3, hl331_3, hi331_3⟩ := at_T52 (Kd.V_reads' HO_1.out).2.2 x8_1 p331 q331
                cases e331
                obtain ⟨ce331, hce331, hMe331, hcc331⟩ := Kd.V_get HO_1.out z52 x8_1 p331 (by first | exact q331 | exact of_decide_eq_true (by first | (with_reducible assumption) | assumption) | (have e_ := (Kd.V_reads' HO_1.out).1; omega))
                obtain ⟨ua331_3, uc331_3, rfl, ul331_3, ge331_3⟩ := k52_openF hMe331
                have hv331_3 := hcc331 3 _ rfl
                rw [add_field _ _ 3 (by omega)] at hv331_3
                replace hv331_3 := Option.some.inj (hv331_3.symm.trans hx331_3)
                injection hv331_3 with hva_ hvn_ hvc_
                rw [hva_] at ge331_3
                rw [hvc_] at ul331_3
                have HL331_3 := Aside0.mk (show Kd.V k52 52 _ w.heap.size _ _ ((rd_T52 l1 x8_1).f3) from Kd.V_mk ul331_3 ge331_3)
                clear hva_ hvn_ hvc_ ge331_3 ul331_3
                clear hcc331 hce331
                have HR331_3 := Aside0.mk hi331_3
                have HC331_3 := Aside0.mk hl331_3
                clear hi331_3 hl331_3
                replace p331 := eq_true p331
                replace q331 := eq_true q331
                have p332 : 0 ≤ (x8_1 : Int) := of_decide_eq_true (by first | (with_reducible assumption) | assumption)
                have q332 : x8_1 < (l1.length : Int) := of_decide_eq_true (by first | (with_reducible assumption) | assumption)
                obtain ⟨ad332, A332_3, c332_3, e332, hx332_0, hx332_1, hx332_2, hx332_3, hl332_3, hi332_3⟩ := at_T52 (Kd.V_reads' HO_1.out).2.2 x8_1 p332 q332
                obtain rfl : ad331 = ad332 := (by injection e332)
                obtain ⟨ce332, hce332, hMe332, hcc332⟩ := Kd.V_get HO_1.out z52 x8_1 p332 (by first | exact q332 | exact of_decide_eq_true (by first | (with_reducible assumption) | assumption) | (have e_ := (Kd.V_reads' HO_1.out).1; omega))
                obtain ⟨ua332_3, uc332_3, rfl, ul332_3, ge332_3⟩ := k52_openF hMe332
                have hv332_3 := hcc332 3 _ rfl
                rw [add_field _ _ 3 (by omega)] at hv332_3
                replace hv332_3 := Option.some.inj (hv332_3.symm.trans hx332_3)
                injection hv332_3 with hva_ hvn_ hvc_
                rw [hva_] at ge332_3
                rw [hvc_] at ul332_3
                have HL332_3 := Aside0.mk (show Kd.V k52 52 _ w.heap.size _ _ ((rd_T52 l1 x8_1).f3) from Kd.V_mk ul332_3 ge332_3)
                clear hva_ hvn_ hvc_ ge332_3 ul332_3
                clear hcc332 hce332
                have HR332_3 := Aside0.mk hi332_3
                have HC332_3 := Aside0.mk hl332_3
                clear hi332_3 hl332_3
                replace p332 := eq_true p332
                replace q332 := eq_true q332
                have ea_ := Option.some.inj (hx331_3.symm.trans hx332_3)
                injection ea_ with ea_ en_ ec_
                subst ea_
                subst ec_
                clear en_
                go_wp2
                go_ret3
                exact ⟨_, by first | rfl | (simp [errW_none, errW_some] <;> rfl) | (simp [*, errW_none, errW_some] <;> rfl), (by first | exact Kd.V_nil _ _ _ _ _ | exact Kd.N_V (Kd.N_nil _ _ _ _ _)), by repeat (first | (with_reducible first | exact HB.out | apply below_alloc | apply pw_below_drewN | apply below_drew1) | exact HB.out)⟩
              · rw [if_neg c7] at H
                have c7b0 : ((((rd_T52 l1 x8_1).f3).length : Int) == 0) = false := beq_eq_false_iff_ne.mpr c7
                have c7b1 : ((((rd_T52 l1 x8_1).f3).length : Int) != 0) = true := bne_iff_ne.mpr c7
                have c7b2 : ¬ (((rd_T52 l1 x8_1).f3) = []) := fun h_ => c7 (by rw [h_]; rfl)
                have H' := Aside0.mk H
                clear H
                have p331 : 0 ≤ (x8_1 : Int) := of_decide_eq_true (by first | (with_reducible assumption) | assumption)
                have q331 : x8_1 < (l1.length : Int) := of_decide_eq_true (by first | (with_reducible assumption) | assumption)
                obtain ⟨ad331, A331_3, c331_3, e331, hx331_0, hx331_1, hx331_2, hx331_3, hl331_3, hi331_3⟩ := at_T52 (Kd.V_reads' HO_1.out).2.2 x8_1 p331 q331
                cases e331
                obtain ⟨ce331, hce331, hMe331, hcc331⟩ := Kd.V_get HO_1.out z52 x8_1 p331 (by first | exact q331 | exact of_decide_eq_true (by first | (with_reducible assumption) | assumption) | (have e_ := (Kd.V_reads' HO_1.out).1; omega))
                obtain ⟨ua331_3, uc331_3, rfl, ul331_3, ge331_3⟩ := k52_openF hMe331
                have hv331_3 := hcc331 3 _ rfl
                rw [add_field _ _ 3 (by omega)] at hv331_3
                replace hv331_3 := Option.some.inj (hv331_3.symm.trans hx331_3)
                injection hv331_3 with hva_ hvn_ hvc_
                rw [hva_] at ge331_3
                rw [hvc_] at ul331_3
                have HL331_3 := Aside0.mk (show Kd.V k52 52 _ w.heap.size _ _ ((rd_T52 l1 x8_1).f3) from Kd.V_mk ul331_3 ge331_3)
                clear hva_ hvn_ hvc_ ge331_3 ul331_3
                clear hcc331 hce331
                have HR331_3 := Aside0.mk hi331_3
                have HC331_3 := Aside0.mk hl331_3
                clear hi331_3 hl331_3
                replace p331 := eq_true p331
                replace q331 := eq_true q331
                have p332 : 0 ≤ (x8_1 : Int) := of_decide_eq_true (by first | (with_reducible assumption) | assumption)
                have q332 : x8_1 < (l1.length : Int) := of_decide_eq_true (by first | (with_reducible assumption) | assumption)
                obtain ⟨ad332, A332_3, c332_3, e332, hx332_0, hx332_1, hx332_2, hx332_3, hl332_3, hi332_3⟩ := at_T52 (Kd.V_reads' HO_1.out).2.2 x8_1 p332 q332
                obtain rfl : ad331 = ad332 := (by injection e332)
                obtain ⟨ce332, hce332, hMe332, hcc332⟩ := Kd.V_get HO_1.out z52 x8_1 p332 (by first | exact q332 | exact of_decide_eq_true (by first | (with_reducible assumption) | assumption) | (have e_ := (Kd.V_reads' HO_1.out).1; omega))
                obtain ⟨ua332_3, uc332_3, rfl, ul332_3, ge332_3⟩ := k52_openF hMe332
                have hv332_3 := hcc332 3 _ rfl
                rw [add_field _ _ 3 (by omega)] at hv332_3
                replace hv332_3 := Option.some.inj (hv332_3.symm.trans hx332_3)
                injection hv332_3 with hva_ hvn_ hvc_
                rw [hva_] at ge332_3
                rw [hvc_] at ul332_3
                have HL332_3 := Aside0.mk (show Kd.V k52 52 _ w.heap.size _ _ ((rd_T52 l1 x8_1).f3) from Kd.V_mk ul332_3 ge332_3)
                clear hva_ hvn_ hvc_ ge332_3 ul332_3
                clear hcc332 hce332
                have HR332_3 := Aside0.mk hi332_3
                have HC332_3 := Aside0.mk hl332_3
                clear hi332_3 hl332_3
                replace p332 := eq_true p332
                replace q332 := eq_true q332
                have ea_ := Option.some.inj (hx331_3.symm.trans hx332_3)
                injection ea_ with ea_ en_ ec_
                subst ea_
                subst ec_
                clear en_
                go_wp2
                go_roundg k1
                case measure => have := HK1.out; omega
                case rel => exact ⟨(x4_1), (x5_1), (true), (wrap64 (x8_1 + 1)), (by first | rfl | (simp; done) | (simp [*]; done)), (by first | rfl | (simp; done) | (simp [*]; done)), (by first | rfl | (simp; done) | (simp [*]; done)), H', ⟨by have := HK1.out; omega⟩, ⟨by (with_reducible repeat (first | apply Kd.V_alloc | apply Kd.V_drewN | apply Kd.V_drew)); exact HO_1.out⟩, ⟨by (with_reducible repeat (first | apply Kd.N_alloc | apply Kd.N_drewN | apply Kd.N_drew)); exact HO_5.out⟩, ⟨by repeat (first | (with_reducible first | exact HB.out | apply below_alloc | apply pw_below_drewN | apply below_drew1) | exact HB.out)⟩⟩
            · rw [if_neg c6] at H
              have c6b0 : (((rd_T52 l1 x8_1).f0) == 5) = false := beq_eq_false_iff_ne.mpr c6
              have c6b1 : (((rd_T52 l1 x8_1).f0) != 5) = true := bne_iff_ne.mpr c6
              have H' := Aside0.mk H
              clear H
              have p331 : 0 ≤ (x8_1 : Int) := of_decide_eq_true (by first | (with_reducible assumption) | assumption)
              have q331 : x8_1 < (l1.length : Int) := of_decide_eq_true (by first | (with_reducible assumption) | assumption)
              obtain ⟨ad331, A331_3, c331_3, e331, hx331_0, hx331_1, hx331_2, hx331_3, hl331_3, hi331_3⟩ := at_T52 (Kd.V_reads' HO_1.out).2.2 x8_1 p331 q331
              cases e331
              obtain ⟨ce331, hce331, hMe331, hcc331⟩ := Kd.V_get HO_1.out z52 x8_1 p331 (by first | exact q331 | exact of_decide_eq_true (by first | (with_reducible assumption) | assumption) | (have e_ := (Kd.V_reads' HO_1.out).1; omega))
              obtain ⟨ua331_3, uc331_3, rfl, ul331_3, ge331_3⟩ := k52_openF hMe331
              have hv331_3 := hcc331 3 _ rfl
              rw [add_field _ _ 3 (by omega)] at hv331_3
              replace hv331_3 := Option.some.inj (hv331_3.symm.trans hx331_3)
              injection hv331_3 with hva_ hvn_ hvc_
              rw [hva_] at ge331_3
              rw [hvc_] at ul331_3
              have HL331_3 := Aside0.mk (show Kd.V k52 52 _ w.heap.size _ _ ((rd_T52 l1 x8_1).f3) from Kd.V_mk ul331_3 ge331_3)
              clear hva_ hvn_ hvc_ ge331_3 ul331_3
              clear hcc331 hce331
              have HR331_3 := Aside0.mk hi331_3
              have HC331_3 := Aside0.mk hl331_3
              clear hi331_3 hl331_3
              replace p331 := eq_true p331
              replace q331 := eq_true q331
              go_wp2
              go_roundg k1
              case measure => have := HK1.out; omega
              case rel => exact ⟨(x4_1), (x5_1), (true), (wrap64 (x8_1 + 1)), (by first | rfl | (simp; done) | (simp [*]; done)), (by first | rfl | (simp; done) | (simp [*]; done)), (by first | rfl | (simp; done) | (simp [*]; done)), H', ⟨by have := HK1.out; omega⟩, ⟨by (with_reducible repeat (first | apply Kd.V_alloc | apply Kd.V_drewN | apply Kd.V_drew)); exact HO_1.out⟩, ⟨by (with_reducible repeat (first | apply Kd.N_alloc | apply Kd.N_drewN | apply Kd.N_drew)); exact HO_5.out⟩, ⟨by repeat (first | (with_reducible first | exact HB.out | apply below_alloc | apply pw_below_drewN | apply below_drew1) | exact HB.out)⟩⟩
          · rw [if_neg c5] at H
            exact absurd H (by simp)
        · replace c4 := Bool.eq_false_iff.mpr c4
          subst c4
          have H1 : (if 0 ≤ x8_1 then (if ((rd_T52 l1 x8_1).f0) = 5 then (if (((rd_T52 l1 x8_1).f3).length : Int) = 0 then (some ((⟨#[]⟩ : ByteArray), ([] : List (S52)), false)) else (spec_Expanded.l0 k1 a0 l1 x4_1 x5_1 (((rd_T52 l1 x8_1).f0) == 5) (wrap64 (x8_1 + 1)))) else (spec_Expanded.l0 k1 a0 l1 x4_1 x5_1 (((rd_T52 l1 x8_1).f0) == 5) (wrap64 (x8_1 + 1)))) else (none)) = some (r1, r2, r3) := by rw [if_neg (show ¬ (false = true) by decide)] at H; exact H
          clear H
          have H := H1
          clear H1
          by_cases c8 : 0 ≤ x8_1
          · rw [if_pos c8] at H
            have c8b0 : decide (0 ≤ x8_1) = true := decide_eq_true c8
            clear c8
            by_cases c9 : ((rd_T52 l1 x8_1).f0) = 5
            · rw [if_pos c9] at H
              have c9b0 : (((rd_T52 l1 x8_1).f0) == 5) = true := beq_iff_eq.mpr c9
              have c9b1 : (((rd_T52 l1 x8_1).f0) != 5) = false := bne_eq_false_iff_eq.mpr c9
              clear c9
              by_cases c10 : (((rd_T52 l1 x8_1).f3).length : Int) = 0
              · rw [if_pos c10] at H
                have c10b0 : ((((rd_T52 l1 x8_1).f3).length : Int) == 0) = true := beq_iff_eq.mpr c10
                have c10b1 : ((((rd_T52 l1 x8_1).f3).length : Int) != 0) = false := bne_eq_false_iff_eq.mpr c10
                clear c10
                simp only [Option.some.injEq, Prod.mk.injEq] at H
                obtain ⟨rfl, rfl, rfl⟩ := H
                have p333 : 0 ≤ (x8_1 : Int) := of_decide_eq_true (by first | (with_reducible assumption) | assumption)
                have q333 : x8_1 < (l1.length : Int) := of_decide_eq_true (by first | (with_reducible assumption) | assumption)
                obtain ⟨ad333, A333_3, c333_3, e333, hx333_0, hx333_1, hx333_2, hx333_3, hl333_3, hi333_3⟩ := at_T52 (Kd.V_reads' HO_1.out).2.2 x8_1 p333 q333
                cases e333
                obtain ⟨ce333, hce333, hMe333, hcc333⟩ := Kd.V_get HO_1.out z52 x8_1 p333 (by first | exact q333 | exact of_decide_eq_true (by first | (with_reducible assumption) | assumption) | (have e_ := (Kd.V_reads' HO_1.out).1; omega))
                obtain ⟨ua333_3, uc333_3, rfl, ul333_3, ge333_3⟩ := k52_openF hMe333
                have hv333_3 := hcc333 3 _ rfl
                rw [add_field _ _ 3 (by omega)] at hv333_3
                replace hv333_3 := Option.some.inj (hv333_3.symm.trans hx333_3)
                injection hv333_3 with hva_ hvn_ hvc_
                rw [hva_] at ge333_3
                rw [hvc_] at ul333_3
                have HL333_3 := Aside0.mk (show Kd.V k52 52 _ w.heap.size _ _ ((rd_T52 l1 x8_1).f3) from Kd.V_mk ul333_3 ge333_3)
                clear hva_ hvn_ hvc_ ge333_3 ul333_3
                clear hcc333 hce333
                have HR333_3 := Aside0.mk hi333_3
                have HC333_3 := Aside0.mk hl333_3
                clear hi333_3 hl333_3
                replace p333 := eq_true p333
                replace q333 := eq_true q333
                have p334 : 0 ≤ (x8_1 : Int) := of_decide_eq_true (by first | (with_reducible assumption) | assumption)
                have q334 : x8_1 < (l1.length : Int) := of_decide_eq_true (by first | (with_reducible assumption) | assumption)
                obtain ⟨ad334, A334_3, c334_3, e334, hx334_0, hx334_1, hx334_2, hx334_3, hl334_3, hi334_3⟩ := at_T52 (Kd.V_reads' HO_1.out).2.2 x8_1 p334 q334
                obtain rfl : ad333 = ad334 := (by injection e334)
                obtain ⟨ce334, hce334, hMe334, hcc334⟩ := Kd.V_get HO_1.out z52 x8_1 p334 (by first | exact q334 | exact of_decide_eq_true (by first | (with_reducible assumption) | assumption) | (have e_ := (Kd.V_reads' HO_1.out).1; omega))
                obtain ⟨ua334_3, uc334_3, rfl, ul334_3, ge334_3⟩ := k52_openF hMe334
                have hv334_3 := hcc334 3 _ rfl
                rw [add_field _ _ 3 (by omega)] at hv334_3
                replace hv334_3 := Option.some.inj (hv334_3.symm.trans hx334_3)
                injection hv334_3 with hva_ hvn_ hvc_
                rw [hva_] at ge334_3
                rw [hvc_] at ul334_3
                have HL334_3 := Aside0.mk (show Kd.V k52 52 _ w.heap.size _ _ ((rd_T52 l1 x8_1).f3) from Kd.V_mk ul334_3 ge334_3)
                clear hva_ hvn_ hvc_ ge334_3 ul334_3
                clear hcc334 hce334
                have HR334_3 := Aside0.mk hi334_3
                have HC334_3 := Aside0.mk hl334_3
                clear hi334_3 hl334_3
                replace p334 := eq_true p334
                replace q334 := eq_true q334
                have ea_ := Option.some.inj (hx333_3.symm.trans hx334_3)
                injection ea_ with ea_ en_ ec_
                subst ea_
                subst ec_
                clear en_
                have p335 : 0 ≤ (x8_1 : Int) := of_decide_eq_true (by first | (with_reducible assumption) | assumption)
                have q335 : x8_1 < (l1.length : Int) := of_decide_eq_true (by first | (with_reducible assumption) | assumption)
                obtain ⟨ad335, A335_3, c335_3, e335, hx335_0, hx335_1, hx335_2, hx335_3, hl335_3, hi335_3⟩ := at_T52 (Kd.V_reads' HO_1.out).2.2 x8_1 p335 q335
                obtain rfl : ad333 = ad335 := (by injection e335)
                obtain ⟨ce335, hce335, hMe335, hcc335⟩ := Kd.V_get HO_1.out z52 x8_1 p335 (by first | exact q335 | exact of_decide_eq_true (by first | (with_reducible assumption) | assumption) | (have e_ := (Kd.V_reads' HO_1.out).1; omega))
                obtain ⟨ua335_3, uc335_3, rfl, ul335_3, ge335_3⟩ := k52_openF hMe335
                have hv335_3 := hcc335 3 _ rfl
                rw [add_field _ _ 3 (by omega)] at hv335_3
                replace hv335_3 := Option.some.inj (hv335_3.symm.trans hx335_3)
                injection hv335_3 with hva_ hvn_ hvc_
                rw [hva_] at ge335_3
                rw [hvc_] at ul335_3
                have HL335_3 := Aside0.mk (show Kd.V k52 52 _ w.heap.size _ _ ((rd_T52 l1 x8_1).f3) from Kd.V_mk ul335_3 ge335_3)
                clear hva_ hvn_ hvc_ ge335_3 ul335_3
                clear hcc335 hce335
                have HR335_3 := Aside0.mk hi335_3
                have HC335_3 := Aside0.mk hl335_3
                clear hi335_3 hl335_3
                replace p335 := eq_true p335
                replace q335 := eq_true q335
                have ea_ := Option.some.inj (hx333_3.symm.trans hx335_3)
                injection ea_ with ea_ en_ ec_
                subst ea_
                subst ec_
                clear en_
                go_wp2
                go_ret3
                exact ⟨_, by first | rfl | (simp [errW_none, errW_some] <;> rfl) | (simp [*, errW_none, errW_some] <;> rfl), (by first | exact Kd.V_nil _ _ _ _ _ | exact Kd.N_V (Kd.N_nil _ _ _ _ _)), by repeat (first | (with_reducible first | exact HB.out | apply below_alloc | apply pw_below_drewN | apply below_drew1) | exact HB.out)⟩
              · rw [if_neg c10] at H
                have c10b0 : ((((rd_T52 l1 x8_1).f3).length : Int) == 0) = false := beq_eq_false_iff_ne.mpr c10
                have c10b1 : ((((rd_T52 l1 x8_1).f3).length : Int) != 0) = true := bne_iff_ne.mpr c10
                have c10b2 : ¬ (((rd_T52 l1 x8_1).f3) = []) := fun h_ => c10 (by rw [h_]; rfl)
                have H' := Aside0.mk H
                clear H
                have p333 : 0 ≤ (x8_1 : Int) := of_decide_eq_true (by first | (with_reducible assumption) | assumption)
                have q333 : x8_1 < (l1.length : Int) := of_decide_eq_true (by first | (with_reducible assumption) | assumption)
                obtain ⟨ad333, A333_3, c333_3, e333, hx333_0, hx333_1, hx333_2, hx333_3, hl333_3, hi333_3⟩ := at_T52 (Kd.V_reads' HO_1.out).2.2 x8_1 p333 q333
                cases e333
                obtain ⟨ce333, hce333, hMe333, hcc333⟩ := Kd.V_get HO_1.out z52 x8_1 p333 (by first | exact q333 | exact of_decide_eq_true (by first | (with_reducible assumption) | assumption) | (have e_ := (Kd.V_reads' HO_1.out).1; omega))
                obtain ⟨ua333_3, uc333_3, rfl, ul333_3, ge333_3⟩ := k52_openF hMe333
                have hv333_3 := hcc333 3 _ rfl
                rw [add_field _ _ 3 (by omega)] at hv333_3
                replace hv333_3 := Option.some.inj (hv333_3.symm.trans hx333_3)
                injection hv333_3 with hva_ hvn_ hvc_
                rw [hva_] at ge333_3
                rw [hvc_] at ul333_3
                have HL333_3 := Aside0.mk (show Kd.V k52 52 _ w.heap.size _ _ ((rd_T52 l1 x8_1).f3) from Kd.V_mk ul333_3 ge333_3)
                clear hva_ hvn_ hvc_ ge333_3 ul333_3
                clear hcc333 hce333
                have HR333_3 := Aside0.mk hi333_3
                have HC333_3 := Aside0.mk hl333_3
                clear hi333_3 hl333_3
                replace p333 := eq_true p333
                replace q333 := eq_true q333
                have p334 : 0 ≤ (x8_1 : Int) := of_decide_eq_true (by first | (with_reducible assumption) | assumption)
                have q334 : x8_1 < (l1.length : Int) := of_decide_eq_true (by first | (with_reducible assumption) | assumption)
                obtain ⟨ad334, A334_3, c334_3, e334, hx334_0, hx334_1, hx334_2, hx334_3, hl334_3, hi334_3⟩ := at_T52 (Kd.V_reads' HO_1.out).2.2 x8_1 p334 q334
                obtain rfl : ad333 = ad334 := (by injection e334)
                obtain ⟨ce334, hce334, hMe334, hcc334⟩ := Kd.V_get HO_1.out z52 x8_1 p334 (by first | exact q334 | exact of_decide_eq_true (by first | (with_reducible assumption) | assumption) | (have e_ := (Kd.V_reads' HO_1.out).1; omega))
                obtain ⟨ua334_3, uc334_3, rfl, ul334_3, ge334_3⟩ := k52_openF hMe334
                have hv334_3 := hcc334 3 _ rfl
                rw [add_field _ _ 3 (by omega)] at hv334_3
                replace hv334_3 := Option.some.inj (hv334_3.symm.trans hx334_3)
                injection hv334_3 with hva_ hvn_ hvc_
                rw [hva_] at ge334_3
                rw [hvc_] at ul334_3
                have HL334_3 := Aside0.mk (show Kd.V k52 52 _ w.heap.size _ _ ((rd_T52 l1 x8_1).f3) from Kd.V_mk ul334_3 ge334_3)
                clear hva_ hvn_ hvc_ ge334_3 ul334_3
                clear hcc334 hce334
                have HR334_3 := Aside0.mk hi334_3
                have HC334_3 := Aside0.mk hl334_3
                clear hi334_3 hl334_3
                replace p334 := eq_true p334
                replace q334 := eq_true q334
                have ea_ := Option.some.inj (hx333_3.symm.trans hx334_3)
                injection ea_ with ea_ en_ ec_
                subst ea_
                subst ec_
                clear en_
                have p335 : 0 ≤ (x8_1 : Int) := of_decide_eq_true (by first | (with_reducible assumption) | assumption)
                have q335 : x8_1 < (l1.length : Int) := of_decide_eq_true (by first | (with_reducible assumption) | assumption)
                obtain ⟨ad335, A335_3, c335_3, e335, hx335_0, hx335_1, hx335_2, hx335_3, hl335_3, hi335_3⟩ := at_T52 (Kd.V_reads' HO_1.out).2.2 x8_1 p335 q335
                obtain rfl : ad333 = ad335 := (by injection e335)
                obtain ⟨ce335, hce335, hMe335, hcc335⟩ := Kd.V_get HO_1.out z52 x8_1 p335 (by first | exact q335 | exact of_decide_eq_true (by first | (with_reducible assumption) | assumption) | (have e_ := (Kd.V_reads' HO_1.out).1; omega))
                obtain ⟨ua335_3, uc335_3, rfl, ul335_3, ge335_3⟩ := k52_openF hMe335
                have hv335_3 := hcc335 3 _ rfl
                rw [add_field _ _ 3 (by omega)] at hv335_3
                replace hv335_3 := Option.some.inj (hv335_3.symm.trans hx335_3)
                injection hv335_3 with hva_ hvn_ hvc_
                rw [hva_] at ge335_3
                rw [hvc_] at ul335_3
                have HL335_3 := Aside0.mk (show Kd.V k52 52 _ w.heap.size _ _ ((rd_T52 l1 x8_1).f3) from Kd.V_mk ul335_3 ge335_3)
                clear hva_ hvn_ hvc_ ge335_3 ul335_3
                clear hcc335 hce335
                have HR335_3 := Aside0.mk hi335_3
                have HC335_3 := Aside0.mk hl335_3
                clear hi335_3 hl335_3
                replace p335 := eq_true p335
                replace q335 := eq_true q335
                have ea_ := Option.some.inj (hx333_3.symm.trans hx335_3)
                injection ea_ with ea_ en_ ec_
                subst ea_
                subst ec_
                clear en_
                go_wp2
                go_roundg k1
                case measure => have := HK1.out; omega
                case rel => exact ⟨(x4_1), (x5_1), ((((rd_T52 l1 x8_1).f0) == 5)), (wrap64 (x8_1 + 1)), (by first | rfl | (simp; done) | (simp [*]; done)), (by first | rfl | (simp; done) | (simp [*]; done)), (by first | rfl | (simp; done) | (simp [*]; done)), H', ⟨by have := HK1.out; omega⟩, ⟨by (with_reducible repeat (first | apply Kd.V_alloc | apply Kd.V_drewN | apply Kd.V_drew)); exact HO_1.out⟩, ⟨by (with_reducible repeat (first | apply Kd.N_alloc | apply Kd.N_drewN | apply Kd.N_drew)); exact HO_5.out⟩, ⟨by repeat (first | (with_reducible first | exact HB.out | apply below_alloc | apply pw_below_drewN | apply below_drew1) | exact HB.out)⟩⟩
            · rw [if_neg c9] at H
              have c9b0 : (((rd_T52 l1 x8_1).f0) == 5) = false := beq_eq_false_iff_ne.mpr c9
              have c9b1 : (((rd_T52 l1 x8_1).f0) != 5) = true := bne_iff_ne.mpr c9
              have H' := Aside0.mk H
              clear H
              have p333 : 0 ≤ (x8_1 : Int) := of_decide_eq_true (by first | (with_reducible assumption) | assumption)
              have q333 : x8_1 < (l1.length : Int) := of_decide_eq_true (by first | (with_reducible assumption) | assumption)
              obtain ⟨ad333, A333_3, c333_3, e333, hx333_0, hx333_1, hx333_2, hx333_3, hl333_3, hi333_3⟩ := at_T52 (Kd.V_reads' HO_1.out).2.2 x8_1 p333 q333
              cases e333
              obtain ⟨ce333, hce333, hMe333, hcc333⟩ := Kd.V_get HO_1.out z52 x8_1 p333 (by first | exact q333 | exact of_decide_eq_true (by first | (with_reducible assumption) | assumption) | (have e_ := (Kd.V_reads' HO_1.out).1; omega))
              obtain ⟨ua333_3, uc333_3, rfl, ul333_3, ge333_3⟩ := k52_openF hMe333
              have hv333_3 := hcc333 3 _ rfl
              rw [add_field _ _ 3 (by omega)] at hv333_3
              replace hv333_3 := Option.some.inj (hv333_3.symm.trans hx333_3)
              injection hv333_3 with hva_ hvn_ hvc_
              rw [hva_] at ge333_3
              rw [hvc_] at ul333_3
              have HL333_3 := Aside0.mk (show Kd.V k52 52 _ w.heap.size _ _ ((rd_T52 l1 x8_1).f3) from Kd.V_mk ul333_3 ge333_3)
              clear hva_ hvn_ hvc_ ge333_3 ul333_3
              clear hcc333 hce333
              have HR333_3 := Aside0.mk hi333_3
              have HC333_3 := Aside0.mk hl333_3
              clear hi333_3 hl333_3
              replace p333 := eq_true p333
              replace q333 := eq_true q333
              have p334 : 0 ≤ (x8_1 : Int) := of_decide_eq_true (by first | (with_reducible assumption) | assumption)
              have q334 : x8_1 < (l1.length : Int) := of_decide_eq_true (by first | (with_reducible assumption) | assumption)
              obtain ⟨ad334, A334_3, c334_3, e334, hx334_0, hx334_1, hx334_2, hx334_3, hl334_3, hi334_3⟩ := at_T52 (Kd.V_reads' HO_1.out).2.2 x8_1 p334 q334
              obtain rfl : ad333 = ad334 := (by injection e334)
              obtain ⟨ce334, hce334, hMe334, hcc334⟩ := Kd.V_get HO_1.out z52 x8_1 p334 (by first | exact q334 | exact of_decide_eq_true (by first | (with_reducible assumption) | assumption) | (have e_ := (Kd.V_reads' HO_1.out).1; omega))
              obtain ⟨ua334_3, uc334_3, rfl, ul334_3, ge334_3⟩ := k52_openF hMe334
              have hv334_3 := hcc334 3 _ rfl
              rw [add_field _ _ 3 (by omega)] at hv334_3
              replace hv334_3 := Option.some.inj (hv334_3.symm.trans hx334_3)
              injection hv334_3 with hva_ hvn_ hvc_
              rw [hva_] at ge334_3
              rw [hvc_] at ul334_3
              have HL334_3 := Aside0.mk (show Kd.V k52 52 _ w.heap.size _ _ ((rd_T52 l1 x8_1).f3) from Kd.V_mk ul334_3 ge334_3)
              clear hva_ hvn_ hvc_ ge334_3 ul334_3
              clear hcc334 hce334
              have HR334_3 := Aside0.mk hi334_3
              have HC334_3 := Aside0.mk hl334_3
              clear hi334_3 hl334_3
              replace p334 := eq_true p334
              replace q334 := eq_true q334
              have ea_ := Option.some.inj (hx333_3.symm.trans hx334_3)
              injection ea_ with ea_ en_ ec_
              subst ea_
              subst ec_
              clear en_
              go_wp2
              go_roundg k1
              case measure => have := HK1.out; omega
              case rel => exact ⟨(x4_1), (x5_1), ((((rd_T52 l1 x8_1).f0) == 5)), (wrap64 (x8_1 + 1)), (by first | rfl | (simp; done) | (simp [*]; done)), (by first | rfl | (simp; done) | (simp [*]; done)), (by first | rfl | (simp; done) | (simp [*]; done)), H', ⟨by have := HK1.out; omega⟩, ⟨by (with_reducible repeat (first | apply Kd.V_alloc | apply Kd.V_drewN | apply Kd.V_drew)); exact HO_1.out⟩, ⟨by (with_reducible repeat (first | apply Kd.N_alloc | apply Kd.N_drewN | apply Kd.N_drew)); exact HO_5.out⟩, ⟨by repeat (first | (with_reducible first | exact HB.out | apply below_alloc | apply pw_below_drewN | apply below_drew1) | exact HB.out)⟩⟩
          · rw [if_neg c8] at H
            exact absurd H (by simp)
      · rw [if_neg c3] at H
        have c3b0 : decide (x8_1 < (l1.length : Int)) = false := decide_eq_false c3
        clear c3
        by_cases c11 : x7_1 = true
        · subst c11
          have H1 : (spec_Expanded.l1 k1 a0 l1 x4_1 x5_1 0 0) = some (r1, r2, r3) := by rw [if_pos rfl] at H; exact H
          clear H
          have H := H1
          clear H1
          have H' := Aside0.mk H
          clear H
          go_wp2
          go_loopg [4, 5, 9, 10] k1 (fun kq v4 v5 v9 v10 w' => ∃ (x4_2 : ByteArray) (x5_2 : List (S52)) (x9_2 : Int) (x10_2 : Int), v4 = .string x4_2 ∧ v9 = .int .i64 x9_2 ∧ v10 = .int .i64 x10_2 ∧ Aside0 (spec_Expanded.l1 kq a0 l1 x4_2 x5_2 x9_2 x10_2 = some (r1, r2, r3)) ∧ Aside0 (kq ≤ k1) ∧ Aside0 (Kd.V k52 52 w' w.heap.size (fun k_ => (P1_ k_ ∨ w.heap.size ≤ k_) ∧ some k_ ≠ (v5 : Value).ownBlock) (.slice A1 l1.length c1) l1) ∧ Aside0 (Kd.N k52 52 w' w.heap.size (fun k_ => (P1_ k_ ∨ w.heap.size ≤ k_)) v5 x5_2) ∧ Aside0 (Below w.heap.size w w'))
          case atStart => exact ⟨(x4_1), (x5_1), (0), (0), (by first | rfl | (simp; done) | (simp [*]; done)), (by first | rfl | (simp; done) | (simp [*]; done)), (by first | rfl | (simp; done) | (simp [*]; done)), H', ⟨Nat.le_refl _⟩, ⟨by (with_reducible repeat (first | apply Kd.V_alloc | apply Kd.V_drewN | apply Kd.V_drew)); exact HO_1.out⟩, ⟨by (with_reducible repeat (first | apply Kd.N_alloc | apply Kd.N_drewN | apply Kd.N_drew)); exact HO_5.out⟩, ⟨by repeat (first | (with_reducible first | exact HB.out | apply below_alloc | apply pw_below_drewN | apply below_drew1) | exact HB.out)⟩⟩
          case round =>
            clear H'
            try clear c1
            try clear p2
            try clear c3
            try clear c3b0
            try clear p3
            try clear q3
            try clear hx3
            try clear c4
            try clear c5
            try clear c5b0
            try clear c6
            try clear c6b0
            try clear c6b1
            try clear p6
            try clear c7
            try clear c7b0
            try clear c7b1
            try clear c7b2
            try clear c8
            try clear c8b0
            try clear c9
            try clear c9b0
            try clear c9b1
            try clear c10
            try clear c10b0
            try clear c10b1
            try clear c10b2
            try clear c11
            try clear hx331_0
            try clear hx331_1
            try clear hx331_2
            try clear hx331_3
            try clear hx332_0
            try clear hx332_1
            try clear hx332_2
            try clear hx332_3
            try clear hx333_0
            try clear hx333_1
            try clear hx333_2
            try clear hx333_3
            try clear hx334_0
            try clear hx334_1
            try clear hx334_2
            try clear hx334_3
            try clear hx335_0
            try clear hx335_1
            try clear hx335_2
            try clear hx335_3
            try clear p2
            try clear p331
            try clear p332
            try clear p333
            try clear p334
            try clear p335
            try clear q331
            try clear q332
            try clear q333
            try clear q334
            try clear q335
            obtain ⟨x4_2, x5_2, x9_2, x10_2, rfl, rfl, rfl, HA, HK2, HO_1, HO_5, HB⟩ := hrel
            cases gk with
            | zero => exact absurd HA.out (by simp [spec_Expanded.l1])
            | succ k2 =>
              have H := HA.out
              clear HA
              simp only [spec_Expanded.l1] at H
              by_cases c12 : x10_2 < (a0.size : Int)
              · rw [if_pos c12] at H
                have c12b0 : decide (x10_2 < (a0.size : Int)) = true := decide_eq_true c12
                clear c12
                by_cases c13 : 0 ≤ x10_2
                · rw [if_pos c13] at H
                  have c13b0 : decide (0 ≤ x10_2) = true := decide_eq_true c13
                  clear c13
                  by_cases c15 : (bt a0 x10_2) = 63
                  · rw [if_pos c15] at H
                    have c15b0 : ((bt a0 x10_2) == 63) = true := beq_iff_eq.mpr c15
                    have c15b1 : ((bt a0 x10_2) != 63) = false := bne_eq_false_iff_eq.mpr c15
                    clear c15
                    by_cases c16 : x9_2 ≥ (l1.length : Int)
                    · rw [if_pos c16] at H
                      have c16b0 : decide ((l1.length : Int) ≤ x9_2) = true := decide_eq_true c16
                      clear c16
                      simp only [Option.some.injEq, Prod.mk.injEq] at H
                      obtain ⟨rfl, rfl, rfl⟩ := H
                      have p14 : 0 ≤ (x10_2 : Int) := of_decide_eq_true (by first | (with_reducible assumption) | assumption)
                      have q14 : x10_2 < (a0.size : Int) := of_decide_eq_true (by first | (with_reducible assumption) | assumption)
                      have hx14 := bt_at a0 x10_2
                      replace p14 := eq_true p14
                      replace q14 := eq_true q14
                      go_wp2
                      go_ret3
                      exact ⟨_, by first | rfl | (simp [errW_none, errW_some] <;> rfl) | (simp [*, errW_none, errW_some] <;> rfl), (by first | exact Kd.V_nil _ _ _ _ _ | exact Kd.N_V (Kd.N_nil _ _ _ _ _)), by repeat (first | (with_reducible first | exact HB.out | apply below_alloc | apply pw_below_drewN | apply below_drew1) | exact HB.out)⟩
                    · rw [if_neg c16] at H
                      have c16b0 : decide ((l1.length : Int) ≤ x9_2) = false := decide_eq_false c16
                      clear c16
                      by_cases c17 : 0 ≤ x9_2
                      · rw [if_pos c17] at H
                        have c17b0 : decide (0 ≤ x9_2) = true := decide_eq_true c17
                        clear c17
                        by_cases c18 : x9_2 < (l1.length : Int)
                        · rw [if_pos c18] at H
                          have c18b0 : decide (x9_2 < (l1.length : Int)) = true := decide_eq_true c18
                          clear c18
                          by_cases c19 : ((rd_T52 l1 x9_2).f0) = 5
                          · rw [if_pos c19] at H
                            have c19b0 : (((rd_T52 l1 x9_2).f0) == 5) = true := beq_iff_eq.mpr c19
                            have c19b1 : (((rd_T52 l1 x9_2).f0) != 5) = false := bne_eq_false_iff_eq.mpr c19
                            clear c19
                            have H' := Aside0.mk H
                            clear H
                            have p14 : 0 ≤ (x10_2 : Int) := of_decide_eq_true (by first | (with_reducible assumption) | assumption)
                            have q14 : x10_2 < (a0.size : Int) := of_decide_eq_true (by first | (with_reducible assumption) | assumption)
                            have hx14 := bt_at a0 x10_2
                            replace p14 := eq_true p14
                            replace q14 := eq_true q14
                            have p336 : 0 ≤ (x9_2 : Int) := of_decide_eq_true (by first | (with_reducible assumption) | assumption)
                            have q336 : x9_2 < (l1.length : Int) := of_decide_eq_true (by first | (with_reducible assumption) | assumption)
                            obtain ⟨ad336, A336_3, c336_3, e336, hx336_0, hx336_1, hx336_2, hx336_3, hl336_3, hi336_3⟩ := at_T52 (Kd.V_reads' HO_1.out).2.2 x9_2 p336 q336
                            cases e336
                            obtain ⟨ce336, hce336, hMe336, hcc336⟩ := Kd.V_get HO_1.out z52 x9_2 p336 (by first | exact q336 | exact of_decide_eq_true (by first | (with_reducible assumption) | assumption) | (have e_ := (Kd.V_reads' HO_1.out).1; omega))
                            obtain ⟨ua336_3, uc336_3, rfl, ul336_3, ge336_3⟩ := k52_openF hMe336
                            have hv336_3 := hcc336 3 _ rfl
                            rw [add_field _ _ 3 (by omega)] at hv336_3
                            replace hv336_3 := Option.some.inj (hv336_3.symm.trans hx336_3)
                            injection hv336_3 with hva_ hvn_ hvc_
                            rw [hva_] at ge336_3
                            rw [hvc_] at ul336_3
                            have HL336_3 := Aside0.mk (show Kd.V k52 52 _ w.heap.size _ _ ((rd_T52 l1 x9_2).f3) from Kd.V_mk ul336_3 ge336_3)
                            clear hva_ hvn_ hvc_ ge336_3 ul336_3
                            clear hcc336 hce336
                            have HR336_3 := Aside0.mk hi336_3
                            have HC336_3 := Aside0.mk hl336_3
                            clear hi336_3 hl336_3
                            replace p336 := eq_true p336
                            replace q336 := eq_true q336
                            go_wp2
                            go_loopg [4, 11] k2 (fun kq v4 v11 w' => ∃ (x4_3 : ByteArray) (x11_3 : Int), v4 = .string x4_3 ∧ v11 = .int .i64 x11_3 ∧ Aside0 (spec_Expanded.l2 kq a0 l1 x4_3 x5_2 x9_2 x10_2 x11_3 = some (r1, r2, r3)) ∧ Aside0 (kq ≤ k2) ∧ Aside0 (Kd.V k52 52 w' w.heap.size (fun k_ => (P1_ k_ ∨ w.heap.size ≤ k_) ∧ some k_ ≠ (u5 : Value).ownBlock) (.slice (some ad336) l1.length c1) l1) ∧ Aside0 (Kd.N k52 52 w' w.heap.size (fun k_ => (P1_ k_ ∨ w.heap.size ≤ k_)) u5 x5_2) ∧ Aside0 (Kd.C k52 w' A336_3 ((rd_T52 l1 x9_2).f3).length ((rd_T52 l1 x9_2).f3)) ∧ Aside0 (Below w.heap.size w w'))
                            case atStart => exact ⟨(x4_2), (0), (by first | rfl | (simp; done) | (simp [*]; done)), (by first | rfl | (simp; done) | (simp [*]; done)), H', ⟨Nat.le_refl _⟩, ⟨by (with_reducible repeat (first | apply Kd.V_alloc | apply Kd.V_drewN | apply Kd.V_drew)); exact HO_1.out⟩, ⟨by (with_reducible repeat (first | apply Kd.N_alloc | apply Kd.N_drewN | apply Kd.N_drew)); exact HO_5.out⟩, ⟨by repeat (first | (with_reducible exact HR336_3.out) | (with_reducible refine Kd.C_alloc ?_ _) | (with_reducible refine Kd.C_drewN ?_ _) | (with_reducible refine Kd.C_drew ?_) | exact HR336_3.out)⟩, ⟨by repeat (first | (with_reducible first | exact HB.out | apply below_alloc | apply pw_below_drewN | apply below_drew1) | exact HB.out)⟩⟩
                            case round =>
                              clear H'
                              try clear c1
                              try clear p1
                              try clear q1
                              try clear hx1
                              try clear p2
                              try clear c3
                              try clear c3b0
                              try clear p3
                              try clear q3
                              try clear hx3
                              try clear c4
                              try clear c5
                              try clear c5b0
                              try clear c6
                              try clear c6b0
                              try clear c6b1
                              try clear p6
                              try clear c7
                              try clear c7b0
                              try clear c7b1
                              try clear c7b2
                              try clear c8
                              try clear c8b0
                              try clear c9
                              try clear c9b0
                              try clear c9b1
                              try clear c10
                              try clear c10b0
                              try clear c10b1
                              try clear c10b2
                              try clear c11
                              try clear c12
                              try clear c12b0
                              try clear c13
                              try clear c13b0
                              try clear p14
                              try clear q14
                              try clear hx14
                              try clear c15
                              try clear c15b0
                              try clear c15b1
                              try clear c16
                              try clear c16b0
                              try clear c17
                              try clear c17b0
                              try clear c18
                              try clear c18b0
                              try clear c19
                              try clear c19b0
                              try clear c19b1
                              try clear hx331_0
                              try clear hx331_1
                              try clear hx331_2
                              try clear hx331_3
                              try clear hx332_0
                              try clear hx332_1
                              try clear hx332_2
                              try clear hx332_3
                              try clear hx333_0
                              try clear hx333_1
                              try clear hx333_2
                              try clear hx333_3
                              try clear hx334_0
                              try clear hx334_1
                              try clear hx334_2
                              try clear hx334_3
                              try clear hx335_0
                              try clear hx335_1
                              try clear hx335_2
                              try clear hx335_3
                              try clear hx336_0
                              try clear hx336_1
                              try clear hx336_2
                              try clear hx336_3
                              try clear p14
                              try clear p2
                              try clear p3
                              try clear p331
                              try clear p332
                              try clear p333
                              try clear p334
                              try clear p335
                              try clear p336
                              try clear p6
                              try clear q14
                              try clear q3
                              try clear q331
                              try clear q332
                              try clear q333
                              try clear q334
                              try clear q335
                              try clear q336
                              obtain ⟨x4_3, x11_3, rfl, rfl, HA, HK3, HO_1, HO_5, HR336_3, HB⟩ := hrel
                              cases gk with
                              | zero => exact absurd HA.out (by simp [spec_Expanded.l2])
                              | succ k3 =>
                                have H := HA.out
                                clear HA
                                simp only [spec_Expanded.l2] at H
                                by_cases c20 : 0 ≤ x9_2
                                · rw [if_pos c20] at H
                                  have c20b0 : decide (0 ≤ x9_2) = true := decide_eq_true c20
                                  clear c20
                                  by_cases c21 : x9_2 < (l1.length : Int)
                                  · rw [if_pos c21] at H
                                    have c21b0 : decide (x9_2 < (l1.length : Int)) = true := decide_eq_true c21
                                    clear c21
                                    by_cases c22 : x11_3 < (((rd_T52 l1 x9_2).f3).length : Int)
                                    · rw [if_pos c22] at H
                                      have c22b0 : decide (x11_3 < (((rd_T52 l1 x9_2).f3).length : Int)) = true := decide_eq_true c22
                                      clear c22
                                      by_cases c23 : x11_3 > 0
                                      · rw [if_pos c23] at H
                                        have c23b0 : decide (0 < x11_3) = true := decide_eq_true c23
                                        clear c23
                                        by_cases c24 : x4_3.size + 2 ≤ 9223372036854775807
                                        · rw [if_pos c24] at H
                                          have c24b0 := eq_true c24
                                          have c24b1 : decide (x4_3.size + 2 ≤ 9223372036854775807) = true := decide_eq_true c24
                                          try have c24b2 : (9223372036854775807 < x4_3.size + 2) = False := eq_false (Nat.not_lt.2 c24)
                                          by_cases c25 : (x4_3 ++ (⟨#[44, 32]⟩ : ByteArray)).size + 1 ≤ 9223372036854775807
                                          · rw [if_pos c25] at H
                                            have c25b0 := eq_true c25
                                            have c25b1 : decide ((x4_3 ++ (⟨#[44, 32]⟩ : ByteArray)).size + 1 ≤ 9223372036854775807) = true := decide_eq_true c25
                                            try have c25b2 : (9223372036854775807 < (x4_3 ++ (⟨#[44, 32]⟩ : ByteArray)).size + 1) = False := eq_false (Nat.not_lt.2 c25)
                                            have c25b3 : (9223372036854775807 < x4_3.size + 2 + 1) = False := eq_false (Nat.not_lt.2 (by have h := c25; rw [ByteArray.size_append] at h; exact h))
                                            have H' := Aside0.mk H
                                            clear H
                                            have p337 : 0 ≤ (x9_2 : Int) := of_decide_eq_true (by first | (with_reducible assumption) | assumption)
                                            have q337 : x9_2 < (l1.length : Int) := of_decide_eq_true (by first | (with_reducible assumption) | assumption)
                                            obtain ⟨ad337, A337_3, c337_3, e337, hx337_0, hx337_1, hx337_2, hx337_3, hl337_3, hi337_3⟩ := at_T52 (Kd.V_reads' HO_1.out).2.2 x9_2 p337 q337
                                            obtain rfl : ad336 = ad337 := (by injection e337)
                                            obtain ⟨ce337, hce337, hMe337, hcc337⟩ := Kd.V_get HO_1.out z52 x9_2 p337 (by first | exact q337 | exact of_decide_eq_true (by first | (with_reducible assumption) | assumption) | (have e_ := (Kd.V_reads' HO_1.out).1; omega))
                                            obtain ⟨ua337_3, uc337_3, rfl, ul337_3, ge337_3⟩ := k52_openF hMe337
                                            have hv337_3 := hcc337 3 _ rfl
                                            rw [add_field _ _ 3 (by omega)] at hv337_3
                                            replace hv337_3 := Option.some.inj (hv337_3.symm.trans hx337_3)
                                            injection hv337_3 with hva_ hvn_ hvc_
                                            rw [hva_] at ge337_3
                                            rw [hvc_] at ul337_3
                                            have HL337_3 := Aside0.mk (show Kd.V k52 52 _ w.heap.size _ _ ((rd_T52 l1 x9_2).f3) from Kd.V_mk ul337_3 ge337_3)
                                            clear hva_ hvn_ hvc_ ge337_3 ul337_3
                                            clear hcc337 hce337
                                            have HR337_3 := Aside0.mk hi337_3
                                            have HC337_3 := Aside0.mk hl337_3
                                            clear hi337_3 hl337_3
                                            replace p337 := eq_true p337
                                            replace q337 := eq_true q337
                                            go_wp2
                                            go_roundg k3
                                            case measure => have := HK1.out; have := HK2.out; have := HK3.out; omega
                                            case rel => exact ⟨((x4_3 ++ (⟨#[44, 32]⟩ : ByteArray)) ++ (⟨#[63]⟩ : ByteArray)), (wrap64 (x11_3 + 1)), (by first | rfl | (simp; done) | (simp [*]; done)), (by first | rfl | (simp; done) | (simp [*]; done)), H', ⟨by have := HK1.out; have := HK2.out; have := HK3.out; omega⟩, ⟨by (with_reducible repeat (first | apply Kd.V_alloc | apply Kd.V_drewN | apply Kd.V_drew)); exact HO_1.out⟩, ⟨by (with_reducible repeat (first | apply Kd.N_alloc | apply Kd.N_drewN | apply Kd.N_drew)); exact HO_5.out⟩, ⟨by repeat (first | (with_reducible exact HR336_3.out) | (with_reducible refine Kd.C_alloc ?_ _) | (with_reducible refine Kd.C_drewN ?_ _) | (with_reducible refine Kd.C_drew ?_) | exact HR336_3.out)⟩, ⟨by repeat (first | (with_reducible first | exact HB.out | apply below_alloc | apply pw_below_drewN | apply below_drew1) | exact HB.out)⟩⟩
                                          · rw [if_neg c25] at H
                                            exact absurd H (by simp)
                                        · rw [if_neg c24] at H
                                          exact absurd H (by simp)
                                      · rw [if_neg c23] at H
                                        have c23b0 : decide (0 < x11_3) = false := decide_eq_false c23
                                        clear c23
                                        by_cases c26 : x4_3.size + 1 ≤ 9223372036854775807
                                        · rw [if_pos c26] at H
                                          have c26b0 := eq_true c26
                                          have c26b1 : decide (x4_3.size + 1 ≤ 9223372036854775807) = true := decide_eq_true c26
                                          try have c26b2 : (9223372036854775807 < x4_3.size + 1) = False := eq_false (Nat.not_lt.2 c26)
                                          have H' := Aside0.mk H
                                          clear H
                                          have p337 : 0 ≤ (x9_2 : Int) := of_decide_eq_true (by first | (with_reducible assumption) | assumption)
                                          have q337 : x9_2 < (l1.length : Int) := of_decide_eq_true (by first | (with_reducible assumption) | assumption)
                                          obtain ⟨ad337, A337_3, c337_3, e337, hx337_0, hx337_1, hx337_2, hx337_3, hl337_3, hi337_3⟩ := at_T52 (Kd.V_reads' HO_1.out).2.2 x9_2 p337 q337
                                          obtain rfl : ad336 = ad337 := (by injection e337)
                                          obtain ⟨ce337, hce337, hMe337, hcc337⟩ := Kd.V_get HO_1.out z52 x9_2 p337 (by first | exact q337 | exact of_decide_eq_true (by first | (with_reducible assumption) | assumption) | (have e_ := (Kd.V_reads' HO_1.out).1; omega))
                                          obtain ⟨ua337_3, uc337_3, rfl, ul337_3, ge337_3⟩ := k52_openF hMe337
                                          have hv337_3 := hcc337 3 _ rfl
                                          rw [add_field _ _ 3 (by omega)] at hv337_3
                                          replace hv337_3 := Option.some.inj (hv337_3.symm.trans hx337_3)
                                          injection hv337_3 with hva_ hvn_ hvc_
                                          rw [hva_] at ge337_3
                                          rw [hvc_] at ul337_3
                                          have HL337_3 := Aside0.mk (show Kd.V k52 52 _ w.heap.size _ _ ((rd_T52 l1 x9_2).f3) from Kd.V_mk ul337_3 ge337_3)
                                          clear hva_ hvn_ hvc_ ge337_3 ul337_3
                                          clear hcc337 hce337
                                          have HR337_3 := Aside0.mk hi337_3
                                          have HC337_3 := Aside0.mk hl337_3
                                          clear hi337_3 hl337_3
                                          replace p337 := eq_true p337
                                          replace q337 := eq_true q337
                                          go_wp2
                                          go_roundg k3
                                          case measure => have := HK1.out; have := HK2.out; have := HK3.out; omega
                                          case rel => exact ⟨(x4_3 ++ (⟨#[63]⟩ : ByteArray)), (wrap64 (x11_3 + 1)), (by first | rfl | (simp; done) | (simp [*]; done)), (by first | rfl | (simp; done) | (simp [*]; done)), H', ⟨by have := HK1.out; have := HK2.out; have := HK3.out; omega⟩, ⟨by (with_reducible repeat (first | apply Kd.V_alloc | apply Kd.V_drewN | apply Kd.V_drew)); exact HO_1.out⟩, ⟨by (with_reducible repeat (first | apply Kd.N_alloc | apply Kd.N_drewN | apply Kd.N_drew)); exact HO_5.out⟩, ⟨by repeat (first | (with_reducible exact HR336_3.out) | (with_reducible refine Kd.C_alloc ?_ _) | (with_reducible refine Kd.C_drewN ?_ _) | (with_reducible refine Kd.C_drew ?_) | exact HR336_3.out)⟩, ⟨by repeat (first | (with_reducible first | exact HB.out | apply below_alloc | apply pw_below_drewN | apply below_drew1) | exact HB.out)⟩⟩
                                        · rw [if_neg c26] at H
                                          exact absurd H (by simp)
                                    · rw [if_neg c22] at H
                                      have c22b0 : decide (x11_3 < (((rd_T52 l1 x9_2).f3).length : Int)) = false := decide_eq_false c22
                                      clear c22
                                      by_cases c27 : x5_2.length + ((rd_T52 l1 x9_2).f3).length < 2513169434916
                                      · rw [if_pos c27] at H
                                        have LMc27 := Aside0.mk c27
                                        clear c27
                                        obtain ⟨y339, hy339⟩ : ∃ y_ : List (S52), y_ = (x5_2 ++ ((rd_T52 l1 x9_2).f3)) := ⟨_, rfl⟩
                                        replace H : (spec_Expanded.l1 k3 a0 l1 x4_3 y339 (wrap64 (x9_2 + 1)) (wrap64 (x10_2 + 1))) = some (r1, r2, r3) := by first | (rw [hy339]; with_reducible exact H) | (have H2_ := (Option.bind_some _ _).symm.trans H; rw [hy339]; with_reducible exact H2_) | (have H2_ := (Option.bind_some _ _).symm.trans H; with_reducible exact H2_) | with_reducible exact H | (rw [hy339]; exact H) | exact H
                                        have Ny339 := Aside0.mk hy339
                                        clear hy339
                                        have H' := Aside0.mk H
                                        clear H
                                        have p337 : 0 ≤ (x9_2 : Int) := of_decide_eq_true (by first | (with_reducible assumption) | assumption)
                                        have q337 : x9_2 < (l1.length : Int) := of_decide_eq_true (by first | (with_reducible assumption) | assumption)
                                        obtain ⟨ad337, A337_3, c337_3, e337, hx337_0, hx337_1, hx337_2, hx337_3, hl337_3, hi337_3⟩ := at_T52 (Kd.V_reads' HO_1.out).2.2 x9_2 p337 q337
                                        obtain rfl : ad336 = ad337 := (by injection e337)
                                        obtain ⟨ce337, hce337, hMe337, hcc337⟩ := Kd.V_get HO_1.out z52 x9_2 p337 (by first | exact q337 | exact of_decide_eq_true (by first | (with_reducible assumption) | assumption) | (have e_ := (Kd.V_reads' HO_1.out).1; omega))
                                        obtain ⟨ua337_3, uc337_3, rfl, ul337_3, ge337_3⟩ := k52_openF hMe337
                                        have hv337_3 := hcc337 3 _ rfl
                                        rw [add_field _ _ 3 (by omega)] at hv337_3
                                        replace hv337_3 := Option.some.inj (hv337_3.symm.trans hx337_3)
                                        injection hv337_3 with hva_ hvn_ hvc_
                                        rw [hva_] at ge337_3
                                        rw [hvc_] at ul337_3
                                        have HL337_3 := Aside0.mk (show Kd.V k52 52 _ w.heap.size _ _ ((rd_T52 l1 x9_2).f3) from Kd.V_mk ul337_3 ge337_3)
                                        clear hva_ hvn_ hvc_ ge337_3 ul337_3
                                        clear hcc337 hce337
                                        have HR337_3 := Aside0.mk hi337_3
                                        have HC337_3 := Aside0.mk hl337_3
                                        clear hi337_3 hl337_3
                                        replace p337 := eq_true p337
                                        replace q337 := eq_true q337
                                        have p338 : 0 ≤ (x9_2 : Int) := of_decide_eq_true (by first | (with_reducible assumption) | assumption)
                                        have q338 : x9_2 < (l1.length : Int) := of_decide_eq_true (by first | (with_reducible assumption) | assumption)
                                        obtain ⟨ad338, A338_3, c338_3, e338, hx338_0, hx338_1, hx338_2, hx338_3, hl338_3, hi338_3⟩ := at_T52 (Kd.V_reads' HO_1.out).2.2 x9_2 p338 q338
                                        obtain rfl : ad336 = ad338 := (by injection e338)
                                        obtain ⟨ce338, hce338, hMe338, hcc338⟩ := Kd.V_get HO_1.out z52 x9_2 p338 (by first | exact q338 | exact of_decide_eq_true (by first | (with_reducible assumption) | assumption) | (have e_ := (Kd.V_reads' HO_1.out).1; omega))
                                        obtain ⟨ua338_3, uc338_3, rfl, ul338_3, ge338_3⟩ := k52_openF hMe338
                                        have hv338_3 := hcc338 3 _ rfl
                                        rw [add_field _ _ 3 (by omega)] at hv338_3
                                        replace hv338_3 := Option.some.inj (hv338_3.symm.trans hx338_3)
                                        injection hv338_3 with hva_ hvn_ hvc_
                                        rw [hva_] at ge338_3
                                        rw [hvc_] at ul338_3
                                        have HL338_3 := Aside0.mk (show Kd.V k52 52 _ w.heap.size _ _ ((rd_T52 l1 x9_2).f3) from Kd.V_mk ul338_3 ge338_3)
                                        clear hva_ hvn_ hvc_ ge338_3 ul338_3
                                        clear hcc338 hce338
                                        have HR338_3 := Aside0.mk hi338_3
                                        have HC338_3 := Aside0.mk hl338_3
                                        clear hi338_3 hl338_3
                                        replace p338 := eq_true p338
                                        replace q338 := eq_true q338
                                        have ea_ := Option.some.inj (hx337_3.symm.trans hx338_3)
                                        injection ea_ with ea_ en_ ec_
                                        subst ea_
                                        subst ec_
                                        clear en_
                                        go_wp2_with (first | ((with_reducible refine gate_builtin (b := .append) (xs := #[.tmp 103, .tmp 108]) rfl ?_); (try (refine gate_guard (by rfl) ?_; dsimp only)); at_builtin; refine Kd.N_append_rows k52 (w0 := w) w.heap.size rfl (.tmp 103) (.tmp 108) 42 52 (.agg #[(.int .i64 0), (.int .i64 0), (.string ⟨#[]⟩), (.slice none 0 0)]) 56 rfl Tryd.underlying42 info52 rfl (by decide) (by omega) u5 x5_2 ((rd_T52 l1 x9_2).f3) _ _ _ (fun k_ => (P1_ k_ ∨ w.heap.size ≤ k_)) (fun k_ => ((fun k_ => (P1_ k_ ∨ w.heap.size ≤ k_))) k_ ∧ some k_ ≠ (u5 : Value).ownBlock) rfl rfl ?aO ?aR (fun _ hk => hk) ?aF ?aB ?aS ?aL ?_; (case aR => exact (by skip; exact Kd.V_F (Kd.V_mono (ok' := (fun k_ => ((fun k_ => (P1_ k_ ∨ w.heap.size ≤ k_))) k_ ∧ some k_ ≠ (u5 : Value).ownBlock)) (HL338_3.out) (fun k_ hk => ⟨hk.1, hk.2⟩)))); (case aB => exact (by repeat (first | (with_reducible first | exact HB.out | apply below_alloc | apply pw_below_drewN | apply below_drew1) | exact HB.out))); (case aF => exact (fun k_ hk => (.inr (Nat.le_trans (below_size (by repeat (first | (with_reducible first | exact HB.out | apply below_alloc | apply pw_below_drewN | apply below_drew1) | exact HB.out))) hk)))); (case aO => exact (by (with_reducible repeat (first | apply Kd.N_alloc | apply Kd.N_drewN | apply Kd.N_drew)); exact HO_5.out)); (case aS => exact (below_size (by repeat (first | (with_reducible first | exact HB.out | apply below_alloc | apply pw_below_drewN | apply below_drew1) | exact HB.out)))); (case aL => have := LMc27.out; omega); intro v340 w28 ho hb hg hat; rw [← Ny339.out] at ho; have n0_ := Aside0.mk (Kd.V_afterv (ok := (fun k_ => (P1_ k_ ∨ w.heap.size ≤ k_))) (by (with_reducible repeat (first | apply Kd.V_alloc | apply Kd.V_drewN | apply Kd.V_drew)); exact HO_1.out) hg hat); have n1_ := Aside0.mk (Kd.V_afterv (ok := (fun k_ => (P1_ k_ ∨ w.heap.size ≤ k_))) (by (with_reducible repeat (first | apply Kd.V_alloc | apply Kd.V_drewN | apply Kd.V_drew)); exact HL337_3.out) hg hat); have n2_ := Aside0.mk (Kd.V_afterv (ok := (fun k_ => (P1_ k_ ∨ w.heap.size ≤ k_))) (by (with_reducible repeat (first | apply Kd.V_alloc | apply Kd.V_drewN | apply Kd.V_drew)); exact HL338_3.out) hg hat); have n3_ := Aside0.mk (hb); have n4_ := Aside0.mk (ho); clear HO_1; clear HL337_3; clear HL338_3; clear HB; clear HO_5; have HO_1 := n0_; have HL337_3 := n1_; have HL338_3 := n2_; have HB := n3_; have HO341 := n4_; clear n0_ n1_ n2_ n3_ n4_; clear ho hb hg hat))
                                        go_roundg k3
                                        case measure => have := HK1.out; have := HK2.out; have := HK3.out; omega
                                        case rel => exact ⟨(x4_3), (y339), (wrap64 (x9_2 + 1)), (wrap64 (x10_2 + 1)), (by first | rfl | (simp; done) | (simp [*]; done)), (by first | rfl | (simp; done) | (simp [*]; done)), (by first | rfl | (simp; done) | (simp [*]; done)), H', ⟨by have := HK1.out; have := HK2.out; have := HK3.out; omega⟩, ⟨by (with_reducible repeat (first | apply Kd.V_alloc | apply Kd.V_drewN | apply Kd.V_drew)); exact HO_1.out⟩, ⟨by (with_reducible repeat (first | apply Kd.N_alloc | apply Kd.N_drewN | apply Kd.N_drew)); exact HO341.out⟩, ⟨by repeat (first | (with_reducible first | exact HB.out | apply below_alloc | apply pw_below_drewN | apply below_drew1) | exact HB.out)⟩⟩
                                      · rw [if_neg c27] at H
                                        exact absurd H (by simp)
                                  · rw [if_neg c21] at H
                                    exact absurd H (by simp)
                                · rw [if_neg c20] at H
                                  exact absurd H (by simp)
                          · rw [if_neg c19] at H
                            have c19b0 : (((rd_T52 l1 x9_2).f0) == 5) = false := beq_eq_false_iff_ne.mpr c19
                            have c19b1 : (((rd_T52 l1 x9_2).f0) != 5) = true := bne_iff_ne.mpr c19
                            by_cases c29 : x4_2.size + 1 ≤ 9223372036854775807
                            · rw [if_pos c29] at H
                              have c29b0 := eq_true c29
                              have c29b1 : decide (x4_2.size + 1 ≤ 9223372036854775807) = true := decide_eq_true c29
                              try have c29b2 : (9223372036854775807 < x4_2.size + 1) = False := eq_false (Nat.not_lt.2 c29)
                              by_cases c30 : x5_2.length < 2513169434916
                              · rw [if_pos c30] at H
                                have LMc30 := Aside0.mk c30
                                clear c30
                                obtain ⟨y343, hy343⟩ : ∃ y_ : List (S52), y_ = (x5_2 ++ [(⟨(rd_T52 l1 x9_2).f0, (rd_T52 l1 x9_2).f1, (rd_T52 l1 x9_2).f2, (rd_T52 l1 x9_2).f3⟩ : S52)]) := ⟨_, rfl⟩
                                replace H : (spec_Expanded.l1 k2 a0 l1 (x4_2 ++ (⟨#[63]⟩ : ByteArray)) y343 (wrap64 (x9_2 + 1)) (wrap64 (x10_2 + 1))) = some (r1, r2, r3) := by first | (rw [hy343]; with_reducible exact H) | (have H2_ := (Option.bind_some _ _).symm.trans H; rw [hy343]; with_reducible exact H2_) | (have H2_ := (Option.bind_some _ _).symm.trans H; with_reducible exact H2_) | with_reducible exact H | (rw [hy343]; exact H) | exact H
                                have Ny343 := Aside0.mk hy343
                                clear hy343
                                have H' := Aside0.mk H
                                clear H
                                have p14 : 0 ≤ (x10_2 : Int) := of_decide_eq_true (by first | (with_reducible assumption) | assumption)
                                have q14 : x10_2 < (a0.size : Int) := of_decide_eq_true (by first | (with_reducible assumption) | assumption)
                                have hx14 := bt_at a0 x10_2
                                replace p14 := eq_true p14
                                replace q14 := eq_true q14
                                have p336 : 0 ≤ (x9_2 : Int) := of_decide_eq_true (by first | (with_reducible assumption) | assumption)
                                have q336 : x9_2 < (l1.length : Int) := of_decide_eq_true (by first | (with_reducible assumption) | assumption)
                                obtain ⟨ad336, A336_3, c336_3, e336, hx336_0, hx336_1, hx336_2, hx336_3, hl336_3, hi336_3⟩ := at_T52 (Kd.V_reads' HO_1.out).2.2 x9_2 p336 q336
                                cases e336
                                obtain ⟨ce336, hce336, hMe336, hcc336⟩ := Kd.V_get HO_1.out z52 x9_2 p336 (by first | exact q336 | exact of_decide_eq_true (by first | (with_reducible assumption) | assumption) | (have e_ := (Kd.V_reads' HO_1.out).1; omega))
                                obtain ⟨ua336_3, uc336_3, rfl, ul336_3, ge336_3⟩ := k52_openF hMe336
                                have hv336_3 := hcc336 3 _ rfl
                                rw [add_field _ _ 3 (by omega)] at hv336_3
                                replace hv336_3 := Option.some.inj (hv336_3.symm.trans hx336_3)
                                injection hv336_3 with hva_ hvn_ hvc_
                                rw [hva_] at ge336_3
                                rw [hvc_] at ul336_3
                                have HL336_3 := Aside0.mk (show Kd.V k52 52 _ w.heap.size _ _ ((rd_T52 l1 x9_2).f3) from Kd.V_mk ul336_3 ge336_3)
                                clear hva_ hvn_ hvc_ ge336_3 ul336_3
                                clear hcc336 hce336
                                have HR336_3 := Aside0.mk hi336_3
                                have HC336_3 := Aside0.mk hl336_3
                                clear hi336_3 hl336_3
                                replace p336 := eq_true p336
                                replace q336 := eq_true q336
                                have p342 : 0 ≤ (x9_2 : Int) := of_decide_eq_true (by first | (with_reducible assumption) | assumption)
                                have q342 : x9_2 < (l1.length : Int) := of_decide_eq_true (by first | (with_reducible assumption) | assumption)
                                obtain ⟨ad342, A342_3, c342_3, e342, hx342_0, hx342_1, hx342_2, hx342_3, hl342_3, hi342_3⟩ := at_T52 (Kd.V_reads' HO_1.out).2.2 x9_2 p342 q342
                                obtain rfl : ad336 = ad342 := (by injection e342)
                                obtain ⟨ce342, hce342, hMe342, hcc342⟩ := Kd.V_get HO_1.out z52 x9_2 p342 (by first | exact q342 | exact of_decide_eq_true (by first | (with_reducible assumption) | assumption) | (have e_ := (Kd.V_reads' HO_1.out).1; omega))
                                obtain ⟨ua342_3, uc342_3, rfl, ul342_3, ge342_3⟩ := k52_openF hMe342
                                have hv342_3 := hcc342 3 _ rfl
                                rw [add_field _ _ 3 (by omega)] at hv342_3
                                replace hv342_3 := Option.some.inj (hv342_3.symm.trans hx342_3)
                                injection hv342_3 with hva_ hvn_ hvc_
                                rw [hva_] at ge342_3
                                rw [hvc_] at ul342_3
                                have HL342_3 := Aside0.mk (show Kd.V k52 52 _ w.heap.size _ _ ((rd_T52 l1 x9_2).f3) from Kd.V_mk ul342_3 ge342_3)
                                clear hva_ hvn_ hvc_ ge342_3 ul342_3
                                clear hcc342 hce342
                                have HR342_3 := Aside0.mk hi342_3
                                have HC342_3 := Aside0.mk hl342_3
                                clear hi342_3 hl342_3
                                replace p342 := eq_true p342
                                replace q342 := eq_true q342
                                have ea_ := Option.some.inj (hx336_3.symm.trans hx342_3)
                                injection ea_ with ea_ en_ ec_
                                subst ea_
                                subst ec_
                                clear en_
                                go_wp2_with (first | ((with_reducible refine gate_builtin (b := .append) (xs := #[.tmp 54, .tmp 59]) rfl ?_); (try (refine gate_guard (by rfl) ?_; dsimp only)); at_builtin; refine Kd.N_append k52 (w0 := w) w.heap.size rfl (.tmp 54) (.tmp 59) 42 52 (.agg #[(.int .i64 0), (.int .i64 0), (.string ⟨#[]⟩), (.slice none 0 0)]) 56 rfl Tryd.underlying42 info52 rfl (by decide) (by omega) u5 x5_2 (⟨(rd_T52 l1 x9_2).f0, (rd_T52 l1 x9_2).f1, (rd_T52 l1 x9_2).f2, (rd_T52 l1 x9_2).f3⟩ : S52) [.int .i64 ((rd_T52 l1 x9_2).f0), .int .i64 ((rd_T52 l1 x9_2).f1), .string ((rd_T52 l1 x9_2).f2), .slice A336_3 ((rd_T52 l1 x9_2).f3).length c336_3] (fun k_ => (P1_ k_ ∨ w.heap.size ≤ k_)) (fun k_ => ((fun k_ => (P1_ k_ ∨ w.heap.size ≤ k_))) k_ ∧ some k_ ≠ (u5 : Value).ownBlock) rfl rfl ?aP (fun _ hk => hk) ?aF ?aO ?aB ?aS ?aL ?_; (case aP => exact (k52_mkF _ _ (⟨(rd_T52 l1 x9_2).f0, (rd_T52 l1 x9_2).f1, (rd_T52 l1 x9_2).f2, (rd_T52 l1 x9_2).f3⟩ : S52) (Kd.V_reads' (Kd.V_mono (ok' := (fun k_ => ((fun k_ => (P1_ k_ ∨ w.heap.size ≤ k_))) k_ ∧ some k_ ≠ (u5 : Value).ownBlock)) (HL342_3.out) (fun k_ hk => ⟨hk.1, hk.2⟩))).2.1 (Kd.V_F (Kd.V_mono (ok' := (fun k_ => ((fun k_ => (P1_ k_ ∨ w.heap.size ≤ k_))) k_ ∧ some k_ ≠ (u5 : Value).ownBlock)) (HL342_3.out) (fun k_ hk => ⟨hk.1, hk.2⟩))))); (case aB => exact (by repeat (first | (with_reducible first | exact HB.out | apply below_alloc | apply pw_below_drewN | apply below_drew1) | exact HB.out))); (case aF => exact (fun k_ hk => (.inr (Nat.le_trans (below_size (by repeat (first | (with_reducible first | exact HB.out | apply below_alloc | apply pw_below_drewN | apply below_drew1) | exact HB.out))) hk)))); (case aO => exact (by (with_reducible repeat (first | apply Kd.N_alloc | apply Kd.N_drewN | apply Kd.N_drew)); exact HO_5.out)); (case aS => exact (below_size (by repeat (first | (with_reducible first | exact HB.out | apply below_alloc | apply pw_below_drewN | apply below_drew1) | exact HB.out)))); (case aL => have := LMc30.out; omega); intro v344 w31 ho hb hg hat; rw [← Ny343.out] at ho; have n0_ := Aside0.mk (Kd.V_afterv (ok := (fun k_ => (P1_ k_ ∨ w.heap.size ≤ k_))) (by (with_reducible repeat (first | apply Kd.V_alloc | apply Kd.V_drewN | apply Kd.V_drew)); exact HO_1.out) hg hat); have n1_ := Aside0.mk (Kd.V_afterv (ok := (fun k_ => (P1_ k_ ∨ w.heap.size ≤ k_))) (by (with_reducible repeat (first | apply Kd.V_alloc | apply Kd.V_drewN | apply Kd.V_drew)); exact HL336_3.out) hg hat); have n2_ := Aside0.mk (Kd.V_afterv (ok := (fun k_ => (P1_ k_ ∨ w.heap.size ≤ k_))) (by (with_reducible repeat (first | apply Kd.V_alloc | apply Kd.V_drewN | apply Kd.V_drew)); exact HL342_3.out) hg hat); have n3_ := Aside0.mk (hb); have n4_ := Aside0.mk (ho); clear HO_1; clear HL336_3; clear HL342_3; clear HB; clear HO_5; have HO_1 := n0_; have HL336_3 := n1_; have HL342_3 := n2_; have HB := n3_; have HO345 := n4_; clear n0_ n1_ n2_ n3_ n4_; clear ho hb hg hat))
                                go_roundg k2
                                case measure => have := HK1.out; have := HK2.out; omega
                                case rel => exact ⟨(x4_2 ++ (⟨#[63]⟩ : ByteArray)), (y343), (wrap64 (x9_2 + 1)), (wrap64 (x10_2 + 1)), (by first | rfl | (simp; done) | (simp [*]; done)), (by first | rfl | (simp; done) | (simp [*]; done)), (by first | rfl | (simp; done) | (simp [*]; done)), H', ⟨by have := HK1.out; have := HK2.out; omega⟩, ⟨by (with_reducible repeat (first | apply Kd.V_alloc | apply Kd.V_drewN | apply Kd.V_drew)); exact HO_1.out⟩, ⟨by (with_reducible repeat (first | apply Kd.N_alloc | apply Kd.N_drewN | apply Kd.N_drew)); exact HO345.out⟩, ⟨by repeat (first | (with_reducible first | exact HB.out | apply below_alloc | apply pw_below_drewN | apply below_drew1) | exact HB.out)⟩⟩
                              · rw [if_neg c30] at H
                                exact absurd H (by simp)
                            · rw [if_neg c29] at H
                              exact absurd H (by simp)
                        · rw [if_neg c18] at H
                          exact absurd H (by simp)
                      · rw [if_neg c17] at H
                        exact absurd H (by simp)
                  · rw [if_neg c15] at H
                    have c15b0 : ((bt a0 x10_2) == 63) = false := beq_eq_false_iff_ne.mpr c15
                    have c15b1 : ((bt a0 x10_2) != 63) = true := bne_iff_ne.mpr c15
                    have c32b0 := eq_true (of_decide_eq_true (by first | (with_reducible assumption) | assumption) : 0 ≤ x10_2)
                    by_cases c33 : x10_2 ≤ (wrap64 (x10_2 + 1))
                    · rw [if_pos c33] at H
                      have c33b0 := eq_true c33
                      have c33b1 : decide (x10_2 ≤ (wrap64 (x10_2 + 1))) = true := decide_eq_true c33
                      by_cases c34 : (wrap64 (x10_2 + 1)) ≤ (a0.size : Int)
                      · rw [if_pos c34] at H
                        have c34b0 := eq_true c34
                        have c34b1 : decide ((wrap64 (x10_2 + 1)) ≤ (a0.size : Int)) = true := decide_eq_true c34
                        by_cases c35 : x4_2.size + (a0.extract (x10_2 : Int).toNat ((wrap64 (x10_2 + 1)) : Int).toNat).size ≤ 9223372036854775807
                        · rw [if_pos c35] at H
                          have c35b0 := eq_true c35
                          have c35b1 : decide (x4_2.size + (a0.extract (x10_2 : Int).toNat ((wrap64 (x10_2 + 1)) : Int).toNat).size ≤ 9223372036854775807) = true := decide_eq_true c35
                          try have c35b2 : (9223372036854775807 < x4_2.size + (a0.extract (x10_2 : Int).toNat ((wrap64 (x10_2 + 1)) : Int).toNat).size) = False := eq_false (Nat.not_lt.2 c35)
                          have H' := Aside0.mk H
                          clear H
                          have p14 : 0 ≤ (x10_2 : Int) := of_decide_eq_true (by first | (with_reducible assumption) | assumption)
                          have q14 : x10_2 < (a0.size : Int) := of_decide_eq_true (by first | (with_reducible assumption) | assumption)
                          have hx14 := bt_at a0 x10_2
                          replace p14 := eq_true p14
                          replace q14 := eq_true q14
                          go_wp2
                          go_roundg k2
                          case measure => have := HK1.out; have := HK2.out; omega
                          case rel => exact ⟨(x4_2 ++ (a0.extract (x10_2 : Int).toNat ((wrap64 (x10_2 + 1)) : Int).toNat)), (x5_2), (x9_2), (wrap64 (x10_2 + 1)), (by first | rfl | (simp; done) | (simp [*]; done)), (by first | rfl | (simp; done) | (simp [*]; done)), (by first | rfl | (simp; done) | (simp [*]; done)), H', ⟨by have := HK1.out; have := HK2.out; omega⟩, ⟨by (with_reducible repeat (first | apply Kd.V_alloc | apply Kd.V_drewN | apply Kd.V_drew)); exact HO_1.out⟩, ⟨by (with_reducible repeat (first | apply Kd.N_alloc | apply Kd.N_drewN | apply Kd.N_drew)); exact HO_5.out⟩, ⟨by repeat (first | (with_reducible first | exact HB.out | apply below_alloc | apply pw_below_drewN | apply below_drew1) | exact HB.out)⟩⟩
                        · rw [if_neg c35] at H
                          exact absurd H (by simp)
                      · rw [if_neg c34] at H
                        exact absurd H (by simp)
                    · rw [if_neg c33] at H
                      exact absurd H (by simp)
                · rw [if_neg c13] at H
                  exact absurd H (by simp)
              · rw [if_neg c12] at H
                have c12b0 : decide (x10_2 < (a0.size : Int)) = false := decide_eq_false c12
                clear c12
                by_cases c36 : x9_2 < (l1.length : Int)
                · rw [if_pos c36] at H
                  have c36b0 : decide (x9_2 < (l1.length : Int)) = true := decide_eq_true c36
                  clear c36
                  simp only [Option.some.injEq, Prod.mk.injEq] at H
                  obtain ⟨rfl, rfl, rfl⟩ := H
                  go_wp2
                  go_ret3
                  exact ⟨_, by first | rfl | (simp [errW_none, errW_some] <;> rfl) | (simp [*, errW_none, errW_some] <;> rfl), (by first | exact Kd.V_nil _ _ _ _ _ | exact Kd.N_V (Kd.N_nil _ _ _ _ _)), by repeat (first | (with_reducible first | exact HB.out | apply below_alloc | apply pw_below_drewN | apply below_drew1) | exact HB.out)⟩
                · rw [if_neg c36] at H
                  have c36b0 : decide (x9_2 < (l1.length : Int)) = false := decide_eq_false c36
                  clear c36
                  simp only [Option.some.injEq, Prod.mk.injEq] at H
                  obtain ⟨rfl, rfl, rfl⟩ := H
                  go_wp2
                  go_ret3
                  exact ⟨_, by first | rfl | (simp [errW_none, errW_some] <;> rfl) | (simp [*, errW_none, errW_some] <;> rfl), Kd.N_V (by (with_reducible repeat (first | apply Kd.N_alloc | apply Kd.N_drewN | apply Kd.N_drew)); exact HO_5.out), by repeat (first | (with_reducible first | exact HB.out | apply below_alloc | apply pw_below_drewN | apply below_drew1) | exact HB.out)⟩
        · replace c11 := Bool.eq_false_iff.mpr c11
          subst c11
          have H1 : (some (a0, l1, true)) = some (r1, r2, r3) := by rw [if_neg (show ¬ (false = true) by decide)] at H; exact H
          clear H
          have H := H1
          clear H1
          simp only [Option.some.injEq, Prod.mk.injEq] at H
          obtain ⟨rfl, rfl, rfl⟩ := H
          go_wp2
          go_ret3
          exact ⟨_, by first | rfl | (simp [errW_none, errW_some] <;> rfl) | (simp [*, errW_none, errW_some] <;> rfl), by (with_reducible repeat (first | apply Kd.V_alloc | apply Kd.V_drewN | apply Kd.V_drew)); exact Kd.V_mono HO_1.out (fun _ hk => hk.1), by repeat (first | (with_reducible first | exact HB.out | apply below_alloc | apply pw_below_drewN | apply below_drew1) | exact HB.out)⟩

end Go.Proofs.YtnmhoghmhglimaaDoor.QN
