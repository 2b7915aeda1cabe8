-- WRITTEN BY A PROGRAM OF THIS SESSION (wip/print2.py): the print, with contracts of this session's own let in. Not trusted: Lean checks it.
import Derived.Test.YtmiggjncmeomlaaQS0
import Derived.Test.YtmiggjncmeomlaaQS1
import Derived.Test.YtmiggjncmeomlaaQS2
import Derived.Test.YtmiggjncmeomlaaQS3
import Derived.Test.YtmiggjncmeomlaaHEqI
import Derived.Test.YtmiggjncmeomlaaHNotEqI
import Derived.Test.YtmiggjncmeomlaaHSame
namespace Go.Proofs.Ytmiggjncmeomlaa.QS
open Go.RowKit Go.Proofs.YtmiggjncmeomlaaW.PrintWords Go.Proofs.YtmiggjncmeomlaaW.PrintLast Go.Proofs.YtmiggjncmeomlaaW.PrintMore
attribute [local go_sem] max2_int min2_int max_two min_two max_three min_three max_four min_four   -- for this text's walks alone
set_option linter.unusedVariables false
set_option linter.unusedSimpArgs false

open Go.Proofs.Ytmiggjncmeomlaa.H
/-! ### laws_FnEqNot: function 3 -/
mutual
def laws_FnEqNot.j0 : Nat → ByteArray → Bool → Int → Int → ByteArray → List (S24) → Option (Bool)
  | 0, _, _, _, _, _, _ => none
  | k + 1, x0, x20, x107000, x107001, x107002, x107003 => if x20 = true then (some true) else ((spec_NameOnly.f k x0).bind fun t108 => (if t108 = true then ((spec_ValueRight.f k x107000 x107001 x107002 x107003 true).bind fun t109 => (if t109 = true then (laws_FnEqNot.j1 k x0 (decide ((x0.size : Int) > 40)) x107000 x107001 x107002 x107003) else (laws_FnEqNot.j1 k x0 true x107000 x107001 x107002 x107003))) else (laws_FnEqNot.j1 k x0 true x107000 x107001 x107002 x107003)))
def laws_FnEqNot.j1 : Nat → ByteArray → Bool → Int → Int → ByteArray → List (S24) → Option (Bool)
  | 0, _, _, _, _, _, _ => none
  | k + 1, x0, x33, x107000, x107001, x107002, x107003 => if x33 = true then (some true) else ((impl_EqOf.f (([x0] : List ByteArray)) (([(⟨x107000, x107001, x107002, x107003⟩ : S24)] : List (S24)))).bind fun bt116 => ((impl_NotEqOf.f (([x0] : List ByteArray)) (([(⟨x107000, x107001, x107002, x107003⟩ : S24)] : List (S24)))).bind fun bt127 => (if x0.size + 4 ≤ 9223372036854775807 then (if x0.size + 5 ≤ 9223372036854775807 then (if x107000 = 0 then (if x0.size + 8 ≤ 9223372036854775807 then (if x0.size + 12 ≤ 9223372036854775807 then (laws_FnEqNot.j3 k bt116.1 bt116.2.1 bt116.2.2 bt127.1 bt127.2.1 bt127.2.2 (x0 ++ (⟨#[32, 73, 83, 32, 78, 85, 76, 76]⟩ : ByteArray)) (x0 ++ (⟨#[32, 73, 83, 32, 78, 79, 84, 32, 78, 85, 76, 76]⟩ : ByteArray))) else (none)) else (none)) else (if x107000 = 5 then (laws_FnEqNot.j2 k x0 bt116.1 bt116.2.1 bt116.2.2 bt127.1 bt127.2.1 bt127.2.2 (x0 ++ (⟨#[32, 61, 32, 63]⟩ : ByteArray)) (x0 ++ (⟨#[32, 60, 62, 32, 63]⟩ : ByteArray)) ((x107003.length : Int) == 0) x107000 x107001 x107002 x107003) else (laws_FnEqNot.j2 k x0 bt116.1 bt116.2.1 bt116.2.2 bt127.1 bt127.2.1 bt127.2.2 (x0 ++ (⟨#[32, 61, 32, 63]⟩ : ByteArray)) (x0 ++ (⟨#[32, 60, 62, 32, 63]⟩ : ByteArray)) false x107000 x107001 x107002 x107003))) else (none)) else (none))))
def laws_FnEqNot.j3 : Nat → ByteArray → List (S24) → Bool → ByteArray → List (S24) → Bool → ByteArray → ByteArray → Option (Bool)
  | 0, _, _, _, _, _, _, _, _ => none
  | k + 1, x5, x6, x7, x8, x9, x10, x11, x12 => if x7 = true then (if x10 = true then ((spec_SameValues.f x6 x9).bind fun t132 => (if t132 = true then (if (x5.size : Int) ≥ (x11.size : Int) then (if (x8.size : Int) ≥ (x12.size : Int) then (if 0 ≤ (x11.size : Int) then (if (x11.size : Int) ≤ (x5.size : Int) then (if (x5.extract 0 ((x11.size : Int) : Int).toNat).toList = x11.toList then (if 0 ≤ (x12.size : Int) then (if (x12.size : Int) ≤ (x8.size : Int) then (if (x8.extract 0 ((x12.size : Int) : Int).toNat).toList = x12.toList then (some ((x5.extract ((x11.size : Int) : Int).toNat x5.size).toList == (x8.extract ((x12.size : Int) : Int).toNat x8.size).toList)) else (some false)) else (none)) else (none)) else (some false)) else (none)) else (none)) else (some false)) else (some false)) else (some false))) else (some false)) else (some false)
def laws_FnEqNot.j2 : Nat → ByteArray → ByteArray → List (S24) → Bool → ByteArray → List (S24) → Bool → ByteArray → ByteArray → Bool → Int → Int → ByteArray → List (S24) → Option (Bool)
  | 0, _, _, _, _, _, _, _, _, _, _, _, _, _, _ => none
  | k + 1, x0, x5, x6, x7, x8, x9, x10, x11, x12, x64, x107000, x107001, x107002, x107003 => if x64 = true then (laws_FnEqNot.j3 k x5 x6 x7 x8 x9 x10 (⟨#[40, 49, 61, 48, 41]⟩ : ByteArray) (⟨#[40, 49, 61, 49, 41]⟩ : ByteArray)) else (if x107000 = 5 then (if x0.size + 5 ≤ 9223372036854775807 then (if x0.size + 9 ≤ 9223372036854775807 then (laws_FnEqNot.j3 k x5 x6 x7 x8 x9 x10 (x0 ++ (⟨#[32, 73, 78, 32, 40]⟩ : ByteArray)) (x0 ++ (⟨#[32, 78, 79, 84, 32, 73, 78, 32, 40]⟩ : ByteArray))) else (none)) else (none)) else (laws_FnEqNot.j3 k x5 x6 x7 x8 x9 x10 x11 x12))
end
def laws_FnEqNot.f (k : Nat) (a0 : ByteArray) (a1_0 : Int) (a1_1 : Int) (a1_2 : ByteArray) (l1_3 : List (S24)) : Option (Bool) := if (a0.size : Int) > 2147483647 then (laws_FnEqNot.j0 k a0 true a1_0 a1_1 a1_2 l1_3) else ((laws_zzFits2.f a1_0 a1_1 a1_2 l1_3).bind fun t107 => (laws_FnEqNot.j0 k a0 (!t107) a1_0 a1_1 a1_2 l1_3))
theorem laws_FnEqNot.mono_l : ∀ k, (∀ y0 y1 y2 y3 y4 y5, LeO (laws_FnEqNot.j0 k y0 y1 y2 y3 y4 y5) (laws_FnEqNot.j0 (k + 1) y0 y1 y2 y3 y4 y5)) ∧ (∀ y0 y1 y2 y3 y4 y5, LeO (laws_FnEqNot.j1 k y0 y1 y2 y3 y4 y5) (laws_FnEqNot.j1 (k + 1) y0 y1 y2 y3 y4 y5)) ∧ (∀ y0 y1 y2 y3 y4 y5 y6 y7, LeO (laws_FnEqNot.j3 k y0 y1 y2 y3 y4 y5 y6 y7) (laws_FnEqNot.j3 (k + 1) y0 y1 y2 y3 y4 y5 y6 y7)) ∧ (∀ y0 y1 y2 y3 y4 y5 y6 y7 y8 y9 y10 y11 y12 y13, LeO (laws_FnEqNot.j2 k y0 y1 y2 y3 y4 y5 y6 y7 y8 y9 y10 y11 y12 y13) (laws_FnEqNot.j2 (k + 1) y0 y1 y2 y3 y4 y5 y6 y7 y8 y9 y10 y11 y12 y13))
  | 0 => ⟨fun _ _ _ _ _ _ r h => by simp [laws_FnEqNot.j0] at h, fun _ _ _ _ _ _ r h => by simp [laws_FnEqNot.j1] at h, fun _ _ _ _ _ _ _ _ r h => by simp [laws_FnEqNot.j3] at h, fun _ _ _ _ _ _ _ _ _ _ _ _ _ _ r h => by simp [laws_FnEqNot.j2] at h⟩
  | k + 1 => by
    obtain ⟨ih0, ih1, ih2, ih3⟩ := laws_FnEqNot.mono_l k
    refine ⟨?_, ?_, ?_, ?_⟩
    · intro y0 y1 y2 y3 y4 y5
      unfold laws_FnEqNot.j0
      repeat' first
      | (with_reducible exact ih0 _ _ _ _ _ _)
      | (with_reducible exact ih1 _ _ _ _ _ _)
      | (with_reducible exact ih2 _ _ _ _ _ _ _ _)
      | (with_reducible exact ih3 _ _ _ _ _ _ _ _ _ _ _ _ _ _)
      | (with_reducible exact spec_NameOnly.mono _ _)
      | (with_reducible exact spec_ValueRight.mono _ _ _ _ _ _)
      | (with_reducible exact LeO.refl _)
      | (with_reducible exact LeO.none _)
      | (with_reducible refine LeO.ite ?_ ?_)
      | (with_reducible refine LeO.bind ?_ (fun _ => ?_))
      | exact ih0 _ _ _ _ _ _
      | exact ih1 _ _ _ _ _ _
      | exact ih2 _ _ _ _ _ _ _ _
      | exact ih3 _ _ _ _ _ _ _ _ _ _ _ _ _ _
      | exact spec_NameOnly.mono _ _
      | exact spec_ValueRight.mono _ _ _ _ _ _
      | exact LeO.none _
      | refine LeO.ite ?_ ?_
      | refine LeO.bind ?_ (fun _ => ?_)
    · intro y0 y1 y2 y3 y4 y5
      unfold laws_FnEqNot.j1
      repeat' first
      | (with_reducible exact ih0 _ _ _ _ _ _)
      | (with_reducible exact ih1 _ _ _ _ _ _)
      | (with_reducible exact ih2 _ _ _ _ _ _ _ _)
      | (with_reducible exact ih3 _ _ _ _ _ _ _ _ _ _ _ _ _ _)
      | (with_reducible exact spec_NameOnly.mono _ _)
      | (with_reducible exact spec_ValueRight.mono _ _ _ _ _ _)
      | (with_reducible exact LeO.refl _)
      | (with_reducible exact LeO.none _)
      | (with_reducible refine LeO.ite ?_ ?_)
      | (with_reducible refine LeO.bind ?_ (fun _ => ?_))
      | exact ih0 _ _ _ _ _ _
      | exact ih1 _ _ _ _ _ _
      | exact ih2 _ _ _ _ _ _ _ _
      | exact ih3 _ _ _ _ _ _ _ _ _ _ _ _ _ _
      | exact spec_NameOnly.mono _ _
      | exact spec_ValueRight.mono _ _ _ _ _ _
      | exact LeO.none _
      | refine LeO.ite ?_ ?_
      | refine LeO.bind ?_ (fun _ => ?_)
    · intro y0 y1 y2 y3 y4 y5 y6 y7
      unfold laws_FnEqNot.j3
      repeat' first
      | (with_reducible exact ih0 _ _ _ _ _ _)
      | (with_reducible exact ih1 _ _ _ _ _ _)
      | (with_reducible exact ih2 _ _ _ _ _ _ _ _)
      | (with_reducible exact ih3 _ _ _ _ _ _ _ _ _ _ _ _ _ _)
      | (with_reducible exact spec_NameOnly.mono _ _)
      | (with_reducible exact spec_ValueRight.mono _ _ _ _ _ _)
      | (with_reducible exact LeO.refl _)
      | (with_reducible exact LeO.none _)
      | (with_reducible refine LeO.ite ?_ ?_)
      | (with_reducible refine LeO.bind ?_ (fun _ => ?_))
      | exact ih0 _ _ _ _ _ _
      | exact ih1 _ _ _ _ _ _
      | exact ih2 _ _ _ _ _ _ _ _
      | exact ih3 _ _ _ _ _ _ _ _ _ _ _ _ _ _
      | exact spec_NameOnly.mono _ _
      | exact spec_ValueRight.mono _ _ _ _ _ _
      | exact LeO.none _
      | refine LeO.ite ?_ ?_
      | refine LeO.bind ?_ (fun _ => ?_)
    · intro y0 y1 y2 y3 y4 y5 y6 y7 y8 y9 y10 y11 y12 y13
      unfold laws_FnEqNot.j2
      repeat' first
      | (with_reducible exact ih0 _ _ _ _ _ _)
      | (with_reducible exact ih1 _ _ _ _ _ _)
      | (with_reducible exact ih2 _ _ _ _ _ _ _ _)
      | (with_reducible exact ih3 _ _ _ _ _ _ _ _ _ _ _ _ _ _)
      | (with_reducible exact spec_NameOnly.mono _ _)
      | (with_reducible exact spec_ValueRight.mono _ _ _ _ _ _)
      | (with_reducible exact LeO.refl _)
      | (with_reducible exact LeO.none _)
      | (with_reducible refine LeO.ite ?_ ?_)
      | (with_reducible refine LeO.bind ?_ (fun _ => ?_))
      | exact ih0 _ _ _ _ _ _
      | exact ih1 _ _ _ _ _ _
      | exact ih2 _ _ _ _ _ _ _ _
      | exact ih3 _ _ _ _ _ _ _ _ _ _ _ _ _ _
      | exact spec_NameOnly.mono _ _
      | exact spec_ValueRight.mono _ _ _ _ _ _
      | exact LeO.none _
      | refine LeO.ite ?_ ?_
      | refine LeO.bind ?_ (fun _ => ?_)
theorem laws_FnEqNot.mono : ∀ a0 a1 a2 a3 a4 k, LeO (laws_FnEqNot.f k a0 a1 a2 a3 a4) (laws_FnEqNot.f (k + 1) a0 a1 a2 a3 a4) := by
  intro a0 a1 a2 a3 a4 k
  obtain ⟨ih0, ih1, ih2, ih3⟩ := laws_FnEqNot.mono_l k
  unfold laws_FnEqNot.f
  repeat' first
      | (with_reducible exact ih0 _ _ _ _ _ _)
      | (with_reducible exact ih1 _ _ _ _ _ _)
      | (with_reducible exact ih2 _ _ _ _ _ _ _ _)
      | (with_reducible exact ih3 _ _ _ _ _ _ _ _ _ _ _ _ _ _)
      | (with_reducible exact spec_NameOnly.mono _ _)
      | (with_reducible exact spec_ValueRight.mono _ _ _ _ _ _)
      | (with_reducible exact LeO.refl _)
      | (with_reducible exact LeO.none _)
      | (with_reducible refine LeO.ite ?_ ?_)
      | (with_reducible refine LeO.bind ?_ (fun _ => ?_))
      | exact ih0 _ _ _ _ _ _
      | exact ih1 _ _ _ _ _ _
      | exact ih2 _ _ _ _ _ _ _ _
      | exact ih3 _ _ _ _ _ _ _ _ _ _ _ _ _ _
      | exact spec_NameOnly.mono _ _
      | exact spec_ValueRight.mono _ _ _ _ _ _
      | exact LeO.none _
      | refine LeO.ite ?_ ?_
      | refine LeO.bind ?_ (fun _ => ?_)
def laws_FnEqNot.T14 : Bool × List (List Nat × List Nat) := (true, [([], []), ([0], [0]), ([1], [1]), ([1, 2], [1, 2]), ([3, 1], [3]), ([4], [4]), ([4], [4]), ([5, 6, 4, 4], [4, 5, 6]), ([4, 7], [4, 7]), ([8, 7], [8]), ([9], [9]), ([10, 9], [9, 10]), ([9], [9]), ([12, 9], [9, 12]), ([11, 13, 9], [9, 11, 13]), ([9, 14], [9, 14]), ([15, 9], [15]), ([16], [16]), ([17, 16], [16, 17]), ([16], [16]), ([19, 16], [16, 19]), ([18, 20, 16], [16, 18, 20]), ([16, 21], [16, 21]), ([22, 16], [22]), ([23], [23]), ([23], [23]), ([25, 23], [23, 25]), ([24, 26, 23], [23, 24, 26]), ([23], [23]), ([27, 28, 23], [23, 27, 28]), ([23, 29], [23, 29]), ([30, 23], [30]), ([31], [31]), ([31], [31]), ([33, 31], [31, 33]), ([32, 34, 31], [31, 32, 34]), ([31], [31]), ([35, 36, 31], [31, 35, 36]), ([31, 37], [31, 37]), ([38, 31], [38]), ([39], [39]), ([39], [39]), ([41, 39], [39, 41]), ([40, 42, 39], [39, 40, 42]), ([39], [39]), ([39], [39]), ([45, 39], [39, 45]), ([44, 46, 39], [39, 44, 46]), ([43, 47, 39], [39, 43, 47]), ([39, 48], [39, 48]), ([49, 39, 0, 1, 2, 3, 4, 5, 6, 7, 8, 9, 10, 11, 12, 13, 14, 15, 16, 17, 18, 19, 20, 21, 22, 23, 24, 25, 26, 27, 28, 29, 30, 31, 32, 33, 34, 35, 36, 37, 38, 39, 40, 41, 42, 43, 44, 45, 46, 47, 48, 49], [49])])
def laws_FnEqNot.B14 : List Nat := [0, 1, 3, 7, 15, 31, 31, 127, 255, 511, 1023, 2047, 1023, 5119, 16383, 32767, 65535, 131071, 262143, 131071, 655359, 2097151, 4194303, 8388607, 16777215, 16777215, 50331647, 134217727, 16777215, 536870911, 1073741823, 2147483647, 4294967295, 4294967295, 12884901887, 34359738367, 4294967295, 137438953471, 274877906943, 549755813887, 1099511627775, 1099511627775, 3298534883327, 8796093022207, 1099511627775, 1099511627775, 36283883716607, 124244813938687, 281474976710655, 562949953421311, 1125899906842623]
theorem laws_FnEqNot.tab14 : rtab .any (opsOf Try.f3 14) = laws_FnEqNot.T14 := by kernel_rfl
theorem laws_FnEqNot.bits14 : waitsOk laws_FnEqNot.T14.2 laws_FnEqNot.B14 = true := by kernel_rfl
set_option maxHeartbeats 8000000 in
set_option maxRecDepth 100000 in
theorem laws_FnEqNot.calls (k : Nat) (a0 : ByteArray) (a1_0 : Int) (a1_1 : Int) (a1_2 : ByteArray) (P1_3_ : Nat → Prop) (A1_3 : Option Addr) (c1_3 : Nat) (l1_3 : List (S24)) (r : Bool) (hr_ : Aside0 (r = true)) (w : World) (hs1_3 : Kd.V k24 24 w w.heap.size (fun k_ => P1_3_ k_) (.slice A1_3 l1_3.length c1_3) l1_3) (h : laws_FnEqNot.f k a0 a1_0 a1_1 a1_2 l1_3 = some r) :
    Calls Try.prog 3 #[.string a0, .agg #[.int .i64 a1_0, .int .i64 a1_1, .string a1_2, .slice A1_3 l1_3.length c1_3]] w fun e w' => e = .returned (.bool r) ∧ Below w.heap.size w w' := by
  have hu24 := Try.underlying24
  have HO1_3 := Aside0.mk (show Kd.V k24 24 w w.heap.size (fun k_ => (P1_3_ k_ ∨ w.heap.size ≤ k_)) (.slice A1_3 l1_3.length c1_3) l1_3 from Kd.V_mono hs1_3 (fun k_ hk => .inl hk))
  have HB := Aside0.mk (Below.refl w.heap.size w)
  have H : (if (a0.size : Int) > 2147483647 then (laws_FnEqNot.j0 k a0 true a1_0 a1_1 a1_2 l1_3) else ((laws_zzFits2.f a1_0 a1_1 a1_2 l1_3).bind fun t107 => (laws_FnEqNot.j0 k a0 (!t107) a1_0 a1_1 a1_2 l1_3))) = some r := h
  clear h
  have HC3 := Aside0.mk H
  clear H
  go_enter Try.func3, Try.ntmps3
  go_upto_region 1 with (first | ((with_reducible refine gate_dst (N := 3) rfl ?_); (try (refine gate_guard (by rfl) ?_; dsimp only)); refine box_event ?hg (N := 3) ?hd (cs := #[.int .i64 a1_0, .int .i64 a1_1, .string a1_2, .slice A1_3 l1_3.length c1_3]) (t := 24) ?hr ?_; (case hd => rfl); (case hg => rfl); (case hr => first | (go_simp; done) | (go_simp; rfl)); intro gb106 hg w4 hbox hb; have n0_ := Aside0.mk (Kd.V_below (Kd.V_elderB (by (with_reducible repeat (first | apply Kd.V_alloc | apply Kd.V_drewN | apply Kd.V_drew)); exact HO1_3.out) gb106 (Nat.le_of_eq hg.symm)) hb); have n1_ := Aside0.mk (below_step (by repeat (first | (with_reducible first | exact HB.out | apply below_alloc | apply pw_below_drewN | apply below_drew1) | exact HB.out)) hb); have n2_ := Aside0.mk (hbox); have n3_ := Aside0.mk ((by rw [hg]; exact (below_size (by repeat (first | (with_reducible first | exact HB.out | apply below_alloc | apply pw_below_drewN | apply below_drew1) | exact HB.out))) : w.heap.size ≤ gb106)); have n4_ := Aside0.mk ((by rw [hg]; exact (below_size (by repeat (first | (with_reducible first | exact HB.out | apply below_alloc | apply pw_below_drewN | apply below_drew1) | exact HB.out))) : w.heap.size ≤ gb106)); clear HO1_3; clear HB; have HO1_3 := n0_; have HB := n1_; have BK106 := n2_; have GW106 := n3_; have GE106 := n4_; clear n0_ n1_ n2_ n3_ n4_; clear hb hbox hg))
  (try simp only [Act.put, List.setIfInBounds_toArray, List.set_cons_zero, List.set_cons_succ])
  go_cut [20] (fun v20 wc => ∃ (kq : Nat) (x20_2 : Bool), v20 = .bool x20_2 ∧ Aside0 (laws_FnEqNot.j0 kq a0 x20_2 a1_0 a1_1 a1_2 l1_3 = some r) ∧ Aside0 (kq ≤ k) ∧ Aside0 (Kd.V k24 24 wc w.heap.size (fun k_ => (P1_3_ k_ ∨ w.heap.size ≤ k_) ∧ k_ ≠ gb106) (.slice A1_3 l1_3.length c1_3) l1_3) ∧ Aside0 (wc.heap[gb106]? = some (.cells #[.int .i64 a1_0, .int .i64 a1_1, .string a1_2, (.slice A1_3 l1_3.length c1_3)] 24 (0, 0))) ∧ Aside0 (Below w.heap.size w wc))
  case first =>
    have H := HC3.out
    clear HC3
    by_cases c5 : (a0.size : Int) > 2147483647
    · rw [if_pos c5] at H
      have c5b0 : decide (2147483647 < (a0.size : Int)) = true := decide_eq_true c5
      have c5b1 : decide (2147483647 < a0.size) = true := decide_eq_true (by omega)
      clear c5
      (first | rw [c5b0] | (simp only [i64_w, i32_w]; rw [c5b0]) | skip)
      have H' := Aside0.mk H
      clear H
      go_wp2
      go_meet
      case rel => exact ⟨_, (true), (by first | rfl | (simp; done) | (simp [*]; done)), H', ⟨by first | omega | exact Nat.le_refl _⟩, ⟨by (with_reducible repeat (first | apply Kd.V_alloc | apply Kd.V_drewN | apply Kd.V_drew)); exact HO1_3.out⟩, ⟨by (with_reducible repeat (first | refine blk_drewN ?_ _ | refine blk_drew ?_ | refine blk_alloc ?_ _)); exact BK106.out⟩, ⟨by repeat (first | (with_reducible first | exact HB.out | apply below_alloc | apply pw_below_drewN | apply below_drew1 | refine below_set ?_ GE106.out) | exact HB.out)⟩⟩
    · rw [if_neg c5] at H
      have c5b0 : decide (2147483647 < (a0.size : Int)) = false := decide_eq_false c5
      have c5b1 : decide (2147483647 < a0.size) = false := decide_eq_false (by omega)
      clear c5
      (first | rw [c5b0] | (simp only [i64_w, i32_w]; rw [c5b0]) | skip)
      replace H := Option.bind_eq_some_iff.mp H
      obtain ⟨t107, A60, H⟩ := H
      replace H : (laws_FnEqNot.j0 k a0 (!t107) a1_0 a1_1 a1_2 l1_3) = some r := H
      have A6 := Aside0.mk A60
      clear A60
      have H' := Aside0.mk H
      clear H
      have hcz7_0 : w4.cell? ⟨gb106, 0, none⟩ = some (.int .i64 a1_0) := (blk_cell BK106.out 0).trans rfl
      have hcz7_1 : w4.cell? ⟨gb106, 1, none⟩ = some (.int .i64 a1_1) := (blk_cell BK106.out 1).trans rfl
      have hcz7_2 : w4.cell? ⟨gb106, 2, none⟩ = some (.string a1_2) := (blk_cell BK106.out 2).trans rfl
      have hcz7_3 : w4.cell? ⟨gb106, 3, none⟩ = some (.slice A1_3 l1_3.length c1_3) := (blk_cell BK106.out 3).trans rfl
      have hfz7_0 := blk_frozen BK106.out 0
      have hfz7_1 := blk_frozen BK106.out 1
      have hfz7_2 := blk_frozen BK106.out 2
      have hfz7_3 := blk_frozen BK106.out 3
      go_wp2_with (first | (go_at_call 5; (with_reducible refine (laws_zzFits2.calls a1_0 a1_1 a1_2 _ _ l1_3 t107 _ ?side1 ?side2 A6.out).mono ?_); (case side1 => repeat (first | exact (Kd.V_reads' HO1_3.out).2.2 | (with_reducible refine Kd.C_alloc ?_ _) | (with_reducible refine Kd.C_drewN ?_ _) | (with_reducible refine Kd.C_drew ?_))); (case side2 => exact (Kd.V_reads' HO1_3.out).2.1); rintro e w8 ⟨rfl, hb⟩; have n0_ := Aside0.mk (Kd.V_below (by (with_reducible repeat (first | apply Kd.V_alloc | apply Kd.V_drewN | apply Kd.V_drew)); exact HO1_3.out) hb); have n1_ := Aside0.mk (blk_below (g := gb106) (o := .cells #[.int .i64 a1_0, .int .i64 a1_1, .string a1_2, .slice A1_3 l1_3.length c1_3] 24 (0, 0)) (by (with_reducible repeat (first | refine blk_drewN ?_ _ | refine blk_drew ?_ | refine blk_alloc ?_ _)); exact BK106.out) hb); have n2_ := Aside0.mk (below_step (by repeat (first | (with_reducible first | exact HB.out | apply below_alloc | apply pw_below_drewN | apply below_drew1 | refine below_set ?_ GE106.out) | exact HB.out)) hb); clear HO1_3; clear BK106; clear HB; have HO1_3 := n0_; have BK106 := n1_; have HB := n2_; clear n0_ n1_ n2_; (try clear hb); (try clear hb2); (try clear hk); (try clear hi)))
      go_meet
      case rel => exact ⟨_, (!t107), (by first | rfl | (simp; done) | (simp [*]; done)), H', ⟨by first | omega | exact Nat.le_refl _⟩, ⟨by (with_reducible repeat (first | apply Kd.V_alloc | apply Kd.V_drewN | apply Kd.V_drew)); exact HO1_3.out⟩, ⟨by (with_reducible repeat (first | refine blk_drewN ?_ _ | refine blk_drew ?_ | refine blk_alloc ?_ _)); exact BK106.out⟩, ⟨by repeat (first | (with_reducible first | exact HB.out | apply below_alloc | apply pw_below_drewN | apply below_drew1 | refine below_set ?_ GE106.out) | exact HB.out)⟩⟩
  case rest =>
    clear HC3
    try clear c1
    try clear p2
    try clear c3
    try clear c5
    try clear c5b0
    try clear c5b1
    try clear hcz7_0
    try clear hcz7_1
    try clear hcz7_2
    try clear hcz7_3
    try clear hfz7_0
    try clear hfz7_1
    try clear hfz7_2
    try clear hfz7_3
    obtain ⟨kq, x20_2, rfl, HA, HJ2, HO_107003, BK106, HB⟩ := hcut
    cases kq with
    | zero => exact absurd HA.out (by simp [laws_FnEqNot.j0])
    | succ kj2 =>
      have H := HA.out
      clear HA
      simp only [laws_FnEqNot.j0] at H
      by_cases c9 : x20_2 = true
      · subst c9
        have H1 : (some true) = some r := by rw [if_pos rfl] at H; exact H
        clear H
        have H := H1
        clear H1
        obtain rfl := Option.some.inj H
        go_wp2
        go_ret
        exact ⟨by first | rfl | (simp [errW_none, errW_some] <;> rfl) | (simp [*, errW_none, errW_some] <;> rfl), by repeat (first | (with_reducible first | exact HB.out | apply below_alloc | apply pw_below_drewN | apply below_drew1 | refine below_set ?_ GE106.out) | exact HB.out)⟩
      · replace c9 := Bool.eq_false_iff.mpr c9
        subst c9
        have H1 : ((spec_NameOnly.f kj2 a0).bind fun t108 => (if t108 = true then ((spec_ValueRight.f kj2 a1_0 a1_1 a1_2 l1_3 true).bind fun t109 => (if t109 = true then (laws_FnEqNot.j1 kj2 a0 (decide ((a0.size : Int) > 40)) a1_0 a1_1 a1_2 l1_3) else (laws_FnEqNot.j1 kj2 a0 true a1_0 a1_1 a1_2 l1_3))) else (laws_FnEqNot.j1 kj2 a0 true a1_0 a1_1 a1_2 l1_3))) = some r := by rw [if_neg (show ¬ (false = true) by decide)] at H; exact H
        clear H
        have H := H1
        clear H1
        have HC10 := Aside0.mk H
        clear H
        go_upto_region 3 with (fail)
        go_cut [33] (fun v33 wc => ∃ (kq : Nat) (x33_9 : Bool), v33 = .bool x33_9 ∧ Aside0 (laws_FnEqNot.j1 kq a0 x33_9 a1_0 a1_1 a1_2 l1_3 = some r) ∧ Aside0 (kq ≤ kj2) ∧ Aside0 (Kd.V k24 24 wc w.heap.size (fun k_ => (P1_3_ k_ ∨ w.heap.size ≤ k_) ∧ k_ ≠ gb106) (.slice A1_3 l1_3.length c1_3) l1_3) ∧ Aside0 (wc.heap[gb106]? = some (.cells #[.int .i64 a1_0, .int .i64 a1_1, .string a1_2, (.slice A1_3 l1_3.length c1_3)] 24 (0, 0))) ∧ Aside0 (Below w.heap.size w wc))
        case first =>
          have H := HC10.out
          clear HC10
          replace H := Option.bind_eq_some_iff.mp H
          obtain ⟨t108, A110, H⟩ := H
          replace H : (if t108 = true then ((spec_ValueRight.f kj2 a1_0 a1_1 a1_2 l1_3 true).bind fun t109 => (if t109 = true then (laws_FnEqNot.j1 kj2 a0 (decide ((a0.size : Int) > 40)) a1_0 a1_1 a1_2 l1_3) else (laws_FnEqNot.j1 kj2 a0 true a1_0 a1_1 a1_2 l1_3))) else (laws_FnEqNot.j1 kj2 a0 true a1_0 a1_1 a1_2 l1_3)) = some r := H
          have A11 := Aside0.mk A110
          clear A110
          by_cases c12 : t108 = true
          · subst c12
            have H1 : ((spec_ValueRight.f kj2 a1_0 a1_1 a1_2 l1_3 true).bind fun t109 => (if t109 = true then (laws_FnEqNot.j1 kj2 a0 (decide ((a0.size : Int) > 40)) a1_0 a1_1 a1_2 l1_3) else (laws_FnEqNot.j1 kj2 a0 true a1_0 a1_1 a1_2 l1_3))) = some r := by rw [if_pos rfl] at H; exact H
            clear H
            have H := H1
            clear H1
            replace H := Option.bind_eq_some_iff.mp H
            obtain ⟨t109, A130, H⟩ := H
            replace H : (if t109 = true then (laws_FnEqNot.j1 kj2 a0 (decide ((a0.size : Int) > 40)) a1_0 a1_1 a1_2 l1_3) else (laws_FnEqNot.j1 kj2 a0 true a1_0 a1_1 a1_2 l1_3)) = some r := H
            have A13 := Aside0.mk A130
            clear A130
            by_cases c14 : t109 = true
            · subst c14
              have H1 : (laws_FnEqNot.j1 kj2 a0 (decide ((a0.size : Int) > 40)) a1_0 a1_1 a1_2 l1_3) = some r := by rw [if_pos rfl] at H; exact H
              clear H
              have H := H1
              clear H1
              have H' := Aside0.mk H
              clear H
              go_wp2_with (first | ((with_reducible refine gate_callee (f := 6) rfl ?_); refine goesL_ (some 22) rfl rfl Try.func6 (by kernel_rfl) rfl #[.string a0] rfl (by (try simp only [List.map_toArray, List.map_cons, List.map_nil]); first | done | rfl | (simp only [List.length_drop, List.length_take]; rfl)) ?_; (with_reducible refine (spec_NameOnly.calls kj2 a0 true _ A11.out).mono ?_); rintro e w' ⟨rfl, ⟨nd, rfl⟩⟩; refine ⟨_, rfl, ?_⟩; have hcz15_0 : wc.cell? ⟨gb106, 0, none⟩ = some (.int .i64 a1_0) := (blk_cell BK106.out 0).trans rfl; have hcz15_1 : wc.cell? ⟨gb106, 1, none⟩ = some (.int .i64 a1_1) := (blk_cell BK106.out 1).trans rfl; have hcz15_2 : wc.cell? ⟨gb106, 2, none⟩ = some (.string a1_2) := (blk_cell BK106.out 2).trans rfl; have hcz15_3 : wc.cell? ⟨gb106, 3, none⟩ = some (.slice A1_3 l1_3.length c1_3) := (blk_cell BK106.out 3).trans rfl; have hfz15_0 := blk_frozen BK106.out 0; have hfz15_1 := blk_frozen BK106.out 1; have hfz15_2 := blk_frozen BK106.out 2; have hfz15_3 := blk_frozen BK106.out 3) | (go_at_call 7; (with_reducible refine (spec_ValueRight.calls kj2 a1_0 a1_1 a1_2 _ _ l1_3 true true _ ?side1 ?side2 A13.out).mono ?_); (case side1 => repeat (first | exact (Kd.V_reads' HO_107003.out).2.2 | (with_reducible refine Kd.C_alloc ?_ _) | (with_reducible refine Kd.C_drewN ?_ _) | (with_reducible refine Kd.C_drew ?_))); (case side2 => exact (Kd.V_reads' HO_107003.out).2.1); rintro e w16 ⟨rfl, hb⟩; have n0_ := Aside0.mk (Kd.V_below (by (with_reducible repeat (first | apply Kd.V_alloc | apply Kd.V_drewN | apply Kd.V_drew)); exact HO_107003.out) hb); have n1_ := Aside0.mk (blk_below (g := gb106) (o := .cells #[.int .i64 a1_0, .int .i64 a1_1, .string a1_2, .slice A1_3 l1_3.length c1_3] 24 (0, 0)) (by (with_reducible repeat (first | refine blk_drewN ?_ _ | refine blk_drew ?_ | refine blk_alloc ?_ _)); exact BK106.out) hb); have n2_ := Aside0.mk (below_step (by repeat (first | (with_reducible first | exact HB.out | apply below_alloc | apply pw_below_drewN | apply below_drew1 | refine below_set ?_ GE106.out) | exact HB.out)) hb); clear HO_107003; clear BK106; clear HB; have HO_107003 := n0_; have BK106 := n1_; have HB := n2_; clear n0_ n1_ n2_; (try clear hb); (try clear hb2); (try clear hk); (try clear hi)))
              go_meet
              case rel => exact ⟨_, (decide ((a0.size : Int) > 40)), (by first | rfl | (simp; done) | (simp [*]; done)), H', ⟨by have := HJ2.out; first | omega | exact Nat.le_refl _⟩, ⟨by (with_reducible repeat (first | apply Kd.V_alloc | apply Kd.V_drewN | apply Kd.V_drew)); exact HO_107003.out⟩, ⟨by (with_reducible repeat (first | refine blk_drewN ?_ _ | refine blk_drew ?_ | refine blk_alloc ?_ _)); exact BK106.out⟩, ⟨by repeat (first | (with_reducible first | exact HB.out | apply below_alloc | apply pw_below_drewN | apply below_drew1 | refine below_set ?_ GE106.out) | exact HB.out)⟩⟩
            · replace c14 := Bool.eq_false_iff.mpr c14
              subst c14
              have H1 : (laws_FnEqNot.j1 kj2 a0 true a1_0 a1_1 a1_2 l1_3) = some r := by rw [if_neg (show ¬ (false = true) by decide)] at H; exact H
              clear H
              have H := H1
              clear H1
              have H' := Aside0.mk H
              clear H
              go_wp2_with (first | ((with_reducible refine gate_callee (f := 6) rfl ?_); refine goesL_ (some 22) rfl rfl Try.func6 (by kernel_rfl) rfl #[.string a0] rfl (by (try simp only [List.map_toArray, List.map_cons, List.map_nil]); first | done | rfl | (simp only [List.length_drop, List.length_take]; rfl)) ?_; (with_reducible refine (spec_NameOnly.calls kj2 a0 true _ A11.out).mono ?_); rintro e w' ⟨rfl, ⟨nd, rfl⟩⟩; refine ⟨_, rfl, ?_⟩; have hcz17_0 : wc.cell? ⟨gb106, 0, none⟩ = some (.int .i64 a1_0) := (blk_cell BK106.out 0).trans rfl; have hcz17_1 : wc.cell? ⟨gb106, 1, none⟩ = some (.int .i64 a1_1) := (blk_cell BK106.out 1).trans rfl; have hcz17_2 : wc.cell? ⟨gb106, 2, none⟩ = some (.string a1_2) := (blk_cell BK106.out 2).trans rfl; have hcz17_3 : wc.cell? ⟨gb106, 3, none⟩ = some (.slice A1_3 l1_3.length c1_3) := (blk_cell BK106.out 3).trans rfl; have hfz17_0 := blk_frozen BK106.out 0; have hfz17_1 := blk_frozen BK106.out 1; have hfz17_2 := blk_frozen BK106.out 2; have hfz17_3 := blk_frozen BK106.out 3) | (go_at_call 7; (with_reducible refine (spec_ValueRight.calls kj2 a1_0 a1_1 a1_2 _ _ l1_3 true false _ ?side1 ?side2 A13.out).mono ?_); (case side1 => repeat (first | exact (Kd.V_reads' HO_107003.out).2.2 | (with_reducible refine Kd.C_alloc ?_ _) | (with_reducible refine Kd.C_drewN ?_ _) | (with_reducible refine Kd.C_drew ?_))); (case side2 => exact (Kd.V_reads' HO_107003.out).2.1); rintro e w18 ⟨rfl, hb⟩; have n0_ := Aside0.mk (Kd.V_below (by (with_reducible repeat (first | apply Kd.V_alloc | apply Kd.V_drewN | apply Kd.V_drew)); exact HO_107003.out) hb); have n1_ := Aside0.mk (blk_below (g := gb106) (o := .cells #[.int .i64 a1_0, .int .i64 a1_1, .string a1_2, .slice A1_3 l1_3.length c1_3] 24 (0, 0)) (by (with_reducible repeat (first | refine blk_drewN ?_ _ | refine blk_drew ?_ | refine blk_alloc ?_ _)); exact BK106.out) hb); have n2_ := Aside0.mk (below_step (by repeat (first | (with_reducible first | exact HB.out | apply below_alloc | apply pw_below_drewN | apply below_drew1 | refine below_set ?_ GE106.out) | exact HB.out)) hb); clear HO_107003; clear BK106; clear HB; have HO_107003 := n0_; have BK106 := n1_; have HB := n2_; clear n0_ n1_ n2_; (try clear hb); (try clear hb2); (try clear hk); (try clear hi)))
              go_meet
              case rel => exact ⟨_, (true), (by first | rfl | (simp; done) | (simp [*]; done)), H', ⟨by have := HJ2.out; first | omega | exact Nat.le_refl _⟩, ⟨by (with_reducible repeat (first | apply Kd.V_alloc | apply Kd.V_drewN | apply Kd.V_drew)); exact HO_107003.out⟩, ⟨by (with_reducible repeat (first | refine blk_drewN ?_ _ | refine blk_drew ?_ | refine blk_alloc ?_ _)); exact BK106.out⟩, ⟨by repeat (first | (with_reducible first | exact HB.out | apply below_alloc | apply pw_below_drewN | apply below_drew1 | refine below_set ?_ GE106.out) | exact HB.out)⟩⟩
          · replace c12 := Bool.eq_false_iff.mpr c12
            subst c12
            have H1 : (laws_FnEqNot.j1 kj2 a0 true a1_0 a1_1 a1_2 l1_3) = some r := by rw [if_neg (show ¬ (false = true) by decide)] at H; exact H
            clear H
            have H := H1
            clear H1
            have H' := Aside0.mk H
            clear H
            go_wp2_with (first | ((with_reducible refine gate_callee (f := 6) rfl ?_); refine goesL_ (some 22) rfl rfl Try.func6 (by kernel_rfl) rfl #[.string a0] rfl (by (try simp only [List.map_toArray, List.map_cons, List.map_nil]); first | done | rfl | (simp only [List.length_drop, List.length_take]; rfl)) ?_; (with_reducible refine (spec_NameOnly.calls kj2 a0 false _ A11.out).mono ?_); rintro e w' ⟨rfl, ⟨nd, rfl⟩⟩; refine ⟨_, rfl, ?_⟩))
            go_meet
            case rel => exact ⟨_, (true), (by first | rfl | (simp; done) | (simp [*]; done)), H', ⟨by have := HJ2.out; first | omega | exact Nat.le_refl _⟩, ⟨by (with_reducible repeat (first | apply Kd.V_alloc | apply Kd.V_drewN | apply Kd.V_drew)); exact HO_107003.out⟩, ⟨by (with_reducible repeat (first | refine blk_drewN ?_ _ | refine blk_drew ?_ | refine blk_alloc ?_ _)); exact BK106.out⟩, ⟨by repeat (first | (with_reducible first | exact HB.out | apply below_alloc | apply pw_below_drewN | apply below_drew1 | refine below_set ?_ GE106.out) | exact HB.out)⟩⟩
        case rest =>
          clear HC10
          try clear c1
          try clear p2
          try clear c3
          try clear c5
          try clear c5b0
          try clear c5b1
          try clear c6
          try clear c9
          try clear c12
          try clear c14
          try clear hcz15_0
          try clear hcz15_1
          try clear hcz15_2
          try clear hcz15_3
          try clear hcz17_0
          try clear hcz17_1
          try clear hcz17_2
          try clear hcz17_3
          try clear hcz7_0
          try clear hcz7_1
          try clear hcz7_2
          try clear hcz7_3
          try clear hfz15_0
          try clear hfz15_1
          try clear hfz15_2
          try clear hfz15_3
          try clear hfz17_0
          try clear hfz17_1
          try clear hfz17_2
          try clear hfz17_3
          try clear hfz7_0
          try clear hfz7_1
          try clear hfz7_2
          try clear hfz7_3
          try clear p2
          obtain ⟨kq, x33_9, rfl, HA, HJ9, HO_107003, BK106, HB⟩ := hcut
          cases kq with
          | zero => exact absurd HA.out (by simp [laws_FnEqNot.j1])
          | succ kj9 =>
            have H := HA.out
            clear HA
            simp only [laws_FnEqNot.j1] at H
            by_cases c19 : x33_9 = true
            · subst c19
              have H1 : (some true) = some r := by rw [if_pos rfl] at H; exact H
              clear H
              have H := H1
              clear H1
              obtain rfl := Option.some.inj H
              go_wp2
              go_ret
              exact ⟨by first | rfl | (simp [errW_none, errW_some] <;> rfl) | (simp [*, errW_none, errW_some] <;> rfl), by repeat (first | (with_reducible first | exact HB.out | apply below_alloc | apply pw_below_drewN | apply below_drew1 | refine below_set ?_ GE106.out) | exact HB.out)⟩
            · replace c19 := Bool.eq_false_iff.mpr c19
              subst c19
              have H1 : ((impl_EqOf.f (([a0] : List ByteArray)) (([(⟨a1_0, a1_1, a1_2, l1_3⟩ : S24)] : List (S24)))).bind fun bt116 => ((impl_NotEqOf.f (([a0] : List ByteArray)) (([(⟨a1_0, a1_1, a1_2, l1_3⟩ : S24)] : List (S24)))).bind fun bt127 => (if a0.size + 4 ≤ 9223372036854775807 then (if a0.size + 5 ≤ 9223372036854775807 then (if a1_0 = 0 then (if a0.size + 8 ≤ 9223372036854775807 then (if a0.size + 12 ≤ 9223372036854775807 then (laws_FnEqNot.j3 kj9 bt116.1 bt116.2.1 bt116.2.2 bt127.1 bt127.2.1 bt127.2.2 (a0 ++ (⟨#[32, 73, 83, 32, 78, 85, 76, 76]⟩ : ByteArray)) (a0 ++ (⟨#[32, 73, 83, 32, 78, 79, 84, 32, 78, 85, 76, 76]⟩ : ByteArray))) else (none)) else (none)) else (if a1_0 = 5 then (laws_FnEqNot.j2 kj9 a0 bt116.1 bt116.2.1 bt116.2.2 bt127.1 bt127.2.1 bt127.2.2 (a0 ++ (⟨#[32, 61, 32, 63]⟩ : ByteArray)) (a0 ++ (⟨#[32, 60, 62, 32, 63]⟩ : ByteArray)) ((l1_3.length : Int) == 0) a1_0 a1_1 a1_2 l1_3) else (laws_FnEqNot.j2 kj9 a0 bt116.1 bt116.2.1 bt116.2.2 bt127.1 bt127.2.1 bt127.2.2 (a0 ++ (⟨#[32, 61, 32, 63]⟩ : ByteArray)) (a0 ++ (⟨#[32, 60, 62, 32, 63]⟩ : ByteArray)) false a1_0 a1_1 a1_2 l1_3))) else (none)) else (none)))) = some r := by rw [if_neg (show ¬ (false = true) by decide)] at H; exact H
              clear H
              have H := H1
              clear H1
              obtain ⟨y110, hy110⟩ : ∃ y_ : List ByteArray, y_ = (([a0] : List ByteArray)) := ⟨_, rfl⟩
              replace H : ((impl_EqOf.f y110 (([(⟨a1_0, a1_1, a1_2, l1_3⟩ : S24)] : List (S24)))).bind fun bt116 => ((impl_NotEqOf.f (([a0] : List ByteArray)) (([(⟨a1_0, a1_1, a1_2, l1_3⟩ : S24)] : List (S24)))).bind fun bt127 => (if a0.size + 4 ≤ 9223372036854775807 then (if a0.size + 5 ≤ 9223372036854775807 then (if a1_0 = 0 then (if a0.size + 8 ≤ 9223372036854775807 then (if a0.size + 12 ≤ 9223372036854775807 then (laws_FnEqNot.j3 kj9 bt116.1 bt116.2.1 bt116.2.2 bt127.1 bt127.2.1 bt127.2.2 (a0 ++ (⟨#[32, 73, 83, 32, 78, 85, 76, 76]⟩ : ByteArray)) (a0 ++ (⟨#[32, 73, 83, 32, 78, 79, 84, 32, 78, 85, 76, 76]⟩ : ByteArray))) else (none)) else (none)) else (if a1_0 = 5 then (laws_FnEqNot.j2 kj9 a0 bt116.1 bt116.2.1 bt116.2.2 bt127.1 bt127.2.1 bt127.2.2 (a0 ++ (⟨#[32, 61, 32, 63]⟩ : ByteArray)) (a0 ++ (⟨#[32, 60, 62, 32, 63]⟩ : ByteArray)) ((l1_3.length : Int) == 0) a1_0 a1_1 a1_2 l1_3) else (laws_FnEqNot.j2 kj9 a0 bt116.1 bt116.2.1 bt116.2.2 bt127.1 bt127.2.1 bt127.2.2 (a0 ++ (⟨#[32, 61, 32, 63]⟩ : ByteArray)) (a0 ++ (⟨#[32, 60, 62, 32, 63]⟩ : ByteArray)) false a1_0 a1_1 a1_2 l1_3))) else (none)) else (none)))) = some r := by first | (rw [hy110]; with_reducible exact H) | (have H2_ := (Option.bind_some _ _).symm.trans H; rw [hy110]; with_reducible exact H2_) | (have H2_ := (Option.bind_some _ _).symm.trans H; with_reducible exact H2_) | with_reducible exact H | (rw [hy110]; exact H) | exact H
              have Ny110 := Aside0.mk hy110
              clear hy110
              obtain ⟨y113, hy113⟩ : ∃ y_ : List (S24), y_ = (([(⟨a1_0, a1_1, a1_2, l1_3⟩ : S24)] : List (S24))) := ⟨_, rfl⟩
              replace H : ((impl_EqOf.f y110 y113).bind fun bt116 => ((impl_NotEqOf.f (([a0] : List ByteArray)) (([(⟨a1_0, a1_1, a1_2, l1_3⟩ : S24)] : List (S24)))).bind fun bt127 => (if a0.size + 4 ≤ 9223372036854775807 then (if a0.size + 5 ≤ 9223372036854775807 then (if a1_0 = 0 then (if a0.size + 8 ≤ 9223372036854775807 then (if a0.size + 12 ≤ 9223372036854775807 then (laws_FnEqNot.j3 kj9 bt116.1 bt116.2.1 bt116.2.2 bt127.1 bt127.2.1 bt127.2.2 (a0 ++ (⟨#[32, 73, 83, 32, 78, 85, 76, 76]⟩ : ByteArray)) (a0 ++ (⟨#[32, 73, 83, 32, 78, 79, 84, 32, 78, 85, 76, 76]⟩ : ByteArray))) else (none)) else (none)) else (if a1_0 = 5 then (laws_FnEqNot.j2 kj9 a0 bt116.1 bt116.2.1 bt116.2.2 bt127.1 bt127.2.1 bt127.2.2 (a0 ++ (⟨#[32, 61, 32, 63]⟩ : ByteArray)) (a0 ++ (⟨#[32, 60, 62, 32, 63]⟩ : ByteArray)) ((l1_3.length : Int) == 0) a1_0 a1_1 a1_2 l1_3) else (laws_FnEqNot.j2 kj9 a0 bt116.1 bt116.2.1 bt116.2.2 bt127.1 bt127.2.1 bt127.2.2 (a0 ++ (⟨#[32, 61, 32, 63]⟩ : ByteArray)) (a0 ++ (⟨#[32, 60, 62, 32, 63]⟩ : ByteArray)) false a1_0 a1_1 a1_2 l1_3))) else (none)) else (none)))) = some r := by first | (rw [hy113]; with_reducible exact H) | (have H2_ := (Option.bind_some _ _).symm.trans H; rw [hy113]; with_reducible exact H2_) | (have H2_ := (Option.bind_some _ _).symm.trans H; with_reducible exact H2_) | with_reducible exact H | (rw [hy113]; exact H) | exact H
              have Ny113 := Aside0.mk hy113
              clear hy113
              replace H := Option.bind_eq_some_iff.mp H
              obtain ⟨⟨t116, t117, t118⟩, A200, H⟩ := H
              replace H : ((impl_NotEqOf.f (([a0] : List ByteArray)) (([(⟨a1_0, a1_1, a1_2, l1_3⟩ : S24)] : List (S24)))).bind fun bt127 => (if a0.size + 4 ≤ 9223372036854775807 then (if a0.size + 5 ≤ 9223372036854775807 then (if a1_0 = 0 then (if a0.size + 8 ≤ 9223372036854775807 then (if a0.size + 12 ≤ 9223372036854775807 then (laws_FnEqNot.j3 kj9 t116 t117 t118 bt127.1 bt127.2.1 bt127.2.2 (a0 ++ (⟨#[32, 73, 83, 32, 78, 85, 76, 76]⟩ : ByteArray)) (a0 ++ (⟨#[32, 73, 83, 32, 78, 79, 84, 32, 78, 85, 76, 76]⟩ : ByteArray))) else (none)) else (none)) else (if a1_0 = 5 then (laws_FnEqNot.j2 kj9 a0 t116 t117 t118 bt127.1 bt127.2.1 bt127.2.2 (a0 ++ (⟨#[32, 61, 32, 63]⟩ : ByteArray)) (a0 ++ (⟨#[32, 60, 62, 32, 63]⟩ : ByteArray)) ((l1_3.length : Int) == 0) a1_0 a1_1 a1_2 l1_3) else (laws_FnEqNot.j2 kj9 a0 t116 t117 t118 bt127.1 bt127.2.1 bt127.2.2 (a0 ++ (⟨#[32, 61, 32, 63]⟩ : ByteArray)) (a0 ++ (⟨#[32, 60, 62, 32, 63]⟩ : ByteArray)) false a1_0 a1_1 a1_2 l1_3))) else (none)) else (none))) = some r := H
              have A20 := Aside0.mk A200
              clear A200
              obtain ⟨y121, hy121⟩ : ∃ y_ : List ByteArray, y_ = (([a0] : List ByteArray)) := ⟨_, rfl⟩
              replace H : ((impl_NotEqOf.f y121 (([(⟨a1_0, a1_1, a1_2, l1_3⟩ : S24)] : List (S24)))).bind fun bt127 => (if a0.size + 4 ≤ 9223372036854775807 then (if a0.size + 5 ≤ 9223372036854775807 then (if a1_0 = 0 then (if a0.size + 8 ≤ 9223372036854775807 then (if a0.size + 12 ≤ 9223372036854775807 then (laws_FnEqNot.j3 kj9 t116 t117 t118 bt127.1 bt127.2.1 bt127.2.2 (a0 ++ (⟨#[32, 73, 83, 32, 78, 85, 76, 76]⟩ : ByteArray)) (a0 ++ (⟨#[32, 73, 83, 32, 78, 79, 84, 32, 78, 85, 76, 76]⟩ : ByteArray))) else (none)) else (none)) else (if a1_0 = 5 then (laws_FnEqNot.j2 kj9 a0 t116 t117 t118 bt127.1 bt127.2.1 bt127.2.2 (a0 ++ (⟨#[32, 61, 32, 63]⟩ : ByteArray)) (a0 ++ (⟨#[32, 60, 62, 32, 63]⟩ : ByteArray)) ((l1_3.length : Int) == 0) a1_0 a1_1 a1_2 l1_3) else (laws_FnEqNot.j2 kj9 a0 t116 t117 t118 bt127.1 bt127.2.1 bt127.2.2 (a0 ++ (⟨#[32, 61, 32, 63]⟩ : ByteArray)) (a0 ++ (⟨#[32, 60, 62, 32, 63]⟩ : ByteArray)) false a1_0 a1_1 a1_2 l1_3))) else (none)) else (none))) = some r := by first | (rw [hy121]; with_reducible exact H) | (have H2_ := (Option.bind_some _ _).symm.trans H; rw [hy121]; with_reducible exact H2_) | (have H2_ := (Option.bind_some _ _).symm.trans H; with_reducible exact H2_) | with_reducible exact H | (rw [hy121]; exact H) | exact H
              have Ny121 := Aside0.mk hy121
              clear hy121
              obtain ⟨y124, hy124⟩ : ∃ y_ : List (S24), y_ = (([(⟨a1_0, a1_1, a1_2, l1_3⟩ : S24)] : List (S24))) := ⟨_, rfl⟩
              replace H : ((impl_NotEqOf.f y121 y124).bind fun bt127 => (if a0.size + 4 ≤ 9223372036854775807 then (if a0.size + 5 ≤ 9223372036854775807 then (if a1_0 = 0 then (if a0.size + 8 ≤ 9223372036854775807 then (if a0.size + 12 ≤ 9223372036854775807 then (laws_FnEqNot.j3 kj9 t116 t117 t118 bt127.1 bt127.2.1 bt127.2.2 (a0 ++ (⟨#[32, 73, 83, 32, 78, 85, 76, 76]⟩ : ByteArray)) (a0 ++ (⟨#[32, 73, 83, 32, 78, 79, 84, 32, 78, 85, 76, 76]⟩ : ByteArray))) else (none)) else (none)) else (if a1_0 = 5 then (laws_FnEqNot.j2 kj9 a0 t116 t117 t118 bt127.1 bt127.2.1 bt127.2.2 (a0 ++ (⟨#[32, 61, 32, 63]⟩ : ByteArray)) (a0 ++ (⟨#[32, 60, 62, 32, 63]⟩ : ByteArray)) ((l1_3.length : Int) == 0) a1_0 a1_1 a1_2 l1_3) else (laws_FnEqNot.j2 kj9 a0 t116 t117 t118 bt127.1 bt127.2.1 bt127.2.2 (a0 ++ (⟨#[32, 61, 32, 63]⟩ : ByteArray)) (a0 ++ (⟨#[32, 60, 62, 32, 63]⟩ : ByteArray)) false a1_0 a1_1 a1_2 l1_3))) else (none)) else (none))) = some r := by first | (rw [hy124]; with_reducible exact H) | (have H2_ := (Option.bind_some _ _).symm.trans H; rw [hy124]; with_reducible exact H2_) | (have H2_ := (Option.bind_some _ _).symm.trans H; with_reducible exact H2_) | with_reducible exact H | (rw [hy124]; exact H) | exact H
              have Ny124 := Aside0.mk hy124
              clear hy124
              replace H := Option.bind_eq_some_iff.mp H
              obtain ⟨⟨t127, t128, t129⟩, A210, H⟩ := H
              replace H : (if a0.size + 4 ≤ 9223372036854775807 then (if a0.size + 5 ≤ 9223372036854775807 then (if a1_0 = 0 then (if a0.size + 8 ≤ 9223372036854775807 then (if a0.size + 12 ≤ 9223372036854775807 then (laws_FnEqNot.j3 kj9 t116 t117 t118 t127 t128 t129 (a0 ++ (⟨#[32, 73, 83, 32, 78, 85, 76, 76]⟩ : ByteArray)) (a0 ++ (⟨#[32, 73, 83, 32, 78, 79, 84, 32, 78, 85, 76, 76]⟩ : ByteArray))) else (none)) else (none)) else (if a1_0 = 5 then (laws_FnEqNot.j2 kj9 a0 t116 t117 t118 t127 t128 t129 (a0 ++ (⟨#[32, 61, 32, 63]⟩ : ByteArray)) (a0 ++ (⟨#[32, 60, 62, 32, 63]⟩ : ByteArray)) ((l1_3.length : Int) == 0) a1_0 a1_1 a1_2 l1_3) else (laws_FnEqNot.j2 kj9 a0 t116 t117 t118 t127 t128 t129 (a0 ++ (⟨#[32, 61, 32, 63]⟩ : ByteArray)) (a0 ++ (⟨#[32, 60, 62, 32, 63]⟩ : ByteArray)) false a1_0 a1_1 a1_2 l1_3))) else (none)) else (none)) = some r := H
              have A21 := Aside0.mk A210
              clear A210
              by_cases c22 : a0.size + 4 ≤ 9223372036854775807
              · rw [if_pos c22] at H
                have c22b0 := eq_true c22
                have c22b1 : decide (a0.size + 4 ≤ 9223372036854775807) = true := decide_eq_true c22
                try have c22b2 : (9223372036854775807 < a0.size + 4) = False := eq_false (Nat.not_lt.2 c22)
                by_cases c23 : a0.size + 5 ≤ 9223372036854775807
                · rw [if_pos c23] at H
                  have c23b0 := eq_true c23
                  have c23b1 : decide (a0.size + 5 ≤ 9223372036854775807) = true := decide_eq_true c23
                  try have c23b2 : (9223372036854775807 < a0.size + 5) = False := eq_false (Nat.not_lt.2 c23)
                  have HC24 := Aside0.mk H
                  clear H
                  go_upto_block 0 with (first | ((with_reducible refine gate_dst (N := 36) rfl ?_); (try (refine gate_guard (by rfl) ?_; dsimp only)); refine Kd.R_lit Kd.string _ 9 ?hg (N := 36) ?hd (xs := ([a0] : List ByteArray)) (inner := [.string a0]) (ok := fun _ => True) (okp := fun _ => True) ?hr ?hp (fun _ hk => hk) trivial (Below.refl _ _) (Nat.le_refl _) (by simp) ?_; (case hd => rfl); (case hg => rfl); (case hr => first | (go_simp; done) | (go_simp; rfl)); (case hp => exact (Reps.one (show Kd.M Kd.string _ _ _ a0 [.string a0] from rfl) (Reps.none _ _))); intro v111 w25 ho26 hb hg_ hnew_; clear hg_ hnew_; (first | rw [← Ny110.out] at ho26 | (simp only [Int.reduceToNat] at ho26; rw [← Ny110.out] at ho26)); have n0_ := Aside0.mk (Kd.V_elder' (by (with_reducible repeat (first | apply Kd.V_alloc | apply Kd.V_drewN | apply Kd.V_drew)); exact HO_107003.out) (Kd.R_base ho26) hb); have n1_ := Aside0.mk (Kd.R_lower (Kd.R_newM (M := fun k_ => (w.heap.size ≤ k_)) ho26 (below_size (by repeat (first | (with_reducible first | exact HB.out | apply below_alloc | apply pw_below_drewN | apply below_drew1 | refine below_set ?_ GE106.out) | exact HB.out))) (fun k_ h_ => h_)) (below_size (by repeat (first | (with_reducible first | exact HB.out | apply below_alloc | apply pw_below_drewN | apply below_drew1 | refine below_set ?_ GE106.out) | exact HB.out)))); have n2_ := Aside0.mk (blk_below (g := gb106) (o := .cells #[.int .i64 a1_0, .int .i64 a1_1, .string a1_2, .slice A1_3 l1_3.length c1_3] 24 (0, 0)) (by (with_reducible repeat (first | refine blk_drewN ?_ _ | refine blk_drew ?_ | refine blk_alloc ?_ _)); exact BK106.out) hb); have n3_ := Aside0.mk (below_step (by repeat (first | (with_reducible first | exact HB.out | apply below_alloc | apply pw_below_drewN | apply below_drew1 | refine below_set ?_ GE106.out) | exact HB.out)) hb); clear HO_107003; clear BK106; clear HB; have HO_107003 := n0_; have HO112 := n1_; have BK106 := n2_; have HB := n3_; clear n0_ n1_ n2_ n3_; clear hb ho26; have hcz27_0 : w25.cell? ⟨gb106, 0, none⟩ = some (.int .i64 a1_0) := (blk_cell BK106.out 0).trans rfl; have hcz27_1 : w25.cell? ⟨gb106, 1, none⟩ = some (.int .i64 a1_1) := (blk_cell BK106.out 1).trans rfl; have hcz27_2 : w25.cell? ⟨gb106, 2, none⟩ = some (.string a1_2) := (blk_cell BK106.out 2).trans rfl; have hcz27_3 : w25.cell? ⟨gb106, 3, none⟩ = some (.slice A1_3 l1_3.length c1_3) := (blk_cell BK106.out 3).trans rfl; have hfz27_0 := blk_frozen BK106.out 0; have hfz27_1 := blk_frozen BK106.out 1; have hfz27_2 := blk_frozen BK106.out 2; have hfz27_3 := blk_frozen BK106.out 3) | ((with_reducible refine gate_dst (N := 38) rfl ?_); (try (refine gate_guard (by rfl) ?_; dsimp only)); refine Kd.N_lit k24 _ 24 ?hg (N' := 38) ?hd (xs := ([(⟨a1_0, a1_1, a1_2, l1_3⟩ : S24)] : List (S24))) (inner := [.int .i64 a1_0, .int .i64 a1_1, .string a1_2, .slice A1_3 l1_3.length c1_3]) (ok := (fun k_ => (P1_3_ k_ ∨ w.heap.size ≤ k_) ∧ some k_ ≠ (v111 : Value).ownBlock ∧ k_ ≠ gb106)) (okp := (fun k_ => (P1_3_ k_ ∨ w.heap.size ≤ k_) ∧ some k_ ≠ (v111 : Value).ownBlock ∧ k_ ≠ gb106)) ?hr ?hp (fun _ hk => hk) ((show ∀ k_, w25.heap.size ≤ k_ → (fun k_ => (P1_3_ k_ ∨ w.heap.size ≤ k_) ∧ some k_ ≠ (v111 : Value).ownBlock ∧ k_ ≠ gb106) k_ from fun k_ hk => ⟨(.inr (Nat.le_trans (below_size (by repeat (first | (with_reducible first | exact HB.out | apply below_alloc | apply pw_below_drewN | apply below_drew1 | refine below_set ?_ GE106.out) | exact HB.out))) hk)), Kd.fresh' (Kd.R_lt (by (with_reducible repeat (first | apply Kd.R_alloc | apply Kd.R_drewN | apply Kd.R_drew)); exact HO112.out)) k_ hk, Kd.freshB (g := gb106) (o := .cells #[.int .i64 a1_0, .int .i64 a1_1, .string a1_2, .slice A1_3 l1_3.length c1_3] 24 (0, 0)) (by (with_reducible repeat (first | refine blk_drewN ?_ _ | refine blk_drew ?_ | refine blk_alloc ?_ _)); exact BK106.out) k_ hk⟩) _ (Nat.le_refl _)) (Below.refl _ _) (Nat.le_refl _) (by simp) ?_; (case hd => rfl); (case hg => rfl); (case hr => first | (go_simp; done) | (go_simp; rfl)); (case hp => exact (Reps.c4 (show Kd.FK k24 _ _ (⟨a1_0, a1_1, a1_2, l1_3⟩ : S24) [.int .i64 a1_0, .int .i64 a1_1, .string a1_2, .slice A1_3 l1_3.length c1_3] from (k24_mkF _ _ (⟨a1_0, a1_1, a1_2, l1_3⟩ : S24) (Kd.V_reads' (Kd.V_mono (ok' := (fun k_ => (P1_3_ k_ ∨ w.heap.size ≤ k_) ∧ some k_ ≠ (v111 : Value).ownBlock ∧ k_ ≠ gb106)) (HO_107003.out) (fun k_ hk => ⟨hk.1.1, ⟨hk.2, hk.1.2⟩⟩))).2.1 (Kd.V_F (Kd.V_mono (ok' := (fun k_ => (P1_3_ k_ ∨ w.heap.size ≤ k_) ∧ some k_ ≠ (v111 : Value).ownBlock ∧ k_ ≠ gb106)) (HO_107003.out) (fun k_ hk => ⟨hk.1.1, ⟨hk.2, hk.1.2⟩⟩))))) (Reps.none _ _))); intro v114 w28 ho29 hb hg_ hnew_; clear hg_ hnew_; (first | rw [← Ny113.out] at ho29 | (simp only [Int.reduceToNat] at ho29; rw [← Ny113.out] at ho29)); have n0_ := Aside0.mk (Kd.V_elder' (by (with_reducible repeat (first | apply Kd.V_alloc | apply Kd.V_drewN | apply Kd.V_drew)); exact HO_107003.out) (Kd.N_base ho29) hb); have n1_ := Aside0.mk (Kd.R_below (by (with_reducible repeat (first | apply Kd.R_alloc | apply Kd.R_drewN | apply Kd.R_drew)); exact HO112.out) hb); have n2_ := Aside0.mk (Kd.N_lower ho29 (below_size (by repeat (first | (with_reducible first | exact HB.out | apply below_alloc | apply pw_below_drewN | apply below_drew1 | refine below_set ?_ GE106.out) | exact HB.out)))); have n3_ := Aside0.mk (blk_below (g := gb106) (o := .cells #[.int .i64 a1_0, .int .i64 a1_1, .string a1_2, .slice A1_3 l1_3.length c1_3] 24 (0, 0)) (by (with_reducible repeat (first | refine blk_drewN ?_ _ | refine blk_drew ?_ | refine blk_alloc ?_ _)); exact BK106.out) hb); have n4_ := Aside0.mk (below_step (by repeat (first | (with_reducible first | exact HB.out | apply below_alloc | apply pw_below_drewN | apply below_drew1 | refine below_set ?_ GE106.out) | exact HB.out)) hb); clear HO_107003; clear HO112; clear BK106; clear HB; have HO_107003 := n0_; have HO112 := n1_; have HO115 := n2_; have BK106 := n3_; have HB := n4_; clear n0_ n1_ n2_ n3_ n4_; clear hb ho29; obtain ⟨Ao30, co30, eo30⟩ := Kd.R_slice HO112.out; subst eo30; obtain ⟨Ao31, co31, eo31⟩ := Kd.N_slice HO115.out; subst eo31) | ((with_reducible refine gate_callee (f := 8) rfl ?_); refine goesL_ (some 39) rfl rfl Try.func8 (by kernel_rfl) rfl #[.slice Ao30 y110.length co30, .slice Ao31 y113.length co31] rfl (by (try simp only [List.map_toArray, List.map_cons, List.map_nil]); first | done | rfl | (simp only [List.length_drop, List.length_take]; rfl)) ?_; (with_reducible refine (impl_EqOf.calls _ _ y110 _ _ y113 t116 t117 t118 _ ?side1 ?side2 ?side3 ?side4 A20.out).mono ?_); (case side1 => repeat (first | exact (Kd.R_reads' HO112.out).2.2 | (with_reducible refine Kd.C_alloc ?_ _) | (with_reducible refine Kd.C_drewN ?_ _) | (with_reducible refine Kd.C_drew ?_))); (case side2 => exact (Kd.R_reads' HO112.out).2.1); (case side3 => repeat (first | exact (Kd.N_reads' HO115.out).2.2 | (with_reducible refine Kd.C_alloc ?_ _) | (with_reducible refine Kd.C_drewN ?_ _) | (with_reducible refine Kd.C_drew ?_))); (case side4 => exact (Kd.N_reads' HO115.out).2.1); rintro e w32 ⟨v119, rfl, ho0, hb⟩; refine ⟨_, rfl, ?_⟩; have n0_ := Aside0.mk (Kd.V_elder' (by (with_reducible repeat (first | apply Kd.V_alloc | apply Kd.V_drewN | apply Kd.V_drew)); exact HO_107003.out) (Kd.N_base (Kd.R_N ho0)) hb); have n1_ := Aside0.mk (Kd.R_below (by (with_reducible repeat (first | apply Kd.R_alloc | apply Kd.R_drewN | apply Kd.R_drew)); exact HO112.out) hb); have n2_ := Aside0.mk (Kd.N_elder' (by (with_reducible repeat (first | apply Kd.N_alloc | apply Kd.N_drewN | apply Kd.N_drew)); exact HO115.out) (Kd.N_base (Kd.R_N ho0)) hb); have n3_ := Aside0.mk (Kd.N_lower (Kd.N_mono (ok' := fun k_ => (P1_3_ k_ ∨ w.heap.size ≤ k_) ∧ some k_ ≠ (.slice Ao30 y110.length co30 : Value).ownBlock ∧ some k_ ≠ (.slice Ao31 y113.length co31 : Value).ownBlock ∧ k_ ≠ gb106) (Kd.R_N (Kd.R_bound ho0)) (fun k_ hk_ => ⟨(.inr (Nat.le_trans (below_size (by repeat (first | (with_reducible first | exact HB.out | apply below_alloc | apply pw_below_drewN | apply below_drew1 | refine below_set ?_ GE106.out) | exact HB.out))) hk_.2.1)), (Kd.fresh' (Kd.R_lt (by (with_reducible repeat (first | apply Kd.R_alloc | apply Kd.R_drewN | apply Kd.R_drew)); exact HO112.out)) k_ hk_.2.1), (Kd.fresh' (Kd.N_lt (by (with_reducible repeat (first | apply Kd.N_alloc | apply Kd.N_drewN | apply Kd.N_drew)); exact HO115.out)) k_ hk_.2.1), (Kd.freshB (g := gb106) (o := .cells #[.int .i64 a1_0, .int .i64 a1_1, .string a1_2, .slice A1_3 l1_3.length c1_3] 24 (0, 0)) (by (with_reducible repeat (first | refine blk_drewN ?_ _ | refine blk_drew ?_ | refine blk_alloc ?_ _)); exact BK106.out) k_ hk_.2.1)⟩)) (below_size (by repeat (first | (with_reducible first | exact HB.out | apply below_alloc | apply pw_below_drewN | apply below_drew1 | refine below_set ?_ GE106.out) | exact HB.out)))); have n4_ := Aside0.mk (blk_below (g := gb106) (o := .cells #[.int .i64 a1_0, .int .i64 a1_1, .string a1_2, .slice A1_3 l1_3.length c1_3] 24 (0, 0)) (by (with_reducible repeat (first | refine blk_drewN ?_ _ | refine blk_drew ?_ | refine blk_alloc ?_ _)); exact BK106.out) hb); have n5_ := Aside0.mk (below_step (by repeat (first | (with_reducible first | exact HB.out | apply below_alloc | apply pw_below_drewN | apply below_drew1 | refine below_set ?_ GE106.out) | exact HB.out)) hb); clear HO_107003; clear HO112; clear HO115; clear BK106; clear HB; have HO_107003 := n0_; have HO112 := n1_; have HO115 := n2_; have HO120 := n3_; have BK106 := n4_; have HB := n5_; clear n0_ n1_ n2_ n3_ n4_ n5_; (try clear hb); (try clear hb2); (try clear hk); (try clear hi); (try clear ho0)) | ((with_reducible refine gate_dst (N := 45) rfl ?_); (try (refine gate_guard (by rfl) ?_; dsimp only)); refine Kd.R_lit Kd.string _ 9 ?hg (N := 45) ?hd (xs := ([a0] : List ByteArray)) (inner := [.string a0]) (ok := fun _ => True) (okp := fun _ => True) ?hr ?hp (fun _ hk => hk) trivial (Below.refl _ _) (Nat.le_refl _) (by simp) ?_; (case hd => rfl); (case hg => rfl); (case hr => first | (go_simp; done) | (go_simp; rfl)); (case hp => exact (Reps.one (show Kd.M Kd.string _ _ _ a0 [.string a0] from rfl) (Reps.none _ _))); intro v122 w33 ho34 hb hg_ hnew_; clear hg_ hnew_; (first | rw [← Ny121.out] at ho34 | (simp only [Int.reduceToNat] at ho34; rw [← Ny121.out] at ho34)); have n0_ := Aside0.mk (Kd.V_elder' (by (with_reducible repeat (first | apply Kd.V_alloc | apply Kd.V_drewN | apply Kd.V_drew)); exact HO_107003.out) (Kd.R_base ho34) hb); have n1_ := Aside0.mk (Kd.R_elder' (by (with_reducible repeat (first | apply Kd.R_alloc | apply Kd.R_drewN | apply Kd.R_drew)); exact HO112.out) (Kd.R_base ho34) hb); have n2_ := Aside0.mk (Kd.N_elder' (by (with_reducible repeat (first | apply Kd.N_alloc | apply Kd.N_drewN | apply Kd.N_drew)); exact HO115.out) (Kd.R_base ho34) hb); have n3_ := Aside0.mk (Kd.N_elder' (by (with_reducible repeat (first | apply Kd.N_alloc | apply Kd.N_drewN | apply Kd.N_drew)); exact HO120.out) (Kd.R_base ho34) hb); have n4_ := Aside0.mk (Kd.R_lower (Kd.R_new' (Kd.R_newM (M := fun k_ => (w.heap.size ≤ k_)) ho34 (below_size (by repeat (first | (with_reducible first | exact HB.out | apply below_alloc | apply pw_below_drewN | apply below_drew1 | refine below_set ?_ GE106.out) | exact HB.out))) (fun k_ h_ => h_)) (Kd.R_lt (by (with_reducible repeat (first | apply Kd.R_alloc | apply Kd.R_drewN | apply Kd.R_drew)); exact HO112.out))) (below_size (by repeat (first | (with_reducible first | exact HB.out | apply below_alloc | apply pw_below_drewN | apply below_drew1 | refine below_set ?_ GE106.out) | exact HB.out)))); have n5_ := Aside0.mk (blk_below (g := gb106) (o := .cells #[.int .i64 a1_0, .int .i64 a1_1, .string a1_2, .slice A1_3 l1_3.length c1_3] 24 (0, 0)) (by (with_reducible repeat (first | refine blk_drewN ?_ _ | refine blk_drew ?_ | refine blk_alloc ?_ _)); exact BK106.out) hb); have n6_ := Aside0.mk (below_step (by repeat (first | (with_reducible first | exact HB.out | apply below_alloc | apply pw_below_drewN | apply below_drew1 | refine below_set ?_ GE106.out) | exact HB.out)) hb); clear HO_107003; clear HO112; clear HO115; clear HO120; clear BK106; clear HB; have HO_107003 := n0_; have HO112 := n1_; have HO115 := n2_; have HO120 := n3_; have HO123 := n4_; have BK106 := n5_; have HB := n6_; clear n0_ n1_ n2_ n3_ n4_ n5_ n6_; clear hb ho34; have hcz35_0 : w33.cell? ⟨gb106, 0, none⟩ = some (.int .i64 a1_0) := (blk_cell BK106.out 0).trans rfl; have hcz35_1 : w33.cell? ⟨gb106, 1, none⟩ = some (.int .i64 a1_1) := (blk_cell BK106.out 1).trans rfl; have hcz35_2 : w33.cell? ⟨gb106, 2, none⟩ = some (.string a1_2) := (blk_cell BK106.out 2).trans rfl; have hcz35_3 : w33.cell? ⟨gb106, 3, none⟩ = some (.slice A1_3 l1_3.length c1_3) := (blk_cell BK106.out 3).trans rfl; have hfz35_0 := blk_frozen BK106.out 0; have hfz35_1 := blk_frozen BK106.out 1; have hfz35_2 := blk_frozen BK106.out 2; have hfz35_3 := blk_frozen BK106.out 3) | ((with_reducible refine gate_dst (N := 47) rfl ?_); (try (refine gate_guard (by rfl) ?_; dsimp only)); refine Kd.N_lit k24 _ 24 ?hg (N' := 47) ?hd (xs := ([(⟨a1_0, a1_1, a1_2, l1_3⟩ : S24)] : List (S24))) (inner := [.int .i64 a1_0, .int .i64 a1_1, .string a1_2, .slice A1_3 l1_3.length c1_3]) (ok := (fun k_ => (P1_3_ k_ ∨ w.heap.size ≤ k_) ∧ some k_ ≠ (.slice Ao30 y110.length co30 : Value).ownBlock ∧ some k_ ≠ (.slice Ao31 y113.length co31 : Value).ownBlock ∧ some k_ ≠ (v119 : Value).ownBlock ∧ some k_ ≠ (v122 : Value).ownBlock ∧ k_ ≠ gb106)) (okp := (fun k_ => (P1_3_ k_ ∨ w.heap.size ≤ k_) ∧ some k_ ≠ (.slice Ao30 y110.length co30 : Value).ownBlock ∧ some k_ ≠ (.slice Ao31 y113.length co31 : Value).ownBlock ∧ some k_ ≠ (v119 : Value).ownBlock ∧ some k_ ≠ (v122 : Value).ownBlock ∧ k_ ≠ gb106)) ?hr ?hp (fun _ hk => hk) ((show ∀ k_, w33.heap.size ≤ k_ → (fun k_ => (P1_3_ k_ ∨ w.heap.size ≤ k_) ∧ some k_ ≠ (.slice Ao30 y110.length co30 : Value).ownBlock ∧ some k_ ≠ (.slice Ao31 y113.length co31 : Value).ownBlock ∧ some k_ ≠ (v119 : Value).ownBlock ∧ some k_ ≠ (v122 : Value).ownBlock ∧ k_ ≠ gb106) k_ from fun k_ hk => ⟨(.inr (Nat.le_trans (below_size (by repeat (first | (with_reducible first | exact HB.out | apply below_alloc | apply pw_below_drewN | apply below_drew1 | refine below_set ?_ GE106.out) | exact HB.out))) hk)), Kd.fresh' (Kd.R_lt (by (with_reducible repeat (first | apply Kd.R_alloc | apply Kd.R_drewN | apply Kd.R_drew)); exact HO112.out)) k_ hk, Kd.fresh' (Kd.N_lt (by (with_reducible repeat (first | apply Kd.N_alloc | apply Kd.N_drewN | apply Kd.N_drew)); exact HO115.out)) k_ hk, Kd.fresh' (Kd.N_lt (by (with_reducible repeat (first | apply Kd.N_alloc | apply Kd.N_drewN | apply Kd.N_drew)); exact HO120.out)) k_ hk, Kd.fresh' (Kd.R_lt (by (with_reducible repeat (first | apply Kd.R_alloc | apply Kd.R_drewN | apply Kd.R_drew)); exact HO123.out)) k_ hk, Kd.freshB (g := gb106) (o := .cells #[.int .i64 a1_0, .int .i64 a1_1, .string a1_2, .slice A1_3 l1_3.length c1_3] 24 (0, 0)) (by (with_reducible repeat (first | refine blk_drewN ?_ _ | refine blk_drew ?_ | refine blk_alloc ?_ _)); exact BK106.out) k_ hk⟩) _ (Nat.le_refl _)) (Below.refl _ _) (Nat.le_refl _) (by simp) ?_; (case hd => rfl); (case hg => rfl); (case hr => first | (go_simp; done) | (go_simp; rfl)); (case hp => exact (Reps.c4 (show Kd.FK k24 _ _ (⟨a1_0, a1_1, a1_2, l1_3⟩ : S24) [.int .i64 a1_0, .int .i64 a1_1, .string a1_2, .slice A1_3 l1_3.length c1_3] from (k24_mkF _ _ (⟨a1_0, a1_1, a1_2, l1_3⟩ : S24) (Kd.V_reads' (Kd.V_mono (ok' := (fun k_ => (P1_3_ k_ ∨ w.heap.size ≤ k_) ∧ some k_ ≠ (.slice Ao30 y110.length co30 : Value).ownBlock ∧ some k_ ≠ (.slice Ao31 y113.length co31 : Value).ownBlock ∧ some k_ ≠ (v119 : Value).ownBlock ∧ some k_ ≠ (v122 : Value).ownBlock ∧ k_ ≠ gb106)) (HO_107003.out) (fun k_ hk => ⟨hk.1.1.1.1.1, ⟨hk.1.1.1.2, ⟨hk.1.1.2, ⟨hk.1.2, ⟨hk.2, hk.1.1.1.1.2⟩⟩⟩⟩⟩))).2.1 (Kd.V_F (Kd.V_mono (ok' := (fun k_ => (P1_3_ k_ ∨ w.heap.size ≤ k_) ∧ some k_ ≠ (.slice Ao30 y110.length co30 : Value).ownBlock ∧ some k_ ≠ (.slice Ao31 y113.length co31 : Value).ownBlock ∧ some k_ ≠ (v119 : Value).ownBlock ∧ some k_ ≠ (v122 : Value).ownBlock ∧ k_ ≠ gb106)) (HO_107003.out) (fun k_ hk => ⟨hk.1.1.1.1.1, ⟨hk.1.1.1.2, ⟨hk.1.1.2, ⟨hk.1.2, ⟨hk.2, hk.1.1.1.1.2⟩⟩⟩⟩⟩))))) (Reps.none _ _))); intro v125 w36 ho37 hb hg_ hnew_; clear hg_ hnew_; (first | rw [← Ny124.out] at ho37 | (simp only [Int.reduceToNat] at ho37; rw [← Ny124.out] at ho37)); have n0_ := Aside0.mk (Kd.V_elder' (by (with_reducible repeat (first | apply Kd.V_alloc | apply Kd.V_drewN | apply Kd.V_drew)); exact HO_107003.out) (Kd.N_base ho37) hb); have n1_ := Aside0.mk (Kd.R_below (by (with_reducible repeat (first | apply Kd.R_alloc | apply Kd.R_drewN | apply Kd.R_drew)); exact HO112.out) hb); have n2_ := Aside0.mk (Kd.N_elder' (by (with_reducible repeat (first | apply Kd.N_alloc | apply Kd.N_drewN | apply Kd.N_drew)); exact HO115.out) (Kd.N_base ho37) hb); have n3_ := Aside0.mk (Kd.N_elder' (by (with_reducible repeat (first | apply Kd.N_alloc | apply Kd.N_drewN | apply Kd.N_drew)); exact HO120.out) (Kd.N_base ho37) hb); have n4_ := Aside0.mk (Kd.R_below (by (with_reducible repeat (first | apply Kd.R_alloc | apply Kd.R_drewN | apply Kd.R_drew)); exact HO123.out) hb); have n5_ := Aside0.mk (Kd.N_lower ho37 (below_size (by repeat (first | (with_reducible first | exact HB.out | apply below_alloc | apply pw_below_drewN | apply below_drew1 | refine below_set ?_ GE106.out) | exact HB.out)))); have n6_ := Aside0.mk (blk_below (g := gb106) (o := .cells #[.int .i64 a1_0, .int .i64 a1_1, .string a1_2, .slice A1_3 l1_3.length c1_3] 24 (0, 0)) (by (with_reducible repeat (first | refine blk_drewN ?_ _ | refine blk_drew ?_ | refine blk_alloc ?_ _)); exact BK106.out) hb); have n7_ := Aside0.mk (below_step (by repeat (first | (with_reducible first | exact HB.out | apply below_alloc | apply pw_below_drewN | apply below_drew1 | refine below_set ?_ GE106.out) | exact HB.out)) hb); clear HO_107003; clear HO112; clear HO115; clear HO120; clear HO123; clear BK106; clear HB; have HO_107003 := n0_; have HO112 := n1_; have HO115 := n2_; have HO120 := n3_; have HO123 := n4_; have HO126 := n5_; have BK106 := n6_; have HB := n7_; clear n0_ n1_ n2_ n3_ n4_ n5_ n6_ n7_; clear hb ho37; obtain ⟨Ao38, co38, eo38⟩ := Kd.R_slice HO123.out; subst eo38; obtain ⟨Ao39, co39, eo39⟩ := Kd.N_slice HO126.out; subst eo39) | ((with_reducible refine gate_callee (f := 9) rfl ?_); refine goesL_ (some 48) rfl rfl Try.func9 (by kernel_rfl) rfl #[.slice Ao38 y121.length co38, .slice Ao39 y124.length co39] rfl (by (try simp only [List.map_toArray, List.map_cons, List.map_nil]); first | done | rfl | (simp only [List.length_drop, List.length_take]; rfl)) ?_; (with_reducible refine (impl_NotEqOf.calls _ _ y121 _ _ y124 t127 t128 t129 _ ?side1 ?side2 ?side3 ?side4 A21.out).mono ?_); (case side1 => repeat (first | exact (Kd.R_reads' HO123.out).2.2 | (with_reducible refine Kd.C_alloc ?_ _) | (with_reducible refine Kd.C_drewN ?_ _) | (with_reducible refine Kd.C_drew ?_))); (case side2 => exact (Kd.R_reads' HO123.out).2.1); (case side3 => repeat (first | exact (Kd.N_reads' HO126.out).2.2 | (with_reducible refine Kd.C_alloc ?_ _) | (with_reducible refine Kd.C_drewN ?_ _) | (with_reducible refine Kd.C_drew ?_))); (case side4 => exact (Kd.N_reads' HO126.out).2.1); rintro e w40 ⟨v130, rfl, ho0, hb⟩; refine ⟨_, rfl, ?_⟩; have n0_ := Aside0.mk (Kd.V_elder' (by (with_reducible repeat (first | apply Kd.V_alloc | apply Kd.V_drewN | apply Kd.V_drew)); exact HO_107003.out) (Kd.N_base (Kd.R_N ho0)) hb); have n1_ := Aside0.mk (Kd.R_below (by (with_reducible repeat (first | apply Kd.R_alloc | apply Kd.R_drewN | apply Kd.R_drew)); exact HO112.out) hb); have n2_ := Aside0.mk (Kd.N_elder' (by (with_reducible repeat (first | apply Kd.N_alloc | apply Kd.N_drewN | apply Kd.N_drew)); exact HO115.out) (Kd.N_base (Kd.R_N ho0)) hb); have n3_ := Aside0.mk (Kd.N_elder' (by (with_reducible repeat (first | apply Kd.N_alloc | apply Kd.N_drewN | apply Kd.N_drew)); exact HO120.out) (Kd.N_base (Kd.R_N ho0)) hb); have n4_ := Aside0.mk (Kd.R_below (by (with_reducible repeat (first | apply Kd.R_alloc | apply Kd.R_drewN | apply Kd.R_drew)); exact HO123.out) hb); have n5_ := Aside0.mk (Kd.N_elder' (by (with_reducible repeat (first | apply Kd.N_alloc | apply Kd.N_drewN | apply Kd.N_drew)); exact HO126.out) (Kd.N_base (Kd.R_N ho0)) hb); have n6_ := Aside0.mk (Kd.N_lower (Kd.N_mono (ok' := fun k_ => (P1_3_ k_ ∨ w.heap.size ≤ k_) ∧ some k_ ≠ (.slice Ao30 y110.length co30 : Value).ownBlock ∧ some k_ ≠ (.slice Ao31 y113.length co31 : Value).ownBlock ∧ some k_ ≠ (v119 : Value).ownBlock ∧ some k_ ≠ (.slice Ao38 y121.length co38 : Value).ownBlock ∧ some k_ ≠ (.slice Ao39 y124.length co39 : Value).ownBlock ∧ k_ ≠ gb106) (Kd.R_N (Kd.R_bound ho0)) (fun k_ hk_ => ⟨(.inr (Nat.le_trans (below_size (by repeat (first | (with_reducible first | exact HB.out | apply below_alloc | apply pw_below_drewN | apply below_drew1 | refine below_set ?_ GE106.out) | exact HB.out))) hk_.2.1)), (Kd.fresh' (Kd.R_lt (by (with_reducible repeat (first | apply Kd.R_alloc | apply Kd.R_drewN | apply Kd.R_drew)); exact HO112.out)) k_ hk_.2.1), (Kd.fresh' (Kd.N_lt (by (with_reducible repeat (first | apply Kd.N_alloc | apply Kd.N_drewN | apply Kd.N_drew)); exact HO115.out)) k_ hk_.2.1), (Kd.fresh' (Kd.N_lt (by (with_reducible repeat (first | apply Kd.N_alloc | apply Kd.N_drewN | apply Kd.N_drew)); exact HO120.out)) k_ hk_.2.1), (Kd.fresh' (Kd.R_lt (by (with_reducible repeat (first | apply Kd.R_alloc | apply Kd.R_drewN | apply Kd.R_drew)); exact HO123.out)) k_ hk_.2.1), (Kd.fresh' (Kd.N_lt (by (with_reducible repeat (first | apply Kd.N_alloc | apply Kd.N_drewN | apply Kd.N_drew)); exact HO126.out)) k_ hk_.2.1), (Kd.freshB (g := gb106) (o := .cells #[.int .i64 a1_0, .int .i64 a1_1, .string a1_2, .slice A1_3 l1_3.length c1_3] 24 (0, 0)) (by (with_reducible repeat (first | refine blk_drewN ?_ _ | refine blk_drew ?_ | refine blk_alloc ?_ _)); exact BK106.out) k_ hk_.2.1)⟩)) (below_size (by repeat (first | (with_reducible first | exact HB.out | apply below_alloc | apply pw_below_drewN | apply below_drew1 | refine below_set ?_ GE106.out) | exact HB.out)))); have n7_ := Aside0.mk (blk_below (g := gb106) (o := .cells #[.int .i64 a1_0, .int .i64 a1_1, .string a1_2, .slice A1_3 l1_3.length c1_3] 24 (0, 0)) (by (with_reducible repeat (first | refine blk_drewN ?_ _ | refine blk_drew ?_ | refine blk_alloc ?_ _)); exact BK106.out) hb); have n8_ := Aside0.mk (below_step (by repeat (first | (with_reducible first | exact HB.out | apply below_alloc | apply pw_below_drewN | apply below_drew1 | refine below_set ?_ GE106.out) | exact HB.out)) hb); clear HO_107003; clear HO112; clear HO115; clear HO120; clear HO123; clear HO126; clear BK106; clear HB; have HO_107003 := n0_; have HO112 := n1_; have HO115 := n2_; have HO120 := n3_; have HO123 := n4_; have HO126 := n5_; have HO131 := n6_; have BK106 := n7_; have HB := n8_; clear n0_ n1_ n2_ n3_ n4_ n5_ n6_ n7_ n8_; (try clear hb); (try clear hb2); (try clear hk); (try clear hi); (try clear ho0)))
                  (try simp only [Act.put, List.setIfInBounds_toArray, List.set_cons_zero, List.set_cons_succ])
                  go_cut [11, 12] (fun v11 v12 wc => ∃ (kq : Nat) (x11_23 : ByteArray) (x12_23 : ByteArray), v11 = .string x11_23 ∧ v12 = .string x12_23 ∧ Aside0 (laws_FnEqNot.j3 kq t116 t117 t118 t127 t128 t129 x11_23 x12_23 = some r) ∧ Aside0 (kq ≤ kj9) ∧ Aside0 (Kd.N k24 24 wc w.heap.size (fun k_ => (P1_3_ k_ ∨ w.heap.size ≤ k_) ∧ some k_ ≠ (v130 : Value).ownBlock ∧ k_ ≠ gb106) v119 t117) ∧ Aside0 (Kd.N k24 24 wc w.heap.size (fun k_ => (P1_3_ k_ ∨ w.heap.size ≤ k_) ∧ some k_ ≠ (v119 : Value).ownBlock ∧ k_ ≠ gb106) v130 t128) ∧ Aside0 (Kd.V k24 24 wc w.heap.size (fun k_ => (P1_3_ k_ ∨ w.heap.size ≤ k_) ∧ some k_ ≠ (v119 : Value).ownBlock ∧ some k_ ≠ (v130 : Value).ownBlock ∧ k_ ≠ gb106) (.slice A1_3 l1_3.length c1_3) l1_3) ∧ Aside0 (wc.heap[gb106]? = some (.cells #[.int .i64 a1_0, .int .i64 a1_1, .string a1_2, (.slice A1_3 l1_3.length c1_3)] 24 (0, 0))) ∧ Aside0 (Below w.heap.size w wc))
                  case first =>
                    have H := HC24.out
                    clear HC24
                    by_cases c41 : a1_0 = 0
                    · rw [if_pos c41] at H
                      have c41b0 : (a1_0 == 0) = true := beq_iff_eq.mpr c41
                      have c41b1 : (a1_0 != 0) = false := bne_eq_false_iff_eq.mpr c41
                      clear c41
                      (first | rw [c41b0] | (simp only [i64_w, i32_w]; rw [c41b0]) | skip)
                      by_cases c42 : a0.size + 8 ≤ 9223372036854775807
                      · rw [if_pos c42] at H
                        have c42b0 := eq_true c42
                        have c42b1 : decide (a0.size + 8 ≤ 9223372036854775807) = true := decide_eq_true c42
                        try have c42b2 : (9223372036854775807 < a0.size + 8) = False := eq_false (Nat.not_lt.2 c42)
                        by_cases c43 : a0.size + 12 ≤ 9223372036854775807
                        · rw [if_pos c43] at H
                          have c43b0 := eq_true c43
                          have c43b1 : decide (a0.size + 12 ≤ 9223372036854775807) = true := decide_eq_true c43
                          try have c43b2 : (9223372036854775807 < a0.size + 12) = False := eq_false (Nat.not_lt.2 c43)
                          have H' := Aside0.mk H
                          clear H
                          have hcz44_0 : w40.cell? ⟨gb106, 0, none⟩ = some (.int .i64 a1_0) := (blk_cell BK106.out 0).trans rfl
                          have hcz44_1 : w40.cell? ⟨gb106, 1, none⟩ = some (.int .i64 a1_1) := (blk_cell BK106.out 1).trans rfl
                          have hcz44_2 : w40.cell? ⟨gb106, 2, none⟩ = some (.string a1_2) := (blk_cell BK106.out 2).trans rfl
                          have hcz44_3 : w40.cell? ⟨gb106, 3, none⟩ = some (.slice A1_3 l1_3.length c1_3) := (blk_cell BK106.out 3).trans rfl
                          have hfz44_0 := blk_frozen BK106.out 0
                          have hfz44_1 := blk_frozen BK106.out 1
                          have hfz44_2 := blk_frozen BK106.out 2
                          have hfz44_3 := blk_frozen BK106.out 3
                          go_wp2
                          go_meet
                          case rel => exact ⟨_, (a0 ++ (⟨#[32, 73, 83, 32, 78, 85, 76, 76]⟩ : ByteArray)), (a0 ++ (⟨#[32, 73, 83, 32, 78, 79, 84, 32, 78, 85, 76, 76]⟩ : ByteArray)), (by first | rfl | (simp; done) | (simp [*]; done)), (by first | rfl | (simp; done) | (simp [*]; done)), H', ⟨by have := HJ2.out; have := HJ9.out; first | omega | exact Nat.le_refl _⟩, ⟨by (with_reducible repeat (first | apply Kd.N_alloc | apply Kd.N_drewN | apply Kd.N_drew)); exact Kd.N_mono HO120.out (fun _ hk => ⟨hk.1.1.1.1, ⟨hk.2, hk.1.1.1.2.2.2⟩⟩)⟩, ⟨by (with_reducible repeat (first | apply Kd.N_alloc | apply Kd.N_drewN | apply Kd.N_drew)); exact Kd.N_mono HO131.out (fun _ hk => ⟨hk.1, ⟨hk.2.2.2.1, hk.2.2.2.2.2.2⟩⟩)⟩, ⟨by (with_reducible repeat (first | apply Kd.V_alloc | apply Kd.V_drewN | apply Kd.V_drew)); exact Kd.V_mono HO_107003.out (fun _ hk => ⟨hk.1.1.1.1.1.1.1, ⟨hk.1.1.1.2, ⟨hk.2, hk.1.1.1.1.1.1.2⟩⟩⟩)⟩, ⟨by (with_reducible repeat (first | refine blk_drewN ?_ _ | refine blk_drew ?_ | refine blk_alloc ?_ _)); exact BK106.out⟩, ⟨by repeat (first | (with_reducible first | exact HB.out | apply below_alloc | apply pw_below_drewN | apply below_drew1 | refine below_set ?_ GE106.out) | exact HB.out)⟩⟩
                        · rw [if_neg c43] at H
                          exact absurd H (by simp)
                      · rw [if_neg c42] at H
                        exact absurd H (by simp)
                    · rw [if_neg c41] at H
                      have c41b0 : (a1_0 == 0) = false := beq_eq_false_iff_ne.mpr c41
                      have c41b1 : (a1_0 != 0) = true := bne_iff_ne.mpr c41
                      (first | rw [c41b0] | (simp only [i64_w, i32_w]; rw [c41b0]) | skip)
                      have HC45 := Aside0.mk H
                      clear H
                      have hcz46_0 : w40.cell? ⟨gb106, 0, none⟩ = some (.int .i64 a1_0) := (blk_cell BK106.out 0).trans rfl
                      have hcz46_1 : w40.cell? ⟨gb106, 1, none⟩ = some (.int .i64 a1_1) := (blk_cell BK106.out 1).trans rfl
                      have hcz46_2 : w40.cell? ⟨gb106, 2, none⟩ = some (.string a1_2) := (blk_cell BK106.out 2).trans rfl
                      have hcz46_3 : w40.cell? ⟨gb106, 3, none⟩ = some (.slice A1_3 l1_3.length c1_3) := (blk_cell BK106.out 3).trans rfl
                      have hfz46_0 := blk_frozen BK106.out 0
                      have hfz46_1 := blk_frozen BK106.out 1
                      have hfz46_2 := blk_frozen BK106.out 2
                      have hfz46_3 := blk_frozen BK106.out 3
                      go_upto_region 10 with (fail)
                      go_cut [64] (fun v64 wc => ∃ (kq : Nat) (x64_44 : Bool), v64 = .bool x64_44 ∧ Aside0 (laws_FnEqNot.j2 kq a0 t116 t117 t118 t127 t128 t129 (a0 ++ (⟨#[32, 61, 32, 63]⟩ : ByteArray)) (a0 ++ (⟨#[32, 60, 62, 32, 63]⟩ : ByteArray)) x64_44 a1_0 a1_1 a1_2 l1_3 = some r) ∧ Aside0 (kq ≤ kj9) ∧ Aside0 (Kd.N k24 24 wc w.heap.size (fun k_ => (P1_3_ k_ ∨ w.heap.size ≤ k_) ∧ some k_ ≠ (v130 : Value).ownBlock ∧ k_ ≠ gb106) v119 t117) ∧ Aside0 (Kd.N k24 24 wc w.heap.size (fun k_ => (P1_3_ k_ ∨ w.heap.size ≤ k_) ∧ some k_ ≠ (v119 : Value).ownBlock ∧ k_ ≠ gb106) v130 t128) ∧ Aside0 (Kd.V k24 24 wc w.heap.size (fun k_ => (P1_3_ k_ ∨ w.heap.size ≤ k_) ∧ some k_ ≠ (v119 : Value).ownBlock ∧ some k_ ≠ (v130 : Value).ownBlock ∧ k_ ≠ gb106) (.slice A1_3 l1_3.length c1_3) l1_3) ∧ Aside0 (wc.heap[gb106]? = some (.cells #[.int .i64 a1_0, .int .i64 a1_1, .string a1_2, (.slice A1_3 l1_3.length c1_3)] 24 (0, 0))) ∧ Aside0 (Below w.heap.size w wc))
                      case first =>
                        have H := HC45.out
                        clear HC45
                        by_cases c47 : a1_0 = 5
                        · rw [if_pos c47] at H
                          have c47b0 : (a1_0 == 5) = true := beq_iff_eq.mpr c47
                          have c47b1 : (a1_0 != 5) = false := bne_eq_false_iff_eq.mpr c47
                          clear c47
                          (first | rw [c47b0] | (simp only [i64_w, i32_w]; rw [c47b0]) | skip)
                          have H' := Aside0.mk H
                          clear H
                          have hcz48_0 : w40.cell? ⟨gb106, 0, none⟩ = some (.int .i64 a1_0) := (blk_cell BK106.out 0).trans rfl
                          have hcz48_1 : w40.cell? ⟨gb106, 1, none⟩ = some (.int .i64 a1_1) := (blk_cell BK106.out 1).trans rfl
                          have hcz48_2 : w40.cell? ⟨gb106, 2, none⟩ = some (.string a1_2) := (blk_cell BK106.out 2).trans rfl
                          have hcz48_3 : w40.cell? ⟨gb106, 3, none⟩ = some (.slice A1_3 l1_3.length c1_3) := (blk_cell BK106.out 3).trans rfl
                          have hfz48_0 := blk_frozen BK106.out 0
                          have hfz48_1 := blk_frozen BK106.out 1
                          have hfz48_2 := blk_frozen BK106.out 2
                          have hfz48_3 := blk_frozen BK106.out 3
                          go_wp2
                          go_meet
                          case rel => exact ⟨_, (((l1_3.length : Int) == 0)), (by first | rfl | (simp; done) | (simp [*]; done)), H', ⟨by have := HJ2.out; have := HJ9.out; first | omega | exact Nat.le_refl _⟩, ⟨by (with_reducible repeat (first | apply Kd.N_alloc | apply Kd.N_drewN | apply Kd.N_drew)); exact Kd.N_mono HO120.out (fun _ hk => ⟨hk.1.1.1.1, ⟨hk.2, hk.1.1.1.2.2.2⟩⟩)⟩, ⟨by (with_reducible repeat (first | apply Kd.N_alloc | apply Kd.N_drewN | apply Kd.N_drew)); exact Kd.N_mono HO131.out (fun _ hk => ⟨hk.1, ⟨hk.2.2.2.1, hk.2.2.2.2.2.2⟩⟩)⟩, ⟨by (with_reducible repeat (first | apply Kd.V_alloc | apply Kd.V_drewN | apply Kd.V_drew)); exact Kd.V_mono HO_107003.out (fun _ hk => ⟨hk.1.1.1.1.1.1.1, ⟨hk.1.1.1.2, ⟨hk.2, hk.1.1.1.1.1.1.2⟩⟩⟩)⟩, ⟨by (with_reducible repeat (first | refine blk_drewN ?_ _ | refine blk_drew ?_ | refine blk_alloc ?_ _)); exact BK106.out⟩, ⟨by repeat (first | (with_reducible first | exact HB.out | apply below_alloc | apply pw_below_drewN | apply below_drew1 | refine below_set ?_ GE106.out) | exact HB.out)⟩⟩
                        · rw [if_neg c47] at H
                          have c47b0 : (a1_0 == 5) = false := beq_eq_false_iff_ne.mpr c47
                          have c47b1 : (a1_0 != 5) = true := bne_iff_ne.mpr c47
                          (first | rw [c47b0] | (simp only [i64_w, i32_w]; rw [c47b0]) | skip)
                          have H' := Aside0.mk H
                          clear H
                          have hcz49_0 : w40.cell? ⟨gb106, 0, none⟩ = some (.int .i64 a1_0) := (blk_cell BK106.out 0).trans rfl
                          have hcz49_1 : w40.cell? ⟨gb106, 1, none⟩ = some (.int .i64 a1_1) := (blk_cell BK106.out 1).trans rfl
                          have hcz49_2 : w40.cell? ⟨gb106, 2, none⟩ = some (.string a1_2) := (blk_cell BK106.out 2).trans rfl
                          have hcz49_3 : w40.cell? ⟨gb106, 3, none⟩ = some (.slice A1_3 l1_3.length c1_3) := (blk_cell BK106.out 3).trans rfl
                          have hfz49_0 := blk_frozen BK106.out 0
                          have hfz49_1 := blk_frozen BK106.out 1
                          have hfz49_2 := blk_frozen BK106.out 2
                          have hfz49_3 := blk_frozen BK106.out 3
                          go_wp2
                          go_meet
                          case rel => exact ⟨_, (false), (by first | rfl | (simp; done) | (simp [*]; done)), H', ⟨by have := HJ2.out; have := HJ9.out; first | omega | exact Nat.le_refl _⟩, ⟨by (with_reducible repeat (first | apply Kd.N_alloc | apply Kd.N_drewN | apply Kd.N_drew)); exact Kd.N_mono HO120.out (fun _ hk => ⟨hk.1.1.1.1, ⟨hk.2, hk.1.1.1.2.2.2⟩⟩)⟩, ⟨by (with_reducible repeat (first | apply Kd.N_alloc | apply Kd.N_drewN | apply Kd.N_drew)); exact Kd.N_mono HO131.out (fun _ hk => ⟨hk.1, ⟨hk.2.2.2.1, hk.2.2.2.2.2.2⟩⟩)⟩, ⟨by (with_reducible repeat (first | apply Kd.V_alloc | apply Kd.V_drewN | apply Kd.V_drew)); exact Kd.V_mono HO_107003.out (fun _ hk => ⟨hk.1.1.1.1.1.1.1, ⟨hk.1.1.1.2, ⟨hk.2, hk.1.1.1.1.1.1.2⟩⟩⟩)⟩, ⟨by (with_reducible repeat (first | refine blk_drewN ?_ _ | refine blk_drew ?_ | refine blk_alloc ?_ _)); exact BK106.out⟩, ⟨by repeat (first | (with_reducible first | exact HB.out | apply below_alloc | apply pw_below_drewN | apply below_drew1 | refine below_set ?_ GE106.out) | exact HB.out)⟩⟩
                      case rest =>
                        clear HC45
                        try clear c1
                        try clear c2
                        try clear p2
                        try clear c3
                        try clear c4
                        try clear c5
                        try clear c5b0
                        try clear c5b1
                        try clear c6
                        try clear c8
                        try clear c9
                        try clear c12
                        try clear c14
                        try clear c19
                        try clear c22
                        try clear c22b0
                        try clear c22b1
                        try clear c22b2
                        try clear c23
                        try clear c23b0
                        try clear c23b1
                        try clear c23b2
                        try clear c41
                        try clear c41b0
                        try clear c41b1
                        try clear c42
                        try clear c42b0
                        try clear c42b1
                        try clear c42b2
                        try clear c43
                        try clear c43b0
                        try clear c43b1
                        try clear c43b2
                        try clear c47
                        try clear c47b0
                        try clear c47b1
                        try clear hcz15_0
                        try clear hcz15_1
                        try clear hcz15_2
                        try clear hcz15_3
                        try clear hcz17_0
                        try clear hcz17_1
                        try clear hcz17_2
                        try clear hcz17_3
                        try clear hcz27_0
                        try clear hcz27_1
                        try clear hcz27_2
                        try clear hcz27_3
                        try clear hcz35_0
                        try clear hcz35_1
                        try clear hcz35_2
                        try clear hcz35_3
                        try clear hcz44_0
                        try clear hcz44_1
                        try clear hcz44_2
                        try clear hcz44_3
                        try clear hcz46_0
                        try clear hcz46_1
                        try clear hcz46_2
                        try clear hcz46_3
                        try clear hcz48_0
                        try clear hcz48_1
                        try clear hcz48_2
                        try clear hcz48_3
                        try clear hcz49_0
                        try clear hcz49_1
                        try clear hcz49_2
                        try clear hcz49_3
                        try clear hcz7_0
                        try clear hcz7_1
                        try clear hcz7_2
                        try clear hcz7_3
                        try clear hfz15_0
                        try clear hfz15_1
                        try clear hfz15_2
                        try clear hfz15_3
                        try clear hfz17_0
                        try clear hfz17_1
                        try clear hfz17_2
                        try clear hfz17_3
                        try clear hfz27_0
                        try clear hfz27_1
                        try clear hfz27_2
                        try clear hfz27_3
                        try clear hfz35_0
                        try clear hfz35_1
                        try clear hfz35_2
                        try clear hfz35_3
                        try clear hfz44_0
                        try clear hfz44_1
                        try clear hfz44_2
                        try clear hfz44_3
                        try clear hfz46_0
                        try clear hfz46_1
                        try clear hfz46_2
                        try clear hfz46_3
                        try clear hfz48_0
                        try clear hfz48_1
                        try clear hfz48_2
                        try clear hfz48_3
                        try clear hfz49_0
                        try clear hfz49_1
                        try clear hfz49_2
                        try clear hfz49_3
                        try clear hfz7_0
                        try clear hfz7_1
                        try clear hfz7_2
                        try clear hfz7_3
                        try clear p2
                        obtain ⟨kq, x64_44, rfl, HA, HJ44, HO_6, HO_9, HO_107003, BK106, HB⟩ := hcut
                        cases kq with
                        | zero => exact absurd HA.out (by simp [laws_FnEqNot.j2])
                        | succ kj44 =>
                          have H := HA.out
                          clear HA
                          simp only [laws_FnEqNot.j2] at H
                          by_cases c50 : x64_44 = true
                          · subst c50
                            have H1 : (laws_FnEqNot.j3 kj44 t116 t117 t118 t127 t128 t129 (⟨#[40, 49, 61, 48, 41]⟩ : ByteArray) (⟨#[40, 49, 61, 49, 41]⟩ : ByteArray)) = some r := by rw [if_pos rfl] at H; exact H
                            clear H
                            have H := H1
                            clear H1
                            have H' := Aside0.mk H
                            clear H
                            go_wp2
                            go_meet
                            case rel => exact ⟨_, ((⟨#[40, 49, 61, 48, 41]⟩ : ByteArray)), ((⟨#[40, 49, 61, 49, 41]⟩ : ByteArray)), (by first | rfl | (simp; done) | (simp [*]; done)), (by first | rfl | (simp; done) | (simp [*]; done)), H', ⟨by have := HJ2.out; have := HJ9.out; have := HJ44.out; first | omega | exact Nat.le_refl _⟩, ⟨by (with_reducible repeat (first | apply Kd.N_alloc | apply Kd.N_drewN | apply Kd.N_drew)); exact HO_6.out⟩, ⟨by (with_reducible repeat (first | apply Kd.N_alloc | apply Kd.N_drewN | apply Kd.N_drew)); exact HO_9.out⟩, ⟨by (with_reducible repeat (first | apply Kd.V_alloc | apply Kd.V_drewN | apply Kd.V_drew)); exact HO_107003.out⟩, ⟨by (with_reducible repeat (first | refine blk_drewN ?_ _ | refine blk_drew ?_ | refine blk_alloc ?_ _)); exact BK106.out⟩, ⟨by repeat (first | (with_reducible first | exact HB.out | apply below_alloc | apply pw_below_drewN | apply below_drew1 | refine below_set ?_ GE106.out) | exact HB.out)⟩⟩
                          · replace c50 := Bool.eq_false_iff.mpr c50
                            subst c50
                            have H1 : (if a1_0 = 5 then (if a0.size + 5 ≤ 9223372036854775807 then (if a0.size + 9 ≤ 9223372036854775807 then (laws_FnEqNot.j3 kj44 t116 t117 t118 t127 t128 t129 (a0 ++ (⟨#[32, 73, 78, 32, 40]⟩ : ByteArray)) (a0 ++ (⟨#[32, 78, 79, 84, 32, 73, 78, 32, 40]⟩ : ByteArray))) else (none)) else (none)) else (laws_FnEqNot.j3 kj44 t116 t117 t118 t127 t128 t129 (a0 ++ (⟨#[32, 61, 32, 63]⟩ : ByteArray)) (a0 ++ (⟨#[32, 60, 62, 32, 63]⟩ : ByteArray)))) = some r := by rw [if_neg (show ¬ (false = true) by decide)] at H; exact H
                            clear H
                            have H := H1
                            clear H1
                            by_cases c51 : a1_0 = 5
                            · rw [if_pos c51] at H
                              have c51b0 : (a1_0 == 5) = true := beq_iff_eq.mpr c51
                              have c51b1 : (a1_0 != 5) = false := bne_eq_false_iff_eq.mpr c51
                              clear c51
                              by_cases c52 : a0.size + 5 ≤ 9223372036854775807
                              · rw [if_pos c52] at H
                                have c52b0 := eq_true c52
                                have c52b1 : decide (a0.size + 5 ≤ 9223372036854775807) = true := decide_eq_true c52
                                try have c52b2 : (9223372036854775807 < a0.size + 5) = False := eq_false (Nat.not_lt.2 c52)
                                by_cases c53 : a0.size + 9 ≤ 9223372036854775807
                                · rw [if_pos c53] at H
                                  have c53b0 := eq_true c53
                                  have c53b1 : decide (a0.size + 9 ≤ 9223372036854775807) = true := decide_eq_true c53
                                  try have c53b2 : (9223372036854775807 < a0.size + 9) = False := eq_false (Nat.not_lt.2 c53)
                                  have H' := Aside0.mk H
                                  clear H
                                  have hcz54_0 : wc.cell? ⟨gb106, 0, none⟩ = some (.int .i64 a1_0) := (blk_cell BK106.out 0).trans rfl
                                  have hcz54_1 : wc.cell? ⟨gb106, 1, none⟩ = some (.int .i64 a1_1) := (blk_cell BK106.out 1).trans rfl
                                  have hcz54_2 : wc.cell? ⟨gb106, 2, none⟩ = some (.string a1_2) := (blk_cell BK106.out 2).trans rfl
                                  have hcz54_3 : wc.cell? ⟨gb106, 3, none⟩ = some (.slice A1_3 l1_3.length c1_3) := (blk_cell BK106.out 3).trans rfl
                                  have hfz54_0 := blk_frozen BK106.out 0
                                  have hfz54_1 := blk_frozen BK106.out 1
                                  have hfz54_2 := blk_frozen BK106.out 2
                                  have hfz54_3 := blk_frozen BK106.out 3
                                  go_wp2
                                  go_meet
                                  case rel => exact ⟨_, (a0 ++ (⟨#[32, 73, 78, 32, 40]⟩ : ByteArray)), (a0 ++ (⟨#[32, 78, 79, 84, 32, 73, 78, 32, 40]⟩ : ByteArray)), (by first | rfl | (simp; done) | (simp [*]; done)), (by first | rfl | (simp; done) | (simp [*]; done)), H', ⟨by have := HJ2.out; have := HJ9.out; have := HJ44.out; first | omega | exact Nat.le_refl _⟩, ⟨by (with_reducible repeat (first | apply Kd.N_alloc | apply Kd.N_drewN | apply Kd.N_drew)); exact HO_6.out⟩, ⟨by (with_reducible repeat (first | apply Kd.N_alloc | apply Kd.N_drewN | apply Kd.N_drew)); exact HO_9.out⟩, ⟨by (with_reducible repeat (first | apply Kd.V_alloc | apply Kd.V_drewN | apply Kd.V_drew)); exact HO_107003.out⟩, ⟨by (with_reducible repeat (first | refine blk_drewN ?_ _ | refine blk_drew ?_ | refine blk_alloc ?_ _)); exact BK106.out⟩, ⟨by repeat (first | (with_reducible first | exact HB.out | apply below_alloc | apply pw_below_drewN | apply below_drew1 | refine below_set ?_ GE106.out) | exact HB.out)⟩⟩
                                · rw [if_neg c53] at H
                                  exact absurd H (by simp)
                              · rw [if_neg c52] at H
                                exact absurd H (by simp)
                            · rw [if_neg c51] at H
                              have c51b0 : (a1_0 == 5) = false := beq_eq_false_iff_ne.mpr c51
                              have c51b1 : (a1_0 != 5) = true := bne_iff_ne.mpr c51
                              have H' := Aside0.mk H
                              clear H
                              have hcz55_0 : wc.cell? ⟨gb106, 0, none⟩ = some (.int .i64 a1_0) := (blk_cell BK106.out 0).trans rfl
                              have hcz55_1 : wc.cell? ⟨gb106, 1, none⟩ = some (.int .i64 a1_1) := (blk_cell BK106.out 1).trans rfl
                              have hcz55_2 : wc.cell? ⟨gb106, 2, none⟩ = some (.string a1_2) := (blk_cell BK106.out 2).trans rfl
                              have hcz55_3 : wc.cell? ⟨gb106, 3, none⟩ = some (.slice A1_3 l1_3.length c1_3) := (blk_cell BK106.out 3).trans rfl
                              have hfz55_0 := blk_frozen BK106.out 0
                              have hfz55_1 := blk_frozen BK106.out 1
                              have hfz55_2 := blk_frozen BK106.out 2
                              have hfz55_3 := blk_frozen BK106.out 3
                              go_wp2
                              go_meet
                              case rel => exact ⟨_, ((a0 ++ (⟨#[32, 61, 32, 63]⟩ : ByteArray))), ((a0 ++ (⟨#[32, 60, 62, 32, 63]⟩ : ByteArray))), (by first | rfl | (simp; done) | (simp [*]; done)), (by first | rfl | (simp; done) | (simp [*]; done)), H', ⟨by have := HJ2.out; have := HJ9.out; have := HJ44.out; first | omega | exact Nat.le_refl _⟩, ⟨by (with_reducible repeat (first | apply Kd.N_alloc | apply Kd.N_drewN | apply Kd.N_drew)); exact HO_6.out⟩, ⟨by (with_reducible repeat (first | apply Kd.N_alloc | apply Kd.N_drewN | apply Kd.N_drew)); exact HO_9.out⟩, ⟨by (with_reducible repeat (first | apply Kd.V_alloc | apply Kd.V_drewN | apply Kd.V_drew)); exact HO_107003.out⟩, ⟨by (with_reducible repeat (first | refine blk_drewN ?_ _ | refine blk_drew ?_ | refine blk_alloc ?_ _)); exact BK106.out⟩, ⟨by repeat (first | (with_reducible first | exact HB.out | apply below_alloc | apply pw_below_drewN | apply below_drew1 | refine below_set ?_ GE106.out) | exact HB.out)⟩⟩
                  case rest =>
                    clear HC24
                    try clear c1
                    try clear c2
                    try clear p2
                    try clear c3
                    try clear c4
                    try clear c5
                    try clear c5b0
                    try clear c5b1
                    try clear c6
                    try clear c8
                    try clear c9
                    try clear c12
                    try clear c14
                    try clear c19
                    try clear c22
                    try clear c22b0
                    try clear c22b1
                    try clear c22b2
                    try clear c23
                    try clear c23b0
                    try clear c23b1
                    try clear c23b2
                    try clear c41
                    try clear c41b0
                    try clear c41b1
                    try clear c42
                    try clear c42b0
                    try clear c42b1
                    try clear c42b2
                    try clear c43
                    try clear c43b0
                    try clear c43b1
                    try clear c43b2
                    try clear c47
                    try clear c47b0
                    try clear c47b1
                    try clear c50
                    try clear c51
                    try clear c51b0
                    try clear c51b1
                    try clear c52
                    try clear c52b0
                    try clear c52b1
                    try clear c52b2
                    try clear c53
                    try clear c53b0
                    try clear c53b1
                    try clear c53b2
                    try clear hcz15_0
                    try clear hcz15_1
                    try clear hcz15_2
                    try clear hcz15_3
                    try clear hcz17_0
                    try clear hcz17_1
                    try clear hcz17_2
                    try clear hcz17_3
                    try clear hcz27_0
                    try clear hcz27_1
                    try clear hcz27_2
                    try clear hcz27_3
                    try clear hcz35_0
                    try clear hcz35_1
                    try clear hcz35_2
                    try clear hcz35_3
                    try clear hcz44_0
                    try clear hcz44_1
                    try clear hcz44_2
                    try clear hcz44_3
                    try clear hcz46_0
                    try clear hcz46_1
                    try clear hcz46_2
                    try clear hcz46_3
                    try clear hcz48_0
                    try clear hcz48_1
                    try clear hcz48_2
                    try clear hcz48_3
                    try clear hcz49_0
                    try clear hcz49_1
                    try clear hcz49_2
                    try clear hcz49_3
                    try clear hcz54_0
                    try clear hcz54_1
                    try clear hcz54_2
                    try clear hcz54_3
                    try clear hcz55_0
                    try clear hcz55_1
                    try clear hcz55_2
                    try clear hcz55_3
                    try clear hcz7_0
                    try clear hcz7_1
                    try clear hcz7_2
                    try clear hcz7_3
                    try clear hfz15_0
                    try clear hfz15_1
                    try clear hfz15_2
                    try clear hfz15_3
                    try clear hfz17_0
                    try clear hfz17_1
                    try clear hfz17_2
                    try clear hfz17_3
                    try clear hfz27_0
                    try clear hfz27_1
                    try clear hfz27_2
                    try clear hfz27_3
                    try clear hfz35_0
                    try clear hfz35_1
                    try clear hfz35_2
                    try clear hfz35_3
                    try clear hfz44_0
                    try clear hfz44_1
                    try clear hfz44_2
                    try clear hfz44_3
                    try clear hfz46_0
                    try clear hfz46_1
                    try clear hfz46_2
                    try clear hfz46_3
                    try clear hfz48_0
                    try clear hfz48_1
                    try clear hfz48_2
                    try clear hfz48_3
                    try clear hfz49_0
                    try clear hfz49_1
                    try clear hfz49_2
                    try clear hfz49_3
                    try clear hfz54_0
                    try clear hfz54_1
                    try clear hfz54_2
                    try clear hfz54_3
                    try clear hfz55_0
                    try clear hfz55_1
                    try clear hfz55_2
                    try clear hfz55_3
                    try clear hfz7_0
                    try clear hfz7_1
                    try clear hfz7_2
                    try clear hfz7_3
                    try clear p2
                    obtain ⟨kq, x11_23, x12_23, rfl, rfl, HA, HJ23, HO_6, HO_9, HO_107003, BK106, HB⟩ := hcut
                    cases kq with
                    | zero => exact absurd HA.out (by simp [laws_FnEqNot.j3])
                    | succ kj23 =>
                      have H := HA.out
                      clear HA
                      simp only [laws_FnEqNot.j3] at H
                      by_cases c56 : t118 = true
                      · subst c56
                        have H1 : (if t129 = true then ((spec_SameValues.f t117 t128).bind fun t132 => (if t132 = true then (if (t116.size : Int) ≥ (x11_23.size : Int) then (if (t127.size : Int) ≥ (x12_23.size : Int) then (if 0 ≤ (x11_23.size : Int) then (if (x11_23.size : Int) ≤ (t116.size : Int) then (if (t116.extract 0 ((x11_23.size : Int) : Int).toNat).toList = x11_23.toList then (if 0 ≤ (x12_23.size : Int) then (if (x12_23.size : Int) ≤ (t127.size : Int) then (if (t127.extract 0 ((x12_23.size : Int) : Int).toNat).toList = x12_23.toList then (some ((t116.extract ((x11_23.size : Int) : Int).toNat t116.size).toList == (t127.extract ((x12_23.size : Int) : Int).toNat t127.size).toList)) else (some false)) else (none)) else (none)) else (some false)) else (none)) else (none)) else (some false)) else (some false)) else (some false))) else (some false)) = some r := by rw [if_pos rfl] at H; exact H
                        clear H
                        have H := H1
                        clear H1
                        by_cases c57 : t129 = true
                        · subst c57
                          have H1 : ((spec_SameValues.f t117 t128).bind fun t132 => (if t132 = true then (if (t116.size : Int) ≥ (x11_23.size : Int) then (if (t127.size : Int) ≥ (x12_23.size : Int) then (if 0 ≤ (x11_23.size : Int) then (if (x11_23.size : Int) ≤ (t116.size : Int) then (if (t116.extract 0 ((x11_23.size : Int) : Int).toNat).toList = x11_23.toList then (if 0 ≤ (x12_23.size : Int) then (if (x12_23.size : Int) ≤ (t127.size : Int) then (if (t127.extract 0 ((x12_23.size : Int) : Int).toNat).toList = x12_23.toList then (some ((t116.extract ((x11_23.size : Int) : Int).toNat t116.size).toList == (t127.extract ((x12_23.size : Int) : Int).toNat t127.size).toList)) else (some false)) else (none)) else (none)) else (some false)) else (none)) else (none)) else (some false)) else (some false)) else (some false))) = some r := by rw [if_pos rfl] at H; exact H
                          clear H
                          have H := H1
                          clear H1
                          replace H := Option.bind_eq_some_iff.mp H
                          obtain ⟨t132, A580, H⟩ := H
                          replace H : (if t132 = true then (if (t116.size : Int) ≥ (x11_23.size : Int) then (if (t127.size : Int) ≥ (x12_23.size : Int) then (if 0 ≤ (x11_23.size : Int) then (if (x11_23.size : Int) ≤ (t116.size : Int) then (if (t116.extract 0 ((x11_23.size : Int) : Int).toNat).toList = x11_23.toList then (if 0 ≤ (x12_23.size : Int) then (if (x12_23.size : Int) ≤ (t127.size : Int) then (if (t127.extract 0 ((x12_23.size : Int) : Int).toNat).toList = x12_23.toList then (some ((t116.extract ((x11_23.size : Int) : Int).toNat t116.size).toList == (t127.extract ((x12_23.size : Int) : Int).toNat t127.size).toList)) else (some false)) else (none)) else (none)) else (some false)) else (none)) else (none)) else (some false)) else (some false)) else (some false)) = some r := H
                          have A58 := Aside0.mk A580
                          clear A580
                          by_cases c59 : t132 = true
                          · subst c59
                            have H1 : (if (t116.size : Int) ≥ (x11_23.size : Int) then (if (t127.size : Int) ≥ (x12_23.size : Int) then (if 0 ≤ (x11_23.size : Int) then (if (x11_23.size : Int) ≤ (t116.size : Int) then (if (t116.extract 0 ((x11_23.size : Int) : Int).toNat).toList = x11_23.toList then (if 0 ≤ (x12_23.size : Int) then (if (x12_23.size : Int) ≤ (t127.size : Int) then (if (t127.extract 0 ((x12_23.size : Int) : Int).toNat).toList = x12_23.toList then (some ((t116.extract ((x11_23.size : Int) : Int).toNat t116.size).toList == (t127.extract ((x12_23.size : Int) : Int).toNat t127.size).toList)) else (some false)) else (none)) else (none)) else (some false)) else (none)) else (none)) else (some false)) else (some false)) = some r := by rw [if_pos rfl] at H; exact H
                            clear H
                            have H := H1
                            clear H1
                            by_cases c60 : (t116.size : Int) ≥ (x11_23.size : Int)
                            · rw [if_pos c60] at H
                              have c60b0 : decide ((x11_23.size : Int) ≤ (t116.size : Int)) = true := decide_eq_true c60
                              have c60b1 : decide (x11_23.size ≤ t116.size) = true := decide_eq_true (Int.ofNat_le.mp c60)
                              clear c60
                              by_cases c61 : (t127.size : Int) ≥ (x12_23.size : Int)
                              · rw [if_pos c61] at H
                                have c61b0 : decide ((x12_23.size : Int) ≤ (t127.size : Int)) = true := decide_eq_true c61
                                have c61b1 : decide (x12_23.size ≤ t127.size) = true := decide_eq_true (Int.ofNat_le.mp c61)
                                clear c61
                                by_cases c62 : 0 ≤ (x11_23.size : Int)
                                · rw [if_pos c62] at H
                                  have c62b0 := eq_true c62
                                  have c62b1 : decide (0 ≤ (x11_23.size : Int)) = true := decide_eq_true c62
                                  clear c62
                                  by_cases c63 : (x11_23.size : Int) ≤ (t116.size : Int)
                                  · rw [if_pos c63] at H
                                    have c63b0 := eq_true c63
                                    have c63b1 : decide ((x11_23.size : Int) ≤ (t116.size : Int)) = true := decide_eq_true c63
                                    clear c63
                                    by_cases c64 : (t116.extract 0 ((x11_23.size : Int) : Int).toNat).toList = x11_23.toList
                                    · rw [if_pos c64] at H
                                      have c64b0 : ((t116.extract 0 ((x11_23.size : Int) : Int).toNat).toList == x11_23.toList) = true := beq_iff_eq.mpr c64
                                      have c64b9 : ((t116.extract 0 x11_23.size).toList == x11_23.toList) = true := c64b0
                                      have c64b1 : ((t116.extract 0 ((x11_23.size : Int) : Int).toNat).toList != x11_23.toList) = false := bne_eq_false_iff_eq.mpr c64
                                      clear c64
                                      by_cases c65 : 0 ≤ (x12_23.size : Int)
                                      · rw [if_pos c65] at H
                                        have c65b0 := eq_true c65
                                        have c65b1 : decide (0 ≤ (x12_23.size : Int)) = true := decide_eq_true c65
                                        clear c65
                                        by_cases c66 : (x12_23.size : Int) ≤ (t127.size : Int)
                                        · rw [if_pos c66] at H
                                          have c66b0 := eq_true c66
                                          have c66b1 : decide ((x12_23.size : Int) ≤ (t127.size : Int)) = true := decide_eq_true c66
                                          clear c66
                                          by_cases c67 : (t127.extract 0 ((x12_23.size : Int) : Int).toNat).toList = x12_23.toList
                                          · rw [if_pos c67] at H
                                            have c67b0 : ((t127.extract 0 ((x12_23.size : Int) : Int).toNat).toList == x12_23.toList) = true := beq_iff_eq.mpr c67
                                            have c67b9 : ((t127.extract 0 x12_23.size).toList == x12_23.toList) = true := c67b0
                                            have c67b1 : ((t127.extract 0 ((x12_23.size : Int) : Int).toNat).toList != x12_23.toList) = false := bne_eq_false_iff_eq.mpr c67
                                            clear c67
                                            have c68b0 := eq_true (of_decide_eq_true (by first | (with_reducible assumption) | assumption) : 0 ≤ (x11_23.size : Int))
                                            have c69b0 := eq_true (of_decide_eq_true (by first | (with_reducible assumption) | assumption) : (x11_23.size : Int) ≤ (t116.size : Int))
                                            have c70b0 := eq_true (of_decide_eq_true (by first | (with_reducible assumption) | assumption) : 0 ≤ (x12_23.size : Int))
                                            have c71b0 := eq_true (of_decide_eq_true (by first | (with_reducible assumption) | assumption) : (x12_23.size : Int) ≤ (t127.size : Int))
                                            obtain rfl := Option.some.inj H
                                            try go_wp2
                                            have n0_ := Aside0.mk (Kd.N_drew HO_6.out)
                                            have n1_ := Aside0.mk (Kd.N_drew HO_9.out)
                                            have n2_ := Aside0.mk (Kd.V_drew HO_107003.out)
                                            have n3_ := Aside0.mk (blk_drew BK106.out)
                                            have n4_ := Aside0.mk (below_drew1 HB.out)
                                            clear HO_6
                                            clear HO_9
                                            clear HO_107003
                                            clear BK106
                                            clear HB
                                            have HO_6 := n0_
                                            have HO_9 := n1_
                                            have HO_107003 := n2_
                                            have BK106 := n3_
                                            have HB := n4_
                                            clear n0_ n1_ n2_ n3_ n4_
                                            obtain ⟨Ao73, co73, eo73⟩ := Kd.N_slice HO_6.out
                                            (first | subst eo73 | (injection eo73 with f1_ f2_ f3_; have f4_ := f1_.symm; have f5_ := f3_.symm; clear f1_ f2_ f3_; subst f4_; subst f5_))
                                            obtain ⟨Ao74, co74, eo74⟩ := Kd.N_slice HO_9.out
                                            (first | subst eo74 | (injection eo74 with f1_ f2_ f3_; have f4_ := f1_.symm; have f5_ := f3_.symm; clear f1_ f2_ f3_; subst f4_; subst f5_))
                                            refine start_ (n := 51) (S := fun w' => True) (ds := []) #[false, false, false, false, false, false, false, false, false, false, false, false, false, false, false, false, false, false, false, false, false, false, false, false, false, false, false, false, false, false, false, false, false, false, false, false, false, false, false, false, false, false, false, false, false, false, false, false, false, false, false] (by kernel_rfl) rfl rfl trivial (fun hHeld => ?_); refine with_tabW laws_FnEqNot.tab14 laws_FnEqNot.bits14 (fun HT_ HW_ => ?_)
                                            generalize wc.drew = w72 at HO_6 HO_9 HO_107003 BK106 HB hHeld ⊢
                                            refine pure_ (i := 0) (N := some 82) (v := ?_) (a' := ?_) #[true, false, false, false, false, false, false, false, false, false, false, false, false, false, false, false, false, false, false, false, false, false, false, false, false, false, false, false, false, false, false, false, false, false, false, false, false, false, false, false, false, false, false, false, false, false, false, false, false, false, false] rfl rfl (any_of HT_.out (by kernel_rfl)) (fun _ _ _ h => h) (Or.inl ⟨by rfl, ?_⟩) ?_ ?_
                                            rotate_left
                                            · intro w'
                                              go_simp
                                              with_reducible rfl
                                            rotate_left
                                            · simp only [Act.put, List.setIfInBounds_toArray, List.set_cons_zero, List.set_cons_succ, i64_w, i32_w]
                                              rfl
                                            refine pure_ (i := 1) (N := some 83) (v := ?_) (a' := ?_) #[true, true, false, false, false, false, false, false, false, false, false, false, false, false, false, false, false, false, false, false, false, false, false, false, false, false, false, false, false, false, false, false, false, false, false, false, false, false, false, false, false, false, false, false, false, false, false, false, false, false, false] rfl rfl (any_of HT_.out (by kernel_rfl)) (fun _ _ _ h => h) (Or.inl ⟨by rfl, ?_⟩) ?_ ?_
                                            rotate_left
                                            · intro w'
                                              go_simp
                                              with_reducible rfl
                                            rotate_left
                                            · simp only [Act.put, List.setIfInBounds_toArray, List.set_cons_zero, List.set_cons_succ, i64_w, i32_w]
                                              rfl
                                            refine pure_ (i := 2) (N := some 84) (v := ?_) (a' := ?_) #[true, true, true, false, false, false, false, false, false, false, false, false, false, false, false, false, false, false, false, false, false, false, false, false, false, false, false, false, false, false, false, false, false, false, false, false, false, false, false, false, false, false, false, false, false, false, false, false, false, false, false] rfl rfl (any_of HT_.out (by kernel_rfl)) (fun _ _ _ h => h) (Or.inl ⟨by rfl, ?_⟩) ?_ ?_
                                            rotate_left
                                            · intro w'
                                              go_simp
                                              with_reducible rfl
                                            rotate_left
                                            · simp only [Act.put, List.setIfInBounds_toArray, List.set_cons_zero, List.set_cons_succ, i64_w, i32_w]
                                              rfl
                                            refine pure_ (i := 3) (N := some 85) (v := ?_) (a' := ?_) #[true, true, true, true, false, false, false, false, false, false, false, false, false, false, false, false, false, false, false, false, false, false, false, false, false, false, false, false, false, false, false, false, false, false, false, false, false, false, false, false, false, false, false, false, false, false, false, false, false, false, false] rfl rfl (any_of HT_.out (by kernel_rfl)) (fun _ _ _ h => h) (Or.inl ⟨by rfl, ?_⟩) ?_ ?_
                                            rotate_left
                                            · intro w'
                                              go_simp
                                              with_reducible rfl
                                            rotate_left
                                            · simp only [Act.put, List.setIfInBounds_toArray, List.set_cons_zero, List.set_cons_succ, i64_w, i32_w]
                                              rfl
                                            refine pure_ (i := 4) (N := some 86) (v := ?_) (a' := ?_) #[true, true, true, true, true, false, false, false, false, false, false, false, false, false, false, false, false, false, false, false, false, false, false, false, false, false, false, false, false, false, false, false, false, false, false, false, false, false, false, false, false, false, false, false, false, false, false, false, false, false, false] rfl rfl (any_of HT_.out (by kernel_rfl)) (fun _ _ _ h => h) (Or.inl ⟨by rfl, ?_⟩) ?_ ?_
                                            rotate_left
                                            · intro w'
                                              go_simp
                                              with_reducible rfl
                                            rotate_left
                                            · simp only [Act.put, List.setIfInBounds_toArray, List.set_cons_zero, List.set_cons_succ, i64_w, i32_w]
                                              rfl
                                            refine pure_ (i := 5) (N := some 87) (v := ?_) (a' := ?_) #[true, true, true, true, true, true, false, false, false, false, false, false, false, false, false, false, false, false, false, false, false, false, false, false, false, false, false, false, false, false, false, false, false, false, false, false, false, false, false, false, false, false, false, false, false, false, false, false, false, false, false] rfl rfl (any_of HT_.out (by kernel_rfl)) (fun _ _ _ h => h) (Or.inl ⟨by rfl, ?_⟩) ?_ ?_
                                            rotate_left
                                            · intro w'
                                              go_simp
                                              with_reducible rfl
                                            rotate_left
                                            · simp only [Act.put, List.setIfInBounds_toArray, List.set_cons_zero, List.set_cons_succ, i64_w, i32_w]
                                              rfl
                                            refine pure_ (i := 6) (N := some 88) (v := ?_) (a' := ?_) #[true, true, true, true, true, true, true, false, false, false, false, false, false, false, false, false, false, false, false, false, false, false, false, false, false, false, false, false, false, false, false, false, false, false, false, false, false, false, false, false, false, false, false, false, false, false, false, false, false, false, false] rfl rfl (any_of HT_.out (by kernel_rfl)) (fun _ _ _ h => h) (Or.inl ⟨by rfl, ?_⟩) ?_ ?_
                                            rotate_left
                                            · intro w'
                                              go_simp
                                              with_reducible rfl
                                            rotate_left
                                            · simp only [Act.put, List.setIfInBounds_toArray, List.set_cons_zero, List.set_cons_succ, i64_w, i32_w]
                                              rfl
                                            refine one_ (i := 7) (N := some 89) #[true, true, true, true, true, true, true, true, false, false, false, false, false, false, false, false, false, false, false, false, false, false, false, false, false, false, false, false, false, false, false, false, false, false, false, false, false, false, false, false, false, false, false, false, false, false, false, false, false, false, false] rfl rfl (one_of HT_.out (by kernel_rfl)) (by decide) (fun K hK => ?_)
                                            refine goes_ Try.func10 (by kernel_rfl) rfl #[.slice Ao73 t117.length co73, .slice Ao74 t128.length co74] (by rfl) rfl rfl (by (try simp only [List.map_toArray, List.map_cons, List.map_nil]); first | done | rfl | (simp only [List.length_drop, List.length_take]; rfl)) ?_
                                            with_reducible refine (spec_SameValues.calls _ _ t117 _ _ t128 true _ ?side1 ?side2 ?side3 ?side4 A58.out).mono ?_
                                            (case side1 => repeat (first | exact (Kd.N_reads' HO_6.out).2.2 | (with_reducible refine Kd.C_alloc ?_ _) | (with_reducible refine Kd.C_drewN ?_ _) | (with_reducible refine Kd.C_drew ?_)))
                                            (case side2 => exact (Kd.N_reads' HO_6.out).2.1)
                                            (case side3 => repeat (first | exact (Kd.N_reads' HO_9.out).2.2 | (with_reducible refine Kd.C_alloc ?_ _) | (with_reducible refine Kd.C_drewN ?_ _) | (with_reducible refine Kd.C_drew ?_)))
                                            (case side4 => exact (Kd.N_reads' HO_9.out).2.1)
                                            rintro e w75 ⟨rfl, hb⟩
                                            refine ⟨_, rfl, ?_⟩
                                            have n0_ := Aside0.mk (Kd.N_below (by (with_reducible repeat (first | apply Kd.N_alloc | apply Kd.N_drewN | apply Kd.N_drew)); exact HO_6.out) hb)
                                            have n1_ := Aside0.mk (Kd.N_below (by (with_reducible repeat (first | apply Kd.N_alloc | apply Kd.N_drewN | apply Kd.N_drew)); exact HO_9.out) hb)
                                            have n2_ := Aside0.mk (Kd.V_below (by (with_reducible repeat (first | apply Kd.V_alloc | apply Kd.V_drewN | apply Kd.V_drew)); exact HO_107003.out) hb)
                                            have n3_ := Aside0.mk (blk_below (g := gb106) (o := .cells #[.int .i64 a1_0, .int .i64 a1_1, .string a1_2, .slice A1_3 l1_3.length c1_3] 24 (0, 0)) (by (with_reducible repeat (first | refine blk_drewN ?_ _ | refine blk_drew ?_ | refine blk_alloc ?_ _)); exact BK106.out) hb)
                                            have n4_ := Aside0.mk (below_step (by repeat (first | (with_reducible first | exact HB.out | apply below_alloc | apply pw_below_drewN | apply below_drew1 | refine below_set ?_ GE106.out) | exact HB.out)) hb)
                                            clear HO_6
                                            clear HO_9
                                            clear HO_107003
                                            clear BK106
                                            clear HB
                                            have HO_6 := n0_
                                            have HO_9 := n1_
                                            have HO_107003 := n2_
                                            have BK106 := n3_
                                            have HB := n4_
                                            clear n0_ n1_ n2_ n3_ n4_
                                            (try clear hb)
                                            (try clear hb2)
                                            (try clear hk)
                                            (try clear hi)
                                            refine hK.out _ _ trivial (fun hHeld => ?_)
                                            clear hK K
                                            refine norm_ (a' := ?_) ?_ ?_
                                            rotate_left
                                            · show Act.put _ (some 89) _ = _
                                              simp only [Act.put, List.setIfInBounds_toArray, List.set_cons_zero, List.set_cons_succ, i64_w, i32_w]
                                              rfl
                                            refine pure_ (i := 8) (N := some 90) (v := ?_) (a' := ?_) #[true, true, true, true, true, true, true, true, true, false, false, false, false, false, false, false, false, false, false, false, false, false, false, false, false, false, false, false, false, false, false, false, false, false, false, false, false, false, false, false, false, false, false, false, false, false, false, false, false, false, false] rfl rfl (any_of HT_.out (by kernel_rfl)) (fun _ _ _ h => h) (Or.inl ⟨by rfl, ?_⟩) ?_ ?_
                                            rotate_left
                                            · intro w'
                                              go_simp
                                              with_reducible rfl
                                            rotate_left
                                            · simp only [Act.put, List.setIfInBounds_toArray, List.set_cons_zero, List.set_cons_succ, i64_w, i32_w]
                                              rfl
                                            refine pure_ (i := 9) (N := some 91) (v := ?_) (a' := ?_) #[true, true, true, true, true, true, true, true, true, true, false, false, false, false, false, false, false, false, false, false, false, false, false, false, false, false, false, false, false, false, false, false, false, false, false, false, false, false, false, false, false, false, false, false, false, false, false, false, false, false, false] rfl rfl (any_of HT_.out (by kernel_rfl)) (fun _ _ _ h => h) (Or.inl ⟨by rfl, ?_⟩) ?_ ?_
                                            rotate_left
                                            · intro w'
                                              go_simp
                                              with_reducible rfl
                                            rotate_left
                                            · simp only [Act.put, List.setIfInBounds_toArray, List.set_cons_zero, List.set_cons_succ, i64_w, i32_w]
                                              rfl
                                            refine pure_ (i := 10) (N := some 92) (v := ?_) (a' := ?_) #[true, true, true, true, true, true, true, true, true, true, true, false, false, false, false, false, false, false, false, false, false, false, false, false, false, false, false, false, false, false, false, false, false, false, false, false, false, false, false, false, false, false, false, false, false, false, false, false, false, false, false] rfl rfl (any_of HT_.out (by kernel_rfl)) (fun _ _ _ h => h) (Or.inl ⟨by rfl, ?_⟩) ?_ ?_
                                            rotate_left
                                            · intro w'
                                              go_simp
                                              with_reducible rfl
                                            rotate_left
                                            · simp only [Act.put, List.setIfInBounds_toArray, List.set_cons_zero, List.set_cons_succ, i64_w, i32_w]
                                              rfl
                                            refine pure_ (i := 11) (N := some 93) (v := ?_) (a' := ?_) #[true, true, true, true, true, true, true, true, true, true, true, true, false, false, false, false, false, false, false, false, false, false, false, false, false, false, false, false, false, false, false, false, false, false, false, false, false, false, false, false, false, false, false, false, false, false, false, false, false, false, false] rfl rfl (any_of HT_.out (by kernel_rfl)) (fun _ _ _ h => h) (Or.inl ⟨by rfl, ?_⟩) ?_ ?_
                                            rotate_left
                                            · intro w'
                                              go_simp
                                              with_reducible rfl
                                            rotate_left
                                            · simp only [Act.put, List.setIfInBounds_toArray, List.set_cons_zero, List.set_cons_succ, i64_w, i32_w]
                                              rfl
                                            refine pure_ (i := 12) (N := some 94) (v := ?_) (a' := ?_) #[true, true, true, true, true, true, true, true, true, true, true, true, true, false, false, false, false, false, false, false, false, false, false, false, false, false, false, false, false, false, false, false, false, false, false, false, false, false, false, false, false, false, false, false, false, false, false, false, false, false, false] rfl rfl (any_of HT_.out (by kernel_rfl)) (fun _ _ _ h => h) (Or.inl ⟨by rfl, ?_⟩) ?_ ?_
                                            rotate_left
                                            · intro w'
                                              go_simp
                                              with_reducible rfl
                                            rotate_left
                                            · simp only [Act.put, List.setIfInBounds_toArray, List.set_cons_zero, List.set_cons_succ, i64_w, i32_w]
                                              rfl
                                            refine pure_ (i := 13) (N := some 95) (v := ?_) (a' := ?_) #[true, true, true, true, true, true, true, true, true, true, true, true, true, true, false, false, false, false, false, false, false, false, false, false, false, false, false, false, false, false, false, false, false, false, false, false, false, false, false, false, false, false, false, false, false, false, false, false, false, false, false] rfl rfl (any_of HT_.out (by kernel_rfl)) (fun _ _ _ h => h) (Or.inl ⟨by rfl, ?_⟩) ?_ ?_
                                            rotate_left
                                            · intro w'
                                              go_simp
                                              with_reducible rfl
                                            rotate_left
                                            · simp only [Act.put, List.setIfInBounds_toArray, List.set_cons_zero, List.set_cons_succ, i64_w, i32_w]
                                              rfl
                                            refine pure_ (i := 14) (N := some 96) (v := ?_) (a' := ?_) #[true, true, true, true, true, true, true, true, true, true, true, true, true, true, true, false, false, false, false, false, false, false, false, false, false, false, false, false, false, false, false, false, false, false, false, false, false, false, false, false, false, false, false, false, false, false, false, false, false, false, false] rfl rfl (any_of HT_.out (by kernel_rfl)) (fun _ _ _ h => h) (Or.inl ⟨by rfl, ?_⟩) ?_ ?_
                                            rotate_left
                                            · intro w'
                                              go_simp
                                              with_reducible rfl
                                            rotate_left
                                            · simp only [Act.put, List.setIfInBounds_toArray, List.set_cons_zero, List.set_cons_succ, i64_w, i32_w]
                                              rfl
                                            refine pure_ (i := 15) (N := some 97) (v := ?_) (a' := ?_) #[true, true, true, true, true, true, true, true, true, true, true, true, true, true, true, true, false, false, false, false, false, false, false, false, false, false, false, false, false, false, false, false, false, false, false, false, false, false, false, false, false, false, false, false, false, false, false, false, false, false, false] rfl rfl (any_of HT_.out (by kernel_rfl)) (fun _ _ _ h => h) (Or.inl ⟨by rfl, ?_⟩) ?_ ?_
                                            rotate_left
                                            · intro w'
                                              go_simp
                                              with_reducible rfl
                                            rotate_left
                                            · simp only [Act.put, List.setIfInBounds_toArray, List.set_cons_zero, List.set_cons_succ, i64_w, i32_w]
                                              rfl
                                            refine pure_ (i := 16) (N := some 98) (v := ?_) (a' := ?_) #[true, true, true, true, true, true, true, true, true, true, true, true, true, true, true, true, true, false, false, false, false, false, false, false, false, false, false, false, false, false, false, false, false, false, false, false, false, false, false, false, false, false, false, false, false, false, false, false, false, false, false] rfl rfl (any_of HT_.out (by kernel_rfl)) (fun _ _ _ h => h) (Or.inl ⟨by rfl, ?_⟩) ?_ ?_
                                            rotate_left
                                            · intro w'
                                              go_simp
                                              with_reducible rfl
                                            rotate_left
                                            · simp only [Act.put, List.setIfInBounds_toArray, List.set_cons_zero, List.set_cons_succ, i64_w, i32_w]
                                              rfl
                                            refine pure_ (i := 17) (N := some 99) (v := ?_) (a' := ?_) #[true, true, true, true, true, true, true, true, true, true, true, true, true, true, true, true, true, true, false, false, false, false, false, false, false, false, false, false, false, false, false, false, false, false, false, false, false, false, false, false, false, false, false, false, false, false, false, false, false, false, false] rfl rfl (any_of HT_.out (by kernel_rfl)) (fun _ _ _ h => h) (Or.inl ⟨by rfl, ?_⟩) ?_ ?_
                                            rotate_left
                                            · intro w'
                                              go_simp
                                              with_reducible rfl
                                            rotate_left
                                            · simp only [Act.put, List.setIfInBounds_toArray, List.set_cons_zero, List.set_cons_succ, i64_w, i32_w]
                                              rfl
                                            refine pure_ (i := 18) (N := some 100) (v := ?_) (a' := ?_) #[true, true, true, true, true, true, true, true, true, true, true, true, true, true, true, true, true, true, true, false, false, false, false, false, false, false, false, false, false, false, false, false, false, false, false, false, false, false, false, false, false, false, false, false, false, false, false, false, false, false, false] rfl rfl (any_of HT_.out (by kernel_rfl)) (fun _ _ _ h => h) (Or.inl ⟨by rfl, ?_⟩) ?_ ?_
                                            rotate_left
                                            · intro w'
                                              go_simp
                                              with_reducible rfl
                                            rotate_left
                                            · simp only [Act.put, List.setIfInBounds_toArray, List.set_cons_zero, List.set_cons_succ, i64_w, i32_w]
                                              rfl
                                            refine pure_ (i := 19) (N := some 101) (v := ?_) (a' := ?_) #[true, true, true, true, true, true, true, true, true, true, true, true, true, true, true, true, true, true, true, true, false, false, false, false, false, false, false, false, false, false, false, false, false, false, false, false, false, false, false, false, false, false, false, false, false, false, false, false, false, false, false] rfl rfl (any_of HT_.out (by kernel_rfl)) (fun _ _ _ h => h) (Or.inl ⟨by rfl, ?_⟩) ?_ ?_
                                            rotate_left
                                            · intro w'
                                              go_simp
                                              with_reducible rfl
                                            rotate_left
                                            · simp only [Act.put, List.setIfInBounds_toArray, List.set_cons_zero, List.set_cons_succ, i64_w, i32_w]
                                              rfl
                                            refine pure_ (i := 20) (N := some 102) (v := ?_) (a' := ?_) #[true, true, true, true, true, true, true, true, true, true, true, true, true, true, true, true, true, true, true, true, true, false, false, false, false, false, false, false, false, false, false, false, false, false, false, false, false, false, false, false, false, false, false, false, false, false, false, false, false, false, false] rfl rfl (any_of HT_.out (by kernel_rfl)) (fun _ _ _ h => h) (Or.inl ⟨by rfl, ?_⟩) ?_ ?_
                                            rotate_left
                                            · intro w'
                                              go_simp
                                              with_reducible rfl
                                            rotate_left
                                            · simp only [Act.put, List.setIfInBounds_toArray, List.set_cons_zero, List.set_cons_succ, i64_w, i32_w]
                                              rfl
                                            refine pure_ (i := 21) (N := some 103) (v := ?_) (a' := ?_) #[true, true, true, true, true, true, true, true, true, true, true, true, true, true, true, true, true, true, true, true, true, true, false, false, false, false, false, false, false, false, false, false, false, false, false, false, false, false, false, false, false, false, false, false, false, false, false, false, false, false, false] rfl rfl (any_of HT_.out (by kernel_rfl)) (fun _ _ _ h => h) (Or.inl ⟨by rfl, ?_⟩) ?_ ?_
                                            rotate_left
                                            · intro w'
                                              go_simp
                                              with_reducible rfl
                                            rotate_left
                                            · simp only [Act.put, List.setIfInBounds_toArray, List.set_cons_zero, List.set_cons_succ, i64_w, i32_w]
                                              rfl
                                            refine pure_ (i := 22) (N := some 104) (v := ?_) (a' := ?_) #[true, true, true, true, true, true, true, true, true, true, true, true, true, true, true, true, true, true, true, true, true, true, true, false, false, false, false, false, false, false, false, false, false, false, false, false, false, false, false, false, false, false, false, false, false, false, false, false, false, false, false] rfl rfl (any_of HT_.out (by kernel_rfl)) (fun _ _ _ h => h) (Or.inl ⟨by rfl, ?_⟩) ?_ ?_
                                            rotate_left
                                            · intro w'
                                              go_simp
                                              with_reducible rfl
                                            rotate_left
                                            · simp only [Act.put, List.setIfInBounds_toArray, List.set_cons_zero, List.set_cons_succ, i64_w, i32_w]
                                              rfl
                                            refine pure_ (i := 23) (N := some 105) (v := ?_) (a' := ?_) #[true, true, true, true, true, true, true, true, true, true, true, true, true, true, true, true, true, true, true, true, true, true, true, true, false, false, false, false, false, false, false, false, false, false, false, false, false, false, false, false, false, false, false, false, false, false, false, false, false, false, false] rfl rfl (any_of HT_.out (by kernel_rfl)) (fun _ _ _ h => h) (Or.inl ⟨by rfl, ?_⟩) ?_ ?_
                                            rotate_left
                                            · intro w'
                                              go_simp
                                              with_reducible rfl
                                            rotate_left
                                            · simp only [Act.put, List.setIfInBounds_toArray, List.set_cons_zero, List.set_cons_succ, i64_w, i32_w]
                                              rfl
                                            refine pure_ (i := 24) (N := some 106) (v := ?_) (a' := ?_) #[true, true, true, true, true, true, true, true, true, true, true, true, true, true, true, true, true, true, true, true, true, true, true, true, true, false, false, false, false, false, false, false, false, false, false, false, false, false, false, false, false, false, false, false, false, false, false, false, false, false, false] rfl rfl (any_of HT_.out (by kernel_rfl)) (fun _ _ _ h => h) (Or.inl ⟨by rfl, ?_⟩) ?_ ?_
                                            rotate_left
                                            · intro w'
                                              go_simp
                                              with_reducible rfl
                                            rotate_left
                                            · simp only [Act.put, List.setIfInBounds_toArray, List.set_cons_zero, List.set_cons_succ, i64_w, i32_w]
                                              rfl
                                            refine pure_ (i := 25) (N := some 107) (v := ?_) (a' := ?_) #[true, true, true, true, true, true, true, true, true, true, true, true, true, true, true, true, true, true, true, true, true, true, true, true, true, true, false, false, false, false, false, false, false, false, false, false, false, false, false, false, false, false, false, false, false, false, false, false, false, false, false] rfl rfl (any_of HT_.out (by kernel_rfl)) (fun _ _ _ h => h) (Or.inl ⟨by rfl, ?_⟩) ?_ ?_
                                            rotate_left
                                            · intro w'
                                              go_simp
                                              with_reducible rfl
                                            rotate_left
                                            · simp only [Act.put, List.setIfInBounds_toArray, List.set_cons_zero, List.set_cons_succ, i64_w, i32_w]
                                              rfl
                                            refine pure_ (i := 26) (N := some 108) (v := ?_) (a' := ?_) #[true, true, true, true, true, true, true, true, true, true, true, true, true, true, true, true, true, true, true, true, true, true, true, true, true, true, true, false, false, false, false, false, false, false, false, false, false, false, false, false, false, false, false, false, false, false, false, false, false, false, false] rfl rfl (any_of HT_.out (by kernel_rfl)) (fun _ _ _ h => h) (Or.inl ⟨by rfl, ?_⟩) ?_ ?_
                                            rotate_left
                                            · intro w'
                                              go_simp
                                              with_reducible rfl
                                            rotate_left
                                            · simp only [Act.put, List.setIfInBounds_toArray, List.set_cons_zero, List.set_cons_succ, i64_w, i32_w]
                                              rfl
                                            refine pure_ (i := 27) (N := some 109) (v := ?_) (a' := ?_) #[true, true, true, true, true, true, true, true, true, true, true, true, true, true, true, true, true, true, true, true, true, true, true, true, true, true, true, true, false, false, false, false, false, false, false, false, false, false, false, false, false, false, false, false, false, false, false, false, false, false, false] rfl rfl (any_of HT_.out (by kernel_rfl)) (fun _ _ _ h => h) (Or.inl ⟨by rfl, ?_⟩) ?_ ?_
                                            rotate_left
                                            · intro w'
                                              go_simp
                                              with_reducible rfl
                                            rotate_left
                                            · simp only [Act.put, List.setIfInBounds_toArray, List.set_cons_zero, List.set_cons_succ, i64_w, i32_w]
                                              rfl
                                            refine pure_ (i := 28) (N := some 110) (v := ?_) (a' := ?_) #[true, true, true, true, true, true, true, true, true, true, true, true, true, true, true, true, true, true, true, true, true, true, true, true, true, true, true, true, true, false, false, false, false, false, false, false, false, false, false, false, false, false, false, false, false, false, false, false, false, false, false] rfl rfl (any_of HT_.out (by kernel_rfl)) (fun _ _ _ h => h) (Or.inl ⟨by rfl, ?_⟩) ?_ ?_
                                            rotate_left
                                            · intro w'
                                              go_simp
                                              with_reducible rfl
                                            rotate_left
                                            · simp only [Act.put, List.setIfInBounds_toArray, List.set_cons_zero, List.set_cons_succ, i64_w, i32_w]
                                              rfl
                                            refine pure_ (i := 29) (N := some 111) (v := ?_) (a' := ?_) #[true, true, true, true, true, true, true, true, true, true, true, true, true, true, true, true, true, true, true, true, true, true, true, true, true, true, true, true, true, true, false, false, false, false, false, false, false, false, false, false, false, false, false, false, false, false, false, false, false, false, false] rfl rfl (any_of HT_.out (by kernel_rfl)) (fun _ _ _ h => h) (Or.inl ⟨by rfl, ?_⟩) ?_ ?_
                                            rotate_left
                                            · intro w'
                                              go_simp
                                              with_reducible rfl
                                            rotate_left
                                            · simp only [Act.put, List.setIfInBounds_toArray, List.set_cons_zero, List.set_cons_succ, i64_w, i32_w]
                                              rfl
                                            refine pure_ (i := 30) (N := some 112) (v := ?_) (a' := ?_) #[true, true, true, true, true, true, true, true, true, true, true, true, true, true, true, true, true, true, true, true, true, true, true, true, true, true, true, true, true, true, true, false, false, false, false, false, false, false, false, false, false, false, false, false, false, false, false, false, false, false, false] rfl rfl (any_of HT_.out (by kernel_rfl)) (fun _ _ _ h => h) (Or.inl ⟨by rfl, ?_⟩) ?_ ?_
                                            rotate_left
                                            · intro w'
                                              go_simp
                                              with_reducible rfl
                                            rotate_left
                                            · simp only [Act.put, List.setIfInBounds_toArray, List.set_cons_zero, List.set_cons_succ, i64_w, i32_w]
                                              rfl
                                            refine pure_ (i := 31) (N := some 113) (v := ?_) (a' := ?_) #[true, true, true, true, true, true, true, true, true, true, true, true, true, true, true, true, true, true, true, true, true, true, true, true, true, true, true, true, true, true, true, true, false, false, false, false, false, false, false, false, false, false, false, false, false, false, false, false, false, false, false] rfl rfl (any_of HT_.out (by kernel_rfl)) (fun _ _ _ h => h) (Or.inl ⟨by rfl, ?_⟩) ?_ ?_
                                            rotate_left
                                            · intro w'
                                              go_simp
                                              with_reducible rfl
                                            rotate_left
                                            · simp only [Act.put, List.setIfInBounds_toArray, List.set_cons_zero, List.set_cons_succ, i64_w, i32_w]
                                              rfl
                                            refine pure_ (i := 32) (N := some 114) (v := ?_) (a' := ?_) #[true, true, true, true, true, true, true, true, true, true, true, true, true, true, true, true, true, true, true, true, true, true, true, true, true, true, true, true, true, true, true, true, true, false, false, false, false, false, false, false, false, false, false, false, false, false, false, false, false, false, false] rfl rfl (any_of HT_.out (by kernel_rfl)) (fun _ _ _ h => h) (Or.inl ⟨by rfl, ?_⟩) ?_ ?_
                                            rotate_left
                                            · intro w'
                                              go_simp
                                              with_reducible rfl
                                            rotate_left
                                            · simp only [Act.put, List.setIfInBounds_toArray, List.set_cons_zero, List.set_cons_succ, i64_w, i32_w]
                                              rfl
                                            refine pure_ (i := 33) (N := some 115) (v := ?_) (a' := ?_) #[true, true, true, true, true, true, true, true, true, true, true, true, true, true, true, true, true, true, true, true, true, true, true, true, true, true, true, true, true, true, true, true, true, true, false, false, false, false, false, false, false, false, false, false, false, false, false, false, false, false, false] rfl rfl (any_of HT_.out (by kernel_rfl)) (fun _ _ _ h => h) (Or.inl ⟨by rfl, ?_⟩) ?_ ?_
                                            rotate_left
                                            · intro w'
                                              go_simp
                                              with_reducible rfl
                                            rotate_left
                                            · simp only [Act.put, List.setIfInBounds_toArray, List.set_cons_zero, List.set_cons_succ, i64_w, i32_w]
                                              rfl
                                            refine pure_ (i := 34) (N := some 116) (v := ?_) (a' := ?_) #[true, true, true, true, true, true, true, true, true, true, true, true, true, true, true, true, true, true, true, true, true, true, true, true, true, true, true, true, true, true, true, true, true, true, true, false, false, false, false, false, false, false, false, false, false, false, false, false, false, false, false] rfl rfl (any_of HT_.out (by kernel_rfl)) (fun _ _ _ h => h) (Or.inl ⟨by rfl, ?_⟩) ?_ ?_
                                            rotate_left
                                            · intro w'
                                              go_simp
                                              with_reducible rfl
                                            rotate_left
                                            · simp only [Act.put, List.setIfInBounds_toArray, List.set_cons_zero, List.set_cons_succ, i64_w, i32_w]
                                              rfl
                                            refine pure_ (i := 35) (N := some 117) (v := ?_) (a' := ?_) #[true, true, true, true, true, true, true, true, true, true, true, true, true, true, true, true, true, true, true, true, true, true, true, true, true, true, true, true, true, true, true, true, true, true, true, true, false, false, false, false, false, false, false, false, false, false, false, false, false, false, false] rfl rfl (any_of HT_.out (by kernel_rfl)) (fun _ _ _ h => h) (Or.inl ⟨by rfl, ?_⟩) ?_ ?_
                                            rotate_left
                                            · intro w'
                                              go_simp
                                              with_reducible rfl
                                            rotate_left
                                            · simp only [Act.put, List.setIfInBounds_toArray, List.set_cons_zero, List.set_cons_succ, i64_w, i32_w]
                                              rfl
                                            refine pure_ (i := 36) (N := some 118) (v := ?_) (a' := ?_) #[true, true, true, true, true, true, true, true, true, true, true, true, true, true, true, true, true, true, true, true, true, true, true, true, true, true, true, true, true, true, true, true, true, true, true, true, true, false, false, false, false, false, false, false, false, false, false, false, false, false, false] rfl rfl (any_of HT_.out (by kernel_rfl)) (fun _ _ _ h => h) (Or.inl ⟨by rfl, ?_⟩) ?_ ?_
                                            rotate_left
                                            · intro w'
                                              go_simp
                                              with_reducible rfl
                                            rotate_left
                                            · simp only [Act.put, List.setIfInBounds_toArray, List.set_cons_zero, List.set_cons_succ, i64_w, i32_w]
                                              rfl
                                            refine pure_ (i := 37) (N := some 119) (v := ?_) (a' := ?_) #[true, true, true, true, true, true, true, true, true, true, true, true, true, true, true, true, true, true, true, true, true, true, true, true, true, true, true, true, true, true, true, true, true, true, true, true, true, true, false, false, false, false, false, false, false, false, false, false, false, false, false] rfl rfl (any_of HT_.out (by kernel_rfl)) (fun _ _ _ h => h) (Or.inl ⟨by rfl, ?_⟩) ?_ ?_
                                            rotate_left
                                            · intro w'
                                              go_simp
                                              with_reducible rfl
                                            rotate_left
                                            · simp only [Act.put, List.setIfInBounds_toArray, List.set_cons_zero, List.set_cons_succ, i64_w, i32_w]
                                              rfl
                                            refine pure_ (i := 38) (N := some 120) (v := ?_) (a' := ?_) #[true, true, true, true, true, true, true, true, true, true, true, true, true, true, true, true, true, true, true, true, true, true, true, true, true, true, true, true, true, true, true, true, true, true, true, true, true, true, true, false, false, false, false, false, false, false, false, false, false, false, false] rfl rfl (any_of HT_.out (by kernel_rfl)) (fun _ _ _ h => h) (Or.inl ⟨by rfl, ?_⟩) ?_ ?_
                                            rotate_left
                                            · intro w'
                                              go_simp
                                              with_reducible rfl
                                            rotate_left
                                            · simp only [Act.put, List.setIfInBounds_toArray, List.set_cons_zero, List.set_cons_succ, i64_w, i32_w]
                                              rfl
                                            refine pure_ (i := 39) (N := some 121) (v := ?_) (a' := ?_) #[true, true, true, true, true, true, true, true, true, true, true, true, true, true, true, true, true, true, true, true, true, true, true, true, true, true, true, true, true, true, true, true, true, true, true, true, true, true, true, true, false, false, false, false, false, false, false, false, false, false, false] rfl rfl (any_of HT_.out (by kernel_rfl)) (fun _ _ _ h => h) (Or.inl ⟨by rfl, ?_⟩) ?_ ?_
                                            rotate_left
                                            · intro w'
                                              go_simp
                                              with_reducible rfl
                                            rotate_left
                                            · simp only [Act.put, List.setIfInBounds_toArray, List.set_cons_zero, List.set_cons_succ, i64_w, i32_w]
                                              rfl
                                            refine pure_ (i := 40) (N := some 122) (v := ?_) (a' := ?_) #[true, true, true, true, true, true, true, true, true, true, true, true, true, true, true, true, true, true, true, true, true, true, true, true, true, true, true, true, true, true, true, true, true, true, true, true, true, true, true, true, true, false, false, false, false, false, false, false, false, false, false] rfl rfl (any_of HT_.out (by kernel_rfl)) (fun _ _ _ h => h) (Or.inl ⟨by rfl, ?_⟩) ?_ ?_
                                            rotate_left
                                            · intro w'
                                              go_simp
                                              with_reducible rfl
                                            rotate_left
                                            · simp only [Act.put, List.setIfInBounds_toArray, List.set_cons_zero, List.set_cons_succ, i64_w, i32_w]
                                              rfl
                                            refine pure_ (i := 41) (N := some 123) (v := ?_) (a' := ?_) #[true, true, true, true, true, true, true, true, true, true, true, true, true, true, true, true, true, true, true, true, true, true, true, true, true, true, true, true, true, true, true, true, true, true, true, true, true, true, true, true, true, true, false, false, false, false, false, false, false, false, false] rfl rfl (any_of HT_.out (by kernel_rfl)) (fun _ _ _ h => h) (Or.inl ⟨by rfl, ?_⟩) ?_ ?_
                                            rotate_left
                                            · intro w'
                                              go_simp
                                              with_reducible rfl
                                            rotate_left
                                            · simp only [Act.put, List.setIfInBounds_toArray, List.set_cons_zero, List.set_cons_succ, i64_w, i32_w]
                                              rfl
                                            refine pure_ (i := 42) (N := some 124) (v := ?_) (a' := ?_) #[true, true, true, true, true, true, true, true, true, true, true, true, true, true, true, true, true, true, true, true, true, true, true, true, true, true, true, true, true, true, true, true, true, true, true, true, true, true, true, true, true, true, true, false, false, false, false, false, false, false, false] rfl rfl (any_of HT_.out (by kernel_rfl)) (fun _ _ _ h => h) (Or.inl ⟨by rfl, ?_⟩) ?_ ?_
                                            rotate_left
                                            · intro w'
                                              go_simp
                                              with_reducible rfl
                                            rotate_left
                                            · simp only [Act.put, List.setIfInBounds_toArray, List.set_cons_zero, List.set_cons_succ, i64_w, i32_w]
                                              rfl
                                            refine pure_ (i := 43) (N := some 125) (v := ?_) (a' := ?_) #[true, true, true, true, true, true, true, true, true, true, true, true, true, true, true, true, true, true, true, true, true, true, true, true, true, true, true, true, true, true, true, true, true, true, true, true, true, true, true, true, true, true, true, true, false, false, false, false, false, false, false] rfl rfl (any_of HT_.out (by kernel_rfl)) (fun _ _ _ h => h) (Or.inl ⟨by rfl, ?_⟩) ?_ ?_
                                            rotate_left
                                            · intro w'
                                              go_simp
                                              with_reducible rfl
                                            rotate_left
                                            · simp only [Act.put, List.setIfInBounds_toArray, List.set_cons_zero, List.set_cons_succ, i64_w, i32_w]
                                              rfl
                                            refine pure_ (i := 44) (N := some 126) (v := ?_) (a' := ?_) #[true, true, true, true, true, true, true, true, true, true, true, true, true, true, true, true, true, true, true, true, true, true, true, true, true, true, true, true, true, true, true, true, true, true, true, true, true, true, true, true, true, true, true, true, true, false, false, false, false, false, false] rfl rfl (any_of HT_.out (by kernel_rfl)) (fun _ _ _ h => h) (Or.inl ⟨by rfl, ?_⟩) ?_ ?_
                                            rotate_left
                                            · intro w'
                                              go_simp
                                              with_reducible rfl
                                            rotate_left
                                            · simp only [Act.put, List.setIfInBounds_toArray, List.set_cons_zero, List.set_cons_succ, i64_w, i32_w]
                                              rfl
                                            refine pure_ (i := 45) (N := some 127) (v := ?_) (a' := ?_) #[true, true, true, true, true, true, true, true, true, true, true, true, true, true, true, true, true, true, true, true, true, true, true, true, true, true, true, true, true, true, true, true, true, true, true, true, true, true, true, true, true, true, true, true, true, true, false, false, false, false, false] rfl rfl (any_of HT_.out (by kernel_rfl)) (fun _ _ _ h => h) (Or.inl ⟨by rfl, ?_⟩) ?_ ?_
                                            rotate_left
                                            · intro w'
                                              go_simp
                                              with_reducible rfl
                                            rotate_left
                                            · simp only [Act.put, List.setIfInBounds_toArray, List.set_cons_zero, List.set_cons_succ, i64_w, i32_w]
                                              rfl
                                            refine pure_ (i := 46) (N := some 128) (v := ?_) (a' := ?_) #[true, true, true, true, true, true, true, true, true, true, true, true, true, true, true, true, true, true, true, true, true, true, true, true, true, true, true, true, true, true, true, true, true, true, true, true, true, true, true, true, true, true, true, true, true, true, true, false, false, false, false] rfl rfl (any_of HT_.out (by kernel_rfl)) (fun _ _ _ h => h) (Or.inl ⟨by rfl, ?_⟩) ?_ ?_
                                            rotate_left
                                            · intro w'
                                              go_simp
                                              with_reducible rfl
                                            rotate_left
                                            · simp only [Act.put, List.setIfInBounds_toArray, List.set_cons_zero, List.set_cons_succ, i64_w, i32_w]
                                              rfl
                                            refine pure_ (i := 47) (N := some 129) (v := ?_) (a' := ?_) #[true, true, true, true, true, true, true, true, true, true, true, true, true, true, true, true, true, true, true, true, true, true, true, true, true, true, true, true, true, true, true, true, true, true, true, true, true, true, true, true, true, true, true, true, true, true, true, true, false, false, false] rfl rfl (any_of HT_.out (by kernel_rfl)) (fun _ _ _ h => h) (Or.inl ⟨by rfl, ?_⟩) ?_ ?_
                                            rotate_left
                                            · intro w'
                                              go_simp
                                              with_reducible rfl
                                            rotate_left
                                            · simp only [Act.put, List.setIfInBounds_toArray, List.set_cons_zero, List.set_cons_succ, i64_w, i32_w]
                                              rfl
                                            refine pure_ (i := 48) (N := some 130) (v := ?_) (a' := ?_) #[true, true, true, true, true, true, true, true, true, true, true, true, true, true, true, true, true, true, true, true, true, true, true, true, true, true, true, true, true, true, true, true, true, true, true, true, true, true, true, true, true, true, true, true, true, true, true, true, true, false, false] rfl rfl (any_of HT_.out (by kernel_rfl)) (fun _ _ _ h => h) (Or.inl ⟨by rfl, ?_⟩) ?_ ?_
                                            rotate_left
                                            · intro w'
                                              go_simp
                                              with_reducible rfl
                                            rotate_left
                                            · simp only [Act.put, List.setIfInBounds_toArray, List.set_cons_zero, List.set_cons_succ, i64_w, i32_w]
                                              rfl
                                            refine pure_ (i := 49) (N := some 131) (v := ?_) (a' := ?_) #[true, true, true, true, true, true, true, true, true, true, true, true, true, true, true, true, true, true, true, true, true, true, true, true, true, true, true, true, true, true, true, true, true, true, true, true, true, true, true, true, true, true, true, true, true, true, true, true, true, true, false] rfl rfl (any_of HT_.out (by kernel_rfl)) (fun _ _ _ h => h) (Or.inl ⟨by rfl, ?_⟩) ?_ ?_
                                            rotate_left
                                            · intro w'
                                              go_simp
                                              with_reducible rfl
                                            rotate_left
                                            · simp only [Act.put, List.setIfInBounds_toArray, List.set_cons_zero, List.set_cons_succ, i64_w, i32_w]
                                              rfl
                                            refine pure_ (i := 50) (N := some 4) (v := ?_) (a' := ?_) #[true, true, true, true, true, true, true, true, true, true, true, true, true, true, true, true, true, true, true, true, true, true, true, true, true, true, true, true, true, true, true, true, true, true, true, true, true, true, true, true, true, true, true, true, true, true, true, true, true, true, true] rfl rfl (any_of HT_.out (by kernel_rfl)) (fun _ _ _ h => h) (Or.inl ⟨by rfl, ?_⟩) ?_ ?_
                                            rotate_left
                                            · intro w'
                                              go_simp
                                              with_reducible rfl
                                            rotate_left
                                            · simp only [Act.put, List.setIfInBounds_toArray, List.set_cons_zero, List.set_cons_succ, i64_w, i32_w]
                                              rfl
                                            refine done_ (done_of HT_.out (by kernel_rfl)) ?_
                                            try go_wp2
                                            go_ret
                                            exact ⟨by first | rfl | (simp [errW_none, errW_some] <;> rfl) | (simp [*, errW_none, errW_some] <;> rfl), by repeat (first | (with_reducible first | exact HB.out | apply below_alloc | apply pw_below_drewN | apply below_drew1 | refine below_set ?_ GE106.out) | exact HB.out)⟩
                                          · rw [if_neg c67] at H
                                            have c67b0 : ((t127.extract 0 ((x12_23.size : Int) : Int).toNat).toList == x12_23.toList) = false := beq_eq_false_iff_ne.mpr c67
                                            have c67b1 : ((t127.extract 0 ((x12_23.size : Int) : Int).toNat).toList != x12_23.toList) = true := bne_iff_ne.mpr c67
                                            exact absurd ((Option.some.inj H).trans hr_.out) (by decide)
                                        · rw [if_neg c66] at H
                                          exact absurd H (by simp)
                                      · rw [if_neg c65] at H
                                        exact absurd H (by simp)
                                    · rw [if_neg c64] at H
                                      have c64b0 : ((t116.extract 0 ((x11_23.size : Int) : Int).toNat).toList == x11_23.toList) = false := beq_eq_false_iff_ne.mpr c64
                                      have c64b1 : ((t116.extract 0 ((x11_23.size : Int) : Int).toNat).toList != x11_23.toList) = true := bne_iff_ne.mpr c64
                                      exact absurd ((Option.some.inj H).trans hr_.out) (by decide)
                                  · rw [if_neg c63] at H
                                    exact absurd H (by simp)
                                · rw [if_neg c62] at H
                                  exact absurd H (by simp)
                              · rw [if_neg c61] at H
                                have c61b0 : decide ((x12_23.size : Int) ≤ (t127.size : Int)) = false := decide_eq_false c61
                                have c61b1 : decide (x12_23.size ≤ t127.size) = false := decide_eq_false (fun h => c61 (Int.ofNat_le.mpr h))
                                clear c61
                                exact absurd ((Option.some.inj H).trans hr_.out) (by decide)
                            · rw [if_neg c60] at H
                              have c60b0 : decide ((x11_23.size : Int) ≤ (t116.size : Int)) = false := decide_eq_false c60
                              have c60b1 : decide (x11_23.size ≤ t116.size) = false := decide_eq_false (fun h => c60 (Int.ofNat_le.mpr h))
                              clear c60
                              exact absurd ((Option.some.inj H).trans hr_.out) (by decide)
                          · replace c59 := Bool.eq_false_iff.mpr c59
                            subst c59
                            have H1 : (some false) = some r := by rw [if_neg (show ¬ (false = true) by decide)] at H; exact H
                            clear H
                            have H := H1
                            clear H1
                            exact absurd ((Option.some.inj H).trans hr_.out) (by decide)
                        · replace c57 := Bool.eq_false_iff.mpr c57
                          subst c57
                          have H1 : (some false) = some r := by rw [if_neg (show ¬ (false = true) by decide)] at H; exact H
                          clear H
                          have H := H1
                          clear H1
                          exact absurd ((Option.some.inj H).trans hr_.out) (by decide)
                      · replace c56 := Bool.eq_false_iff.mpr c56
                        subst c56
                        have H1 : (some false) = some r := by rw [if_neg (show ¬ (false = true) by decide)] at H; exact H
                        clear H
                        have H := H1
                        clear H1
                        exact absurd ((Option.some.inj H).trans hr_.out) (by decide)
                · rw [if_neg c23] at H
                  exact absurd H (by simp)
              · rw [if_neg c22] at H
                exact absurd H (by simp)

end Go.Proofs.Ytmiggjncmeomlaa.QS
