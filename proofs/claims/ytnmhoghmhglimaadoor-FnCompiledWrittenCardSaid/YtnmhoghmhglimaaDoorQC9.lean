-- WRITTEN BY A PROGRAM OF THIS SESSION (wip/print2.py): the print, with contracts of this session's own let in. Not trusted: Lean checks it.
import Derived.Test.YtnmhoghmhglimaaDoorHRow
import Derived.Test.YtnmhoghmhglimaaDoorQC0
import Derived.Test.YtnmhoghmhglimaaDoorQC1
import Derived.Test.YtnmhoghmhglimaaDoorQC5
import Derived.Test.YtnmhoghmhglimaaDoorQC7
import Derived.Test.YtnmhoghmhglimaaDoorQC8
import Derived.Test.YtnmhoghmhglimaaDoorHCompI
namespace Go.Proofs.YtnmhoghmhglimaaDoor.QC
open Go.RowKit Go.Proofs.YtnmhoghmhglimaaDoorW.PrintWords Go.Proofs.YtnmhoghmhglimaaDoorW.PrintLast Go.Proofs.YtnmhoghmhglimaaDoorW.PrintMore
attribute [local go_sem] max2_int min2_int max_two min_two max_three min_three max_four min_four   -- for this text's walks alone
set_option linter.unusedVariables false
set_option linter.unusedSimpArgs false

open Go.Proofs.YtnmhoghmhglimaaDoor.H
/-! ### laws_FnCompiledWritten: function 8 -/
mutual
def laws_FnCompiledWritten.j0 : Nat → List ByteArray → List ByteArray → Int → Bool → Option (Bool)
  | 0, _, _, _, _ => none
  | k + 1, x0, x1, x2, x20 => if x20 = true then (some true) else (if (x0.length : Int) = (x1.length : Int) then (laws_FnCompiledWritten.j1 k x0 x1 x2 (decide ((x1.length : Int) > 20))) else (laws_FnCompiledWritten.j1 k x0 x1 x2 true))
def laws_FnCompiledWritten.j1 : Nat → List ByteArray → List ByteArray → Int → Bool → Option (Bool)
  | 0, _, _, _, _ => none
  | k + 1, x0, x1, x2, x30 => if x30 = true then (some true) else (laws_FnCompiledWritten.l0 k x0 x1 x2 (⟨#[]⟩ : ByteArray) (⟨#[]⟩ : ByteArray) 0)
def laws_FnCompiledWritten.l0 : Nat → List ByteArray → List ByteArray → Int → ByteArray → ByteArray → Int → Option (Bool)
  | 0, _, _, _, _, _, _ => none
  | k + 1, x0, x1, x2, x7, x8, x9 => if x9 < (x1.length : Int) then (if 0 ≤ x9 then ((spec_IsName.f k (rdOf ByteArray.empty x1 x9)).bind fun t188 => (if t188 = true then (if x9 < (x0.length : Int) then ((spec_IsGap.f k (rdOf ByteArray.empty x0 x9)).bind fun t190 => (if t190 = true then (if ((rdOf ByteArray.empty x1 x9).size : Int) > 50 then (laws_FnCompiledWritten.j3 k x0 x1 x2 x7 x8 x9 true) else (laws_FnCompiledWritten.j3 k x0 x1 x2 x7 x8 x9 (decide (((rdOf ByteArray.empty x0 x9).size : Int) > 50)))) else (laws_FnCompiledWritten.j3 k x0 x1 x2 x7 x8 x9 true))) else (none)) else (laws_FnCompiledWritten.j3 k x0 x1 x2 x7 x8 x9 true))) else (none)) else ((laws_kind9.f x2).bind fun t180 => ((impl_Compiled.f t180 x7).bind fun bt181 => (if bt181.2.2 = true then (if bt181.1.toList = x8.toList then ((laws_sameTexts9.f k bt181.2.1 x1).bind fun t186 => (some t186)) else (some false)) else (some false))))
def laws_FnCompiledWritten.j3 : Nat → List ByteArray → List ByteArray → Int → ByteArray → ByteArray → Int → Bool → Option (Bool)
  | 0, _, _, _, _, _, _, _ => none
  | k + 1, x0, x1, x2, x7, x8, x9, x66 => if x66 = true then (some true) else (if 0 ≤ x9 then (if x9 < (x1.length : Int) then (if 1 + (rdOf ByteArray.empty x1 x9).size ≤ 9223372036854775807 then (if x9 < (x0.length : Int) then (if ((⟨#[58]⟩ : ByteArray) ++ (rdOf ByteArray.empty x1 x9)).size + (rdOf ByteArray.empty x0 x9).size ≤ 9223372036854775807 then (if x7.size + (((⟨#[58]⟩ : ByteArray) ++ (rdOf ByteArray.empty x1 x9)) ++ (rdOf ByteArray.empty x0 x9)).size ≤ 9223372036854775807 then ((laws_kind9.f x2).bind fun t195 => ((spec_Mark.f k t195 (wrap64 (x9 + 1)) (rdOf ByteArray.empty x1 x9)).bind fun t197 => (if t197.size + (rdOf ByteArray.empty x0 x9).size ≤ 9223372036854775807 then (if x8.size + (t197 ++ (rdOf ByteArray.empty x0 x9)).size ≤ 9223372036854775807 then (laws_FnCompiledWritten.l0 k x0 x1 x2 (x7 ++ (((⟨#[58]⟩ : ByteArray) ++ (rdOf ByteArray.empty x1 x9)) ++ (rdOf ByteArray.empty x0 x9))) (x8 ++ (t197 ++ (rdOf ByteArray.empty x0 x9))) (wrap64 (x9 + 1))) else (none)) else (none)))) else (none)) else (none)) else (none)) else (none)) else (none)) else (none))
end
def laws_FnCompiledWritten.f (k : Nat) (l0 : List ByteArray) (l1 : List ByteArray) (a2 : Int) : Option (Bool) := (laws_zzFits1.f k l0).bind fun t178 => (if t178 = true then ((laws_zzFits1.f k l1).bind fun t179 => (laws_FnCompiledWritten.j0 k l0 l1 a2 (!t179))) else (laws_FnCompiledWritten.j0 k l0 l1 a2 true))
theorem laws_FnCompiledWritten.mono_l : ∀ k, (∀ y0 y1 y2 y3, LeO (laws_FnCompiledWritten.j0 k y0 y1 y2 y3) (laws_FnCompiledWritten.j0 (k + 1) y0 y1 y2 y3)) ∧ (∀ y0 y1 y2 y3, LeO (laws_FnCompiledWritten.j1 k y0 y1 y2 y3) (laws_FnCompiledWritten.j1 (k + 1) y0 y1 y2 y3)) ∧ (∀ y0 y1 y2 y3 y4 y5, LeO (laws_FnCompiledWritten.l0 k y0 y1 y2 y3 y4 y5) (laws_FnCompiledWritten.l0 (k + 1) y0 y1 y2 y3 y4 y5)) ∧ (∀ y0 y1 y2 y3 y4 y5 y6, LeO (laws_FnCompiledWritten.j3 k y0 y1 y2 y3 y4 y5 y6) (laws_FnCompiledWritten.j3 (k + 1) y0 y1 y2 y3 y4 y5 y6))
  | 0 => ⟨fun _ _ _ _ r h => by simp [laws_FnCompiledWritten.j0] at h, fun _ _ _ _ r h => by simp [laws_FnCompiledWritten.j1] at h, fun _ _ _ _ _ _ r h => by simp [laws_FnCompiledWritten.l0] at h, fun _ _ _ _ _ _ _ r h => by simp [laws_FnCompiledWritten.j3] at h⟩
  | k + 1 => by
    obtain ⟨ih0, ih1, ih2, ih3⟩ := laws_FnCompiledWritten.mono_l k
    refine ⟨?_, ?_, ?_, ?_⟩
    · intro y0 y1 y2 y3
      unfold laws_FnCompiledWritten.j0
      repeat' first
      | (with_reducible exact ih0 _ _ _ _)
      | (with_reducible exact ih1 _ _ _ _)
      | (with_reducible exact ih2 _ _ _ _ _ _)
      | (with_reducible exact ih3 _ _ _ _ _ _ _)
      | (with_reducible exact laws_sameTexts9.mono _ _ _)
      | (with_reducible exact laws_zzFits1.mono _ _)
      | (with_reducible exact spec_IsGap.mono _ _)
      | (with_reducible exact spec_IsName.mono _ _)
      | (with_reducible exact spec_Mark.mono _ _ _ _)
      | (with_reducible exact LeO.refl _)
      | (with_reducible exact LeO.none _)
      | (with_reducible refine LeO.ite ?_ ?_)
      | (with_reducible refine LeO.bind ?_ (fun _ => ?_))
      | exact ih0 _ _ _ _
      | exact ih1 _ _ _ _
      | exact ih2 _ _ _ _ _ _
      | exact ih3 _ _ _ _ _ _ _
      | exact laws_sameTexts9.mono _ _ _
      | exact laws_zzFits1.mono _ _
      | exact spec_IsGap.mono _ _
      | exact spec_IsName.mono _ _
      | exact spec_Mark.mono _ _ _ _
      | exact LeO.none _
      | refine LeO.ite ?_ ?_
      | refine LeO.bind ?_ (fun _ => ?_)
    · intro y0 y1 y2 y3
      unfold laws_FnCompiledWritten.j1
      repeat' first
      | (with_reducible exact ih0 _ _ _ _)
      | (with_reducible exact ih1 _ _ _ _)
      | (with_reducible exact ih2 _ _ _ _ _ _)
      | (with_reducible exact ih3 _ _ _ _ _ _ _)
      | (with_reducible exact laws_sameTexts9.mono _ _ _)
      | (with_reducible exact laws_zzFits1.mono _ _)
      | (with_reducible exact spec_IsGap.mono _ _)
      | (with_reducible exact spec_IsName.mono _ _)
      | (with_reducible exact spec_Mark.mono _ _ _ _)
      | (with_reducible exact LeO.refl _)
      | (with_reducible exact LeO.none _)
      | (with_reducible refine LeO.ite ?_ ?_)
      | (with_reducible refine LeO.bind ?_ (fun _ => ?_))
      | exact ih0 _ _ _ _
      | exact ih1 _ _ _ _
      | exact ih2 _ _ _ _ _ _
      | exact ih3 _ _ _ _ _ _ _
      | exact laws_sameTexts9.mono _ _ _
      | exact laws_zzFits1.mono _ _
      | exact spec_IsGap.mono _ _
      | exact spec_IsName.mono _ _
      | exact spec_Mark.mono _ _ _ _
      | exact LeO.none _
      | refine LeO.ite ?_ ?_
      | refine LeO.bind ?_ (fun _ => ?_)
    · intro y0 y1 y2 y3 y4 y5
      unfold laws_FnCompiledWritten.l0
      repeat' first
      | (with_reducible exact ih0 _ _ _ _)
      | (with_reducible exact ih1 _ _ _ _)
      | (with_reducible exact ih2 _ _ _ _ _ _)
      | (with_reducible exact ih3 _ _ _ _ _ _ _)
      | (with_reducible exact laws_sameTexts9.mono _ _ _)
      | (with_reducible exact laws_zzFits1.mono _ _)
      | (with_reducible exact spec_IsGap.mono _ _)
      | (with_reducible exact spec_IsName.mono _ _)
      | (with_reducible exact spec_Mark.mono _ _ _ _)
      | (with_reducible exact LeO.refl _)
      | (with_reducible exact LeO.none _)
      | (with_reducible refine LeO.ite ?_ ?_)
      | (with_reducible refine LeO.bind ?_ (fun _ => ?_))
      | exact ih0 _ _ _ _
      | exact ih1 _ _ _ _
      | exact ih2 _ _ _ _ _ _
      | exact ih3 _ _ _ _ _ _ _
      | exact laws_sameTexts9.mono _ _ _
      | exact laws_zzFits1.mono _ _
      | exact spec_IsGap.mono _ _
      | exact spec_IsName.mono _ _
      | exact spec_Mark.mono _ _ _ _
      | exact LeO.none _
      | refine LeO.ite ?_ ?_
      | refine LeO.bind ?_ (fun _ => ?_)
    · intro y0 y1 y2 y3 y4 y5 y6
      unfold laws_FnCompiledWritten.j3
      repeat' first
      | (with_reducible exact ih0 _ _ _ _)
      | (with_reducible exact ih1 _ _ _ _)
      | (with_reducible exact ih2 _ _ _ _ _ _)
      | (with_reducible exact ih3 _ _ _ _ _ _ _)
      | (with_reducible exact laws_sameTexts9.mono _ _ _)
      | (with_reducible exact laws_zzFits1.mono _ _)
      | (with_reducible exact spec_IsGap.mono _ _)
      | (with_reducible exact spec_IsName.mono _ _)
      | (with_reducible exact spec_Mark.mono _ _ _ _)
      | (with_reducible exact LeO.refl _)
      | (with_reducible exact LeO.none _)
      | (with_reducible refine LeO.ite ?_ ?_)
      | (with_reducible refine LeO.bind ?_ (fun _ => ?_))
      | exact ih0 _ _ _ _
      | exact ih1 _ _ _ _
      | exact ih2 _ _ _ _ _ _
      | exact ih3 _ _ _ _ _ _ _
      | exact laws_sameTexts9.mono _ _ _
      | exact laws_zzFits1.mono _ _
      | exact spec_IsGap.mono _ _
      | exact spec_IsName.mono _ _
      | exact spec_Mark.mono _ _ _ _
      | exact LeO.none _
      | refine LeO.ite ?_ ?_
      | refine LeO.bind ?_ (fun _ => ?_)
theorem laws_FnCompiledWritten.mono : ∀ a0 a1 a2 k, LeO (laws_FnCompiledWritten.f k a0 a1 a2) (laws_FnCompiledWritten.f (k + 1) a0 a1 a2) := by
  intro a0 a1 a2 k
  obtain ⟨ih0, ih1, ih2, ih3⟩ := laws_FnCompiledWritten.mono_l k
  unfold laws_FnCompiledWritten.f
  repeat' first
      | (with_reducible exact ih0 _ _ _ _)
      | (with_reducible exact ih1 _ _ _ _)
      | (with_reducible exact ih2 _ _ _ _ _ _)
      | (with_reducible exact ih3 _ _ _ _ _ _ _)
      | (with_reducible exact laws_sameTexts9.mono _ _ _)
      | (with_reducible exact laws_zzFits1.mono _ _)
      | (with_reducible exact spec_IsGap.mono _ _)
      | (with_reducible exact spec_IsName.mono _ _)
      | (with_reducible exact spec_Mark.mono _ _ _ _)
      | (with_reducible exact LeO.refl _)
      | (with_reducible exact LeO.none _)
      | (with_reducible refine LeO.ite ?_ ?_)
      | (with_reducible refine LeO.bind ?_ (fun _ => ?_))
      | exact ih0 _ _ _ _
      | exact ih1 _ _ _ _
      | exact ih2 _ _ _ _ _ _
      | exact ih3 _ _ _ _ _ _ _
      | exact laws_sameTexts9.mono _ _ _
      | exact laws_zzFits1.mono _ _
      | exact spec_IsGap.mono _ _
      | exact spec_IsName.mono _ _
      | exact spec_Mark.mono _ _ _ _
      | exact LeO.none _
      | refine LeO.ite ?_ ?_
      | refine LeO.bind ?_ (fun _ => ?_)
def laws_FnCompiledWritten.T11 : Bool × List (List Nat × List Nat) := (true, [([], []), ([], []), ([], []), ([1, 2], [1, 2]), ([3], [3]), ([4], [4]), ([], []), ([], []), ([6, 7], [6, 7]), ([8], [8]), ([5, 9], [5, 9]), ([0, 10], [0, 10]), ([11, 0, 1, 2, 3, 4, 5, 6, 7, 8, 9, 10, 11], [0, 11])])
def laws_FnCompiledWritten.B11 : List Nat := [0, 0, 0, 6, 14, 30, 0, 0, 192, 448, 1022, 2047, 4095]
theorem laws_FnCompiledWritten.tab11 : rtab .any (opsOf Tryd.f8 11) = laws_FnCompiledWritten.T11 := by kernel_rfl
theorem laws_FnCompiledWritten.bits11 : waitsOk laws_FnCompiledWritten.T11.2 laws_FnCompiledWritten.B11 = true := by kernel_rfl
def laws_FnCompiledWritten.T12 : Bool × List (List Nat × List Nat) := (true, [([], []), ([], []), ([1], [1]), ([], []), ([3], [3]), ([], []), ([], []), ([5, 6], [5, 6]), ([7], [7]), ([2, 4, 8, 2], [2, 4, 8]), ([], []), ([], []), ([10, 11], [10, 11]), ([12], [12]), ([9, 13], [9, 13]), ([0, 14], [0, 14]), ([15, 9, 0, 1, 2, 3, 4, 5, 6, 7, 8, 9, 10, 11, 12, 13, 14, 15], [0, 15])])
def laws_FnCompiledWritten.B12 : List Nat := [0, 0, 2, 0, 8, 0, 0, 96, 224, 510, 0, 0, 3072, 7168, 16382, 32767, 65535]
theorem laws_FnCompiledWritten.tab12 : rtab .any (opsOf Tryd.f8 12) = laws_FnCompiledWritten.T12 := by kernel_rfl
theorem laws_FnCompiledWritten.bits12 : waitsOk laws_FnCompiledWritten.T12.2 laws_FnCompiledWritten.B12 = true := by kernel_rfl
set_option maxHeartbeats 8000000 in
set_option maxRecDepth 100000 in
theorem laws_FnCompiledWritten.calls (k : Nat) (A0 : Option Addr) (c0 : Nat) (l0 : List ByteArray) (A1 : Option Addr) (c1 : Nat) (l1 : List ByteArray) (a2 : Int) (r : Bool) (w : World) (ht_ : Tab w) (hr0 : Kd.C Kd.string w A0 l0.length l0) (hc0 : l0.length ≤ c0) (hr1 : Kd.C Kd.string w A1 l1.length l1) (hc1 : l1.length ≤ c1) (h : laws_FnCompiledWritten.f k l0 l1 a2 = some r) :
    Calls Tryd.prog 8 #[.slice A0 l0.length c0, .slice A1 l1.length c1, .int .u8 a2] w fun e w' => e = .returned (.bool r) ∧ Below w.heap.size w w' := by
  have HR0 := Aside0.mk hr0
  have HC0 := Aside0.mk hc0
  clear hr0 hc0
  have HR1 := Aside0.mk hr1
  have HC1 := Aside0.mk hc1
  clear hr1 hc1
  have HB := Aside0.mk (Below.refl w.heap.size w)
  have HT_ := Aside0.mk (tab_below ht_)
  clear ht_
  have H : ((laws_zzFits1.f k l0).bind fun t178 => (if t178 = true then ((laws_zzFits1.f k l1).bind fun t179 => (laws_FnCompiledWritten.j0 k l0 l1 a2 (!t179))) else (laws_FnCompiledWritten.j0 k l0 l1 a2 true))) = some r := h
  clear h
  have HC4 := Aside0.mk H
  clear H
  go_enter Tryd.func8, Tryd.ntmps8
  go_upto_region 1 with (fail)
  go_cut [20] (fun v20 wc => ∃ (kq : Nat) (x20_3 : Bool), v20 = .bool x20_3 ∧ Aside0 (laws_FnCompiledWritten.j0 kq l0 l1 a2 x20_3 = some r) ∧ Aside0 (kq ≤ k) ∧ Aside0 (Below w.heap.size w wc))
  case first =>
    have H := HC4.out
    clear HC4
    replace H := Option.bind_eq_some_iff.mp H
    obtain ⟨t178, A50, H⟩ := H
    replace H : (if t178 = true then ((laws_zzFits1.f k l1).bind fun t179 => (laws_FnCompiledWritten.j0 k l0 l1 a2 (!t179))) else (laws_FnCompiledWritten.j0 k l0 l1 a2 true)) = some r := H
    have A5 := Aside0.mk A50
    clear A50
    by_cases c6 : t178 = true
    · subst c6
      have H1 : ((laws_zzFits1.f k l1).bind fun t179 => (laws_FnCompiledWritten.j0 k l0 l1 a2 (!t179))) = some r := by rw [if_pos rfl] at H; exact H
      clear H
      have H := H1
      clear H1
      replace H := Option.bind_eq_some_iff.mp H
      obtain ⟨t179, A70, H⟩ := H
      replace H : (laws_FnCompiledWritten.j0 k l0 l1 a2 (!t179)) = some r := H
      have A7 := Aside0.mk A70
      clear A70
      have H' := Aside0.mk H
      clear H
      go_wp2_with (first | ((with_reducible refine gate_callee (f := 29) rfl ?_); refine goesL_ (some 14) rfl rfl Tryd.func29 (by kernel_rfl) rfl #[.slice A0 l0.length c0] rfl (by (try simp only [List.map_toArray, List.map_cons, List.map_nil]); first | done | rfl | (simp only [List.length_drop, List.length_take]; rfl)) ?_; (with_reducible refine (laws_zzFits1.calls k _ _ l0 true _ ?side1 ?side2 A5.out).mono ?_); (case side1 => repeat (first | exact (Kd.C_below HR0.out HB.out) | (with_reducible refine Kd.C_alloc ?_ _) | (with_reducible refine Kd.C_drewN ?_ _) | (with_reducible refine Kd.C_drew ?_))); (case side2 => exact HC0.out); rintro e w' ⟨rfl, ⟨nd, rfl⟩⟩; refine ⟨_, rfl, ?_⟩) | (go_at_call 29; (with_reducible refine (laws_zzFits1.calls k _ _ l1 t179 _ ?side1 ?side2 A7.out).mono ?_); (case side1 => repeat (first | exact (Kd.C_below HR1.out (by repeat (first | (with_reducible first | exact HB.out | apply below_alloc | apply pw_below_drewN | apply below_drew1) | exact HB.out))) | (with_reducible refine Kd.C_alloc ?_ _) | (with_reducible refine Kd.C_drewN ?_ _) | (with_reducible refine Kd.C_drew ?_))); (case side2 => exact HC1.out); rintro e w' ⟨rfl, ⟨nd, rfl⟩⟩))
      go_meet
      case rel => exact ⟨_, (!t179), (by first | rfl | (simp; done) | (simp [*]; done)), H', ⟨by first | omega | exact Nat.le_refl _⟩, ⟨by repeat (first | (with_reducible first | exact HB.out | apply below_alloc | apply pw_below_drewN | apply below_drew1) | exact HB.out)⟩⟩
    · replace c6 := Bool.eq_false_iff.mpr c6
      subst c6
      have H1 : (laws_FnCompiledWritten.j0 k l0 l1 a2 true) = some r := by rw [if_neg (show ¬ (false = true) by decide)] at H; exact H
      clear H
      have H := H1
      clear H1
      have H' := Aside0.mk H
      clear H
      go_wp2_with (first | ((with_reducible refine gate_callee (f := 29) rfl ?_); refine goesL_ (some 14) rfl rfl Tryd.func29 (by kernel_rfl) rfl #[.slice A0 l0.length c0] rfl (by (try simp only [List.map_toArray, List.map_cons, List.map_nil]); first | done | rfl | (simp only [List.length_drop, List.length_take]; rfl)) ?_; (with_reducible refine (laws_zzFits1.calls k _ _ l0 false _ ?side1 ?side2 A5.out).mono ?_); (case side1 => repeat (first | exact (Kd.C_below HR0.out HB.out) | (with_reducible refine Kd.C_alloc ?_ _) | (with_reducible refine Kd.C_drewN ?_ _) | (with_reducible refine Kd.C_drew ?_))); (case side2 => exact HC0.out); rintro e w' ⟨rfl, ⟨nd, rfl⟩⟩; refine ⟨_, rfl, ?_⟩))
      go_meet
      case rel => exact ⟨_, (true), (by first | rfl | (simp; done) | (simp [*]; done)), H', ⟨by first | omega | exact Nat.le_refl _⟩, ⟨by repeat (first | (with_reducible first | exact HB.out | apply below_alloc | apply pw_below_drewN | apply below_drew1) | exact HB.out)⟩⟩
  case rest =>
    clear HC4
    try clear c1
    try clear c2
    try clear p2
    try clear c6
    obtain ⟨kq, x20_3, rfl, HA, HJ3, HB⟩ := hcut
    cases kq with
    | zero => exact absurd HA.out (by simp [laws_FnCompiledWritten.j0])
    | succ kj3 =>
      have H := HA.out
      clear HA
      simp only [laws_FnCompiledWritten.j0] at H
      by_cases c8 : x20_3 = true
      · subst c8
        have H1 : (some true) = some r := by rw [if_pos rfl] at H; exact H
        clear H
        have H := H1
        clear H1
        obtain rfl := Option.some.inj H
        go_wp2
        go_ret
        exact ⟨by first | rfl | (simp [errW_none, errW_some] <;> rfl) | (simp [*, errW_none, errW_some] <;> rfl), by repeat (first | (with_reducible first | exact HB.out | apply below_alloc | apply pw_below_drewN | apply below_drew1) | exact HB.out)⟩
      · replace c8 := Bool.eq_false_iff.mpr c8
        subst c8
        have H1 : (if (l0.length : Int) = (l1.length : Int) then (laws_FnCompiledWritten.j1 kj3 l0 l1 a2 (decide ((l1.length : Int) > 20))) else (laws_FnCompiledWritten.j1 kj3 l0 l1 a2 true)) = some r := by rw [if_neg (show ¬ (false = true) by decide)] at H; exact H
        clear H
        have H := H1
        clear H1
        have HC9 := Aside0.mk H
        clear H
        go_upto_region 3 with (fail)
        go_cut [30] (fun v30 wc => ∃ (kq : Nat) (x30_8 : Bool), v30 = .bool x30_8 ∧ Aside0 (laws_FnCompiledWritten.j1 kq l0 l1 a2 x30_8 = some r) ∧ Aside0 (kq ≤ kj3) ∧ Aside0 (Below w.heap.size w wc))
        case first =>
          have H := HC9.out
          clear HC9
          by_cases c10 : (l0.length : Int) = (l1.length : Int)
          · rw [if_pos c10] at H
            have c10b0 : ((l0.length : Int) == (l1.length : Int)) = true := beq_iff_eq.mpr c10
            have c10b1 : ((l0.length : Int) != (l1.length : Int)) = false := bne_eq_false_iff_eq.mpr c10
            have c10b2 : (l0.length == l1.length) = true := by first | simpa using c10 | (simp at c10 ⊢; omega)
            clear c10
            (first | rw [c10b0] | (simp only [i64_w, i32_w]; rw [c10b0]) | skip)
            have H' := Aside0.mk H
            clear H
            go_wp2
            go_meet
            case rel => exact ⟨_, (decide ((l1.length : Int) > 20)), (by first | rfl | (simp; done) | (simp [*]; done)), H', ⟨by have := HJ3.out; first | omega | exact Nat.le_refl _⟩, ⟨by repeat (first | (with_reducible first | exact HB.out | apply below_alloc | apply pw_below_drewN | apply below_drew1) | exact HB.out)⟩⟩
          · rw [if_neg c10] at H
            have c10b0 : ((l0.length : Int) == (l1.length : Int)) = false := beq_eq_false_iff_ne.mpr c10
            have c10b1 : ((l0.length : Int) != (l1.length : Int)) = true := bne_iff_ne.mpr c10
            have c10b2 : (l0.length == l1.length) = false := by first | simpa using c10 | (simp at c10 ⊢; omega)
            (first | rw [c10b0] | (simp only [i64_w, i32_w]; rw [c10b0]) | skip)
            have H' := Aside0.mk H
            clear H
            go_wp2
            go_meet
            case rel => exact ⟨_, (true), (by first | rfl | (simp; done) | (simp [*]; done)), H', ⟨by have := HJ3.out; first | omega | exact Nat.le_refl _⟩, ⟨by repeat (first | (with_reducible first | exact HB.out | apply below_alloc | apply pw_below_drewN | apply below_drew1) | exact HB.out)⟩⟩
        case rest =>
          clear HC9
          try clear c1
          try clear c2
          try clear p2
          try clear c6
          try clear c8
          try clear c10
          try clear c10b0
          try clear c10b1
          try clear c10b2
          try clear p2
          obtain ⟨kq, x30_8, rfl, HA, HJ8, HB⟩ := hcut
          cases kq with
          | zero => exact absurd HA.out (by simp [laws_FnCompiledWritten.j1])
          | succ kj8 =>
            have H := HA.out
            clear HA
            simp only [laws_FnCompiledWritten.j1] at H
            by_cases c11 : x30_8 = true
            · subst c11
              have H1 : (some true) = some r := by rw [if_pos rfl] at H; exact H
              clear H
              have H := H1
              clear H1
              obtain rfl := Option.some.inj H
              go_wp2
              go_ret
              exact ⟨by first | rfl | (simp [errW_none, errW_some] <;> rfl) | (simp [*, errW_none, errW_some] <;> rfl), by repeat (first | (with_reducible first | exact HB.out | apply below_alloc | apply pw_below_drewN | apply below_drew1) | exact HB.out)⟩
            · replace c11 := Bool.eq_false_iff.mpr c11
              subst c11
              have H1 : (laws_FnCompiledWritten.l0 kj8 l0 l1 a2 (⟨#[]⟩ : ByteArray) (⟨#[]⟩ : ByteArray) 0) = some r := by rw [if_neg (show ¬ (false = true) by decide)] at H; exact H
              clear H
              have H := H1
              clear H1
              have H' := Aside0.mk H
              clear H
              go_wp2
              go_loopg [7, 8, 9] kj8 (fun kq v7 v8 v9 w' => ∃ (x7_3 : ByteArray) (x8_3 : ByteArray) (x9_3 : Int), v7 = .string x7_3 ∧ v8 = .string x8_3 ∧ v9 = .int .i64 x9_3 ∧ Aside0 (laws_FnCompiledWritten.l0 kq l0 l1 a2 x7_3 x8_3 x9_3 = some r) ∧ Aside0 (kq ≤ kj8) ∧ Aside0 (Below w.heap.size w w'))
              case atStart => exact ⟨((⟨#[]⟩ : ByteArray)), ((⟨#[]⟩ : ByteArray)), (0), (by first | rfl | (simp; done) | (simp [*]; done)), (by first | rfl | (simp; done) | (simp [*]; done)), (by first | rfl | (simp; done) | (simp [*]; done)), H', ⟨Nat.le_refl _⟩, ⟨by repeat (first | (with_reducible first | exact HB.out | apply below_alloc | apply pw_below_drewN | apply below_drew1) | exact HB.out)⟩⟩
              case round =>
                clear H'
                try clear c1
                try clear c2
                try clear p2
                try clear c6
                try clear c8
                try clear c10
                try clear c10b0
                try clear c10b1
                try clear c10b2
                try clear c11
                try clear p2
                obtain ⟨x7_3, x8_3, x9_3, rfl, rfl, rfl, HA, HK3, HB⟩ := hrel
                cases gk with
                | zero => exact absurd HA.out (by simp [laws_FnCompiledWritten.l0])
                | succ k3 =>
                  have H := HA.out
                  clear HA
                  simp only [laws_FnCompiledWritten.l0] at H
                  by_cases c12 : x9_3 < (l1.length : Int)
                  · rw [if_pos c12] at H
                    have c12b0 : decide (x9_3 < (l1.length : Int)) = true := decide_eq_true c12
                    clear c12
                    have HC13 := Aside0.mk H
                    clear H
                    go_upto_region 9 with (fail)
                    go_cut [66] (fun v66 wc => ∃ (kq : Nat) (x66_12 : Bool), v66 = .bool x66_12 ∧ Aside0 (laws_FnCompiledWritten.j3 kq l0 l1 a2 x7_3 x8_3 x9_3 x66_12 = some r) ∧ Aside0 (kq ≤ k3) ∧ Aside0 (Below w.heap.size w wc))
                    case first =>
                      have H := HC13.out
                      clear HC13
                      by_cases c14 : 0 ≤ x9_3
                      · rw [if_pos c14] at H
                        have c14b0 : decide (0 ≤ x9_3) = true := decide_eq_true c14
                        clear c14
                        (first | rw [c14b0] | (simp only [i64_w, i32_w]; rw [c14b0]) | skip)
                        replace H := Option.bind_eq_some_iff.mp H
                        obtain ⟨t188, A150, H⟩ := H
                        replace H : (if t188 = true then (if x9_3 < (l0.length : Int) then ((spec_IsGap.f k3 (rdOf ByteArray.empty l0 x9_3)).bind fun t190 => (if t190 = true then (if ((rdOf ByteArray.empty l1 x9_3).size : Int) > 50 then (laws_FnCompiledWritten.j3 k3 l0 l1 a2 x7_3 x8_3 x9_3 true) else (laws_FnCompiledWritten.j3 k3 l0 l1 a2 x7_3 x8_3 x9_3 (decide (((rdOf ByteArray.empty l0 x9_3).size : Int) > 50)))) else (laws_FnCompiledWritten.j3 k3 l0 l1 a2 x7_3 x8_3 x9_3 true))) else (none)) else (laws_FnCompiledWritten.j3 k3 l0 l1 a2 x7_3 x8_3 x9_3 true)) = some r := H
                        have A15 := Aside0.mk A150
                        clear A150
                        by_cases c16 : t188 = true
                        · subst c16
                          have H1 : (if x9_3 < (l0.length : Int) then ((spec_IsGap.f k3 (rdOf ByteArray.empty l0 x9_3)).bind fun t190 => (if t190 = true then (if ((rdOf ByteArray.empty l1 x9_3).size : Int) > 50 then (laws_FnCompiledWritten.j3 k3 l0 l1 a2 x7_3 x8_3 x9_3 true) else (laws_FnCompiledWritten.j3 k3 l0 l1 a2 x7_3 x8_3 x9_3 (decide (((rdOf ByteArray.empty l0 x9_3).size : Int) > 50)))) else (laws_FnCompiledWritten.j3 k3 l0 l1 a2 x7_3 x8_3 x9_3 true))) else (none)) = some r := by rw [if_pos rfl] at H; exact H
                          clear H
                          have H := H1
                          clear H1
                          by_cases c17 : x9_3 < (l0.length : Int)
                          · rw [if_pos c17] at H
                            have c17b0 : decide (x9_3 < (l0.length : Int)) = true := decide_eq_true c17
                            clear c17
                            replace H := Option.bind_eq_some_iff.mp H
                            obtain ⟨t190, A180, H⟩ := H
                            replace H : (if t190 = true then (if ((rdOf ByteArray.empty l1 x9_3).size : Int) > 50 then (laws_FnCompiledWritten.j3 k3 l0 l1 a2 x7_3 x8_3 x9_3 true) else (laws_FnCompiledWritten.j3 k3 l0 l1 a2 x7_3 x8_3 x9_3 (decide (((rdOf ByteArray.empty l0 x9_3).size : Int) > 50)))) else (laws_FnCompiledWritten.j3 k3 l0 l1 a2 x7_3 x8_3 x9_3 true)) = some r := H
                            have A18 := Aside0.mk A180
                            clear A180
                            by_cases c19 : t190 = true
                            · subst c19
                              have H1 : (if ((rdOf ByteArray.empty l1 x9_3).size : Int) > 50 then (laws_FnCompiledWritten.j3 k3 l0 l1 a2 x7_3 x8_3 x9_3 true) else (laws_FnCompiledWritten.j3 k3 l0 l1 a2 x7_3 x8_3 x9_3 (decide (((rdOf ByteArray.empty l0 x9_3).size : Int) > 50)))) = some r := by rw [if_pos rfl] at H; exact H
                              clear H
                              have H := H1
                              clear H1
                              by_cases c20 : ((rdOf ByteArray.empty l1 x9_3).size : Int) > 50
                              · rw [if_pos c20] at H
                                have c20b0 : decide (50 < ((rdOf ByteArray.empty l1 x9_3).size : Int)) = true := decide_eq_true c20
                                have c20b1 : decide (50 < (rdOf ByteArray.empty l1 x9_3).size) = true := decide_eq_true (by omega)
                                clear c20
                                have H' := Aside0.mk H
                                clear H
                                have p187 : 0 ≤ (x9_3 : Int) := of_decide_eq_true (by first | (with_reducible assumption) | assumption)
                                have q187 : x9_3 < (l1.length : Int) := of_decide_eq_true (by first | (with_reducible assumption) | assumption)
                                obtain ⟨ad187, e187, hx187_0⟩ := Kd.at_string HR1.out x9_3 p187 q187
                                cases e187
                                replace hx187_0 := (HB.out.cell (World.block_lt_of_cell? w _ hx187_0)).trans hx187_0
                                replace p187 := eq_true p187
                                replace q187 := eq_true q187
                                go_wp2_with (first | ((with_reducible refine gate_callee (f := 30) rfl ?_); refine goesL_ (some 41) rfl rfl Tryd.func30 (by kernel_rfl) rfl #[.string (rdOf ByteArray.empty l1 x9_3)] rfl (by (try simp only [List.map_toArray, List.map_cons, List.map_nil]); first | done | rfl | (simp only [List.length_drop, List.length_take]; rfl)) ?_; (with_reducible refine (spec_IsName.calls k3 (rdOf ByteArray.empty l1 x9_3) true _ A15.out).mono ?_); rintro e w' ⟨rfl, ⟨nd, rfl⟩⟩; refine ⟨_, rfl, ?_⟩; have p189 : 0 ≤ (x9_3 : Int) := of_decide_eq_true (by first | (with_reducible assumption) | assumption); have q189 : x9_3 < (l0.length : Int) := of_decide_eq_true (by first | (with_reducible assumption) | assumption); obtain ⟨ad189, e189, hx189_0⟩ := Kd.at_string HR0.out x9_3 p189 q189; cases e189; replace hx189_0 := (HB.out.cell (World.block_lt_of_cell? w _ hx189_0)).trans hx189_0; replace p189 := eq_true p189; replace q189 := eq_true q189) | (go_at_call 31; (with_reducible refine (spec_IsGap.calls k3 (rdOf ByteArray.empty l0 x9_3) true _ A18.out).mono ?_); rintro e w' ⟨rfl, ⟨nd, rfl⟩⟩; have p191 : 0 ≤ (x9_3 : Int) := of_decide_eq_true (by first | (with_reducible assumption) | assumption); have q191 : x9_3 < (l1.length : Int) := of_decide_eq_true (by first | (with_reducible assumption) | assumption); obtain ⟨ad191, e191, hx191_0⟩ := Kd.at_string HR1.out x9_3 p191 q191; obtain rfl : ad187 = ad191 := (by injection e191); replace hx191_0 := (HB.out.cell (World.block_lt_of_cell? w _ hx191_0)).trans hx191_0; replace p191 := eq_true p191; replace q191 := eq_true q191))
                                go_meet
                                case rel => exact ⟨_, (true), (by first | rfl | (simp; done) | (simp [*]; done)), H', ⟨by have := HJ3.out; have := HJ8.out; have := HK3.out; first | omega | exact Nat.le_refl _⟩, ⟨by repeat (first | (with_reducible first | exact HB.out | apply below_alloc | apply pw_below_drewN | apply below_drew1) | exact HB.out)⟩⟩
                              · rw [if_neg c20] at H
                                have c20b0 : decide (50 < ((rdOf ByteArray.empty l1 x9_3).size : Int)) = false := decide_eq_false c20
                                have c20b1 : decide (50 < (rdOf ByteArray.empty l1 x9_3).size) = false := decide_eq_false (by omega)
                                clear c20
                                have H' := Aside0.mk H
                                clear H
                                have p187 : 0 ≤ (x9_3 : Int) := of_decide_eq_true (by first | (with_reducible assumption) | assumption)
                                have q187 : x9_3 < (l1.length : Int) := of_decide_eq_true (by first | (with_reducible assumption) | assumption)
                                obtain ⟨ad187, e187, hx187_0⟩ := Kd.at_string HR1.out x9_3 p187 q187
                                cases e187
                                replace hx187_0 := (HB.out.cell (World.block_lt_of_cell? w _ hx187_0)).trans hx187_0
                                replace p187 := eq_true p187
                                replace q187 := eq_true q187
                                go_wp2_with (first | ((with_reducible refine gate_callee (f := 30) rfl ?_); refine goesL_ (some 41) rfl rfl Tryd.func30 (by kernel_rfl) rfl #[.string (rdOf ByteArray.empty l1 x9_3)] rfl (by (try simp only [List.map_toArray, List.map_cons, List.map_nil]); first | done | rfl | (simp only [List.length_drop, List.length_take]; rfl)) ?_; (with_reducible refine (spec_IsName.calls k3 (rdOf ByteArray.empty l1 x9_3) true _ A15.out).mono ?_); rintro e w' ⟨rfl, ⟨nd, rfl⟩⟩; refine ⟨_, rfl, ?_⟩; have p189 : 0 ≤ (x9_3 : Int) := of_decide_eq_true (by first | (with_reducible assumption) | assumption); have q189 : x9_3 < (l0.length : Int) := of_decide_eq_true (by first | (with_reducible assumption) | assumption); obtain ⟨ad189, e189, hx189_0⟩ := Kd.at_string HR0.out x9_3 p189 q189; cases e189; replace hx189_0 := (HB.out.cell (World.block_lt_of_cell? w _ hx189_0)).trans hx189_0; replace p189 := eq_true p189; replace q189 := eq_true q189) | (go_at_call 31; (with_reducible refine (spec_IsGap.calls k3 (rdOf ByteArray.empty l0 x9_3) true _ A18.out).mono ?_); rintro e w' ⟨rfl, ⟨nd, rfl⟩⟩; have p191 : 0 ≤ (x9_3 : Int) := of_decide_eq_true (by first | (with_reducible assumption) | assumption); have q191 : x9_3 < (l1.length : Int) := of_decide_eq_true (by first | (with_reducible assumption) | assumption); obtain ⟨ad191, e191, hx191_0⟩ := Kd.at_string HR1.out x9_3 p191 q191; obtain rfl : ad187 = ad191 := (by injection e191); replace hx191_0 := (HB.out.cell (World.block_lt_of_cell? w _ hx191_0)).trans hx191_0; replace p191 := eq_true p191; replace q191 := eq_true q191; have p192 : 0 ≤ (x9_3 : Int) := of_decide_eq_true (by first | (with_reducible assumption) | assumption); have q192 : x9_3 < (l0.length : Int) := of_decide_eq_true (by first | (with_reducible assumption) | assumption); obtain ⟨ad192, e192, hx192_0⟩ := Kd.at_string HR0.out x9_3 p192 q192; obtain rfl : ad189 = ad192 := (by injection e192); replace hx192_0 := (HB.out.cell (World.block_lt_of_cell? w _ hx192_0)).trans hx192_0; replace p192 := eq_true p192; replace q192 := eq_true q192))
                                go_meet
                                case rel => exact ⟨_, (decide (((rdOf ByteArray.empty l0 x9_3).size : Int) > 50)), (by first | rfl | (simp; done) | (simp [*]; done)), H', ⟨by have := HJ3.out; have := HJ8.out; have := HK3.out; first | omega | exact Nat.le_refl _⟩, ⟨by repeat (first | (with_reducible first | exact HB.out | apply below_alloc | apply pw_below_drewN | apply below_drew1) | exact HB.out)⟩⟩
                            · replace c19 := Bool.eq_false_iff.mpr c19
                              subst c19
                              have H1 : (laws_FnCompiledWritten.j3 k3 l0 l1 a2 x7_3 x8_3 x9_3 true) = some r := by rw [if_neg (show ¬ (false = true) by decide)] at H; exact H
                              clear H
                              have H := H1
                              clear H1
                              have H' := Aside0.mk H
                              clear H
                              have p187 : 0 ≤ (x9_3 : Int) := of_decide_eq_true (by first | (with_reducible assumption) | assumption)
                              have q187 : x9_3 < (l1.length : Int) := of_decide_eq_true (by first | (with_reducible assumption) | assumption)
                              obtain ⟨ad187, e187, hx187_0⟩ := Kd.at_string HR1.out x9_3 p187 q187
                              cases e187
                              replace hx187_0 := (HB.out.cell (World.block_lt_of_cell? w _ hx187_0)).trans hx187_0
                              replace p187 := eq_true p187
                              replace q187 := eq_true q187
                              go_wp2_with (first | ((with_reducible refine gate_callee (f := 30) rfl ?_); refine goesL_ (some 41) rfl rfl Tryd.func30 (by kernel_rfl) rfl #[.string (rdOf ByteArray.empty l1 x9_3)] rfl (by (try simp only [List.map_toArray, List.map_cons, List.map_nil]); first | done | rfl | (simp only [List.length_drop, List.length_take]; rfl)) ?_; (with_reducible refine (spec_IsName.calls k3 (rdOf ByteArray.empty l1 x9_3) true _ A15.out).mono ?_); rintro e w' ⟨rfl, ⟨nd, rfl⟩⟩; refine ⟨_, rfl, ?_⟩; have p189 : 0 ≤ (x9_3 : Int) := of_decide_eq_true (by first | (with_reducible assumption) | assumption); have q189 : x9_3 < (l0.length : Int) := of_decide_eq_true (by first | (with_reducible assumption) | assumption); obtain ⟨ad189, e189, hx189_0⟩ := Kd.at_string HR0.out x9_3 p189 q189; cases e189; replace hx189_0 := (HB.out.cell (World.block_lt_of_cell? w _ hx189_0)).trans hx189_0; replace p189 := eq_true p189; replace q189 := eq_true q189) | (go_at_call 31; (with_reducible refine (spec_IsGap.calls k3 (rdOf ByteArray.empty l0 x9_3) false _ A18.out).mono ?_); rintro e w' ⟨rfl, ⟨nd, rfl⟩⟩))
                              go_meet
                              case rel => exact ⟨_, (true), (by first | rfl | (simp; done) | (simp [*]; done)), H', ⟨by have := HJ3.out; have := HJ8.out; have := HK3.out; first | omega | exact Nat.le_refl _⟩, ⟨by repeat (first | (with_reducible first | exact HB.out | apply below_alloc | apply pw_below_drewN | apply below_drew1) | exact HB.out)⟩⟩
                          · rw [if_neg c17] at H
                            exact absurd H (by simp)
                        · replace c16 := Bool.eq_false_iff.mpr c16
                          subst c16
                          have H1 : (laws_FnCompiledWritten.j3 k3 l0 l1 a2 x7_3 x8_3 x9_3 true) = some r := by rw [if_neg (show ¬ (false = true) by decide)] at H; exact H
                          clear H
                          have H := H1
                          clear H1
                          have H' := Aside0.mk H
                          clear H
                          have p187 : 0 ≤ (x9_3 : Int) := of_decide_eq_true (by first | (with_reducible assumption) | assumption)
                          have q187 : x9_3 < (l1.length : Int) := of_decide_eq_true (by first | (with_reducible assumption) | assumption)
                          obtain ⟨ad187, e187, hx187_0⟩ := Kd.at_string HR1.out x9_3 p187 q187
                          cases e187
                          replace hx187_0 := (HB.out.cell (World.block_lt_of_cell? w _ hx187_0)).trans hx187_0
                          replace p187 := eq_true p187
                          replace q187 := eq_true q187
                          go_wp2_with (first | ((with_reducible refine gate_callee (f := 30) rfl ?_); refine goesL_ (some 41) rfl rfl Tryd.func30 (by kernel_rfl) rfl #[.string (rdOf ByteArray.empty l1 x9_3)] rfl (by (try simp only [List.map_toArray, List.map_cons, List.map_nil]); first | done | rfl | (simp only [List.length_drop, List.length_take]; rfl)) ?_; (with_reducible refine (spec_IsName.calls k3 (rdOf ByteArray.empty l1 x9_3) false _ A15.out).mono ?_); rintro e w' ⟨rfl, ⟨nd, rfl⟩⟩; refine ⟨_, rfl, ?_⟩))
                          go_meet
                          case rel => exact ⟨_, (true), (by first | rfl | (simp; done) | (simp [*]; done)), H', ⟨by have := HJ3.out; have := HJ8.out; have := HK3.out; first | omega | exact Nat.le_refl _⟩, ⟨by repeat (first | (with_reducible first | exact HB.out | apply below_alloc | apply pw_below_drewN | apply below_drew1) | exact HB.out)⟩⟩
                      · rw [if_neg c14] at H
                        exact absurd H (by simp)
                    case rest =>
                      clear HC13
                      try clear c1
                      try clear p1
                      try clear q1
                      try clear hx1
                      try clear c2
                      try clear p2
                      try clear c3
                      try clear c6
                      try clear c8
                      try clear c10
                      try clear c10b0
                      try clear c10b1
                      try clear c10b2
                      try clear c11
                      try clear c12
                      try clear c12b0
                      try clear c14
                      try clear c14b0
                      try clear c16
                      try clear c17
                      try clear c17b0
                      try clear p18
                      try clear q18
                      try clear hx18
                      try clear c19
                      try clear p19
                      try clear q19
                      try clear hx19
                      try clear c20
                      try clear c20b0
                      try clear c20b1
                      try clear hx187_0
                      try clear hx189_0
                      try clear hx191_0
                      try clear hx192_0
                      try clear p187
                      try clear p189
                      try clear p191
                      try clear p192
                      try clear p2
                      try clear q187
                      try clear q189
                      try clear q191
                      try clear q192
                      obtain ⟨kq, x66_12, rfl, HA, HJ12, HB⟩ := hcut
                      cases kq with
                      | zero => exact absurd HA.out (by simp [laws_FnCompiledWritten.j3])
                      | succ kj12 =>
                        have H := HA.out
                        clear HA
                        simp only [laws_FnCompiledWritten.j3] at H
                        by_cases c21 : x66_12 = true
                        · subst c21
                          have H1 : (some true) = some r := by rw [if_pos rfl] at H; exact H
                          clear H
                          have H := H1
                          clear H1
                          obtain rfl := Option.some.inj H
                          go_wp2
                          go_ret
                          exact ⟨by first | rfl | (simp [errW_none, errW_some] <;> rfl) | (simp [*, errW_none, errW_some] <;> rfl), by repeat (first | (with_reducible first | exact HB.out | apply below_alloc | apply pw_below_drewN | apply below_drew1) | exact HB.out)⟩
                        · replace c21 := Bool.eq_false_iff.mpr c21
                          subst c21
                          have H1 : (if 0 ≤ x9_3 then (if x9_3 < (l1.length : Int) then (if 1 + (rdOf ByteArray.empty l1 x9_3).size ≤ 9223372036854775807 then (if x9_3 < (l0.length : Int) then (if ((⟨#[58]⟩ : ByteArray) ++ (rdOf ByteArray.empty l1 x9_3)).size + (rdOf ByteArray.empty l0 x9_3).size ≤ 9223372036854775807 then (if x7_3.size + (((⟨#[58]⟩ : ByteArray) ++ (rdOf ByteArray.empty l1 x9_3)) ++ (rdOf ByteArray.empty l0 x9_3)).size ≤ 9223372036854775807 then ((laws_kind9.f a2).bind fun t195 => ((spec_Mark.f kj12 t195 (wrap64 (x9_3 + 1)) (rdOf ByteArray.empty l1 x9_3)).bind fun t197 => (if t197.size + (rdOf ByteArray.empty l0 x9_3).size ≤ 9223372036854775807 then (if x8_3.size + (t197 ++ (rdOf ByteArray.empty l0 x9_3)).size ≤ 9223372036854775807 then (laws_FnCompiledWritten.l0 kj12 l0 l1 a2 (x7_3 ++ (((⟨#[58]⟩ : ByteArray) ++ (rdOf ByteArray.empty l1 x9_3)) ++ (rdOf ByteArray.empty l0 x9_3))) (x8_3 ++ (t197 ++ (rdOf ByteArray.empty l0 x9_3))) (wrap64 (x9_3 + 1))) else (none)) else (none)))) else (none)) else (none)) else (none)) else (none)) else (none)) else (none)) = some r := by rw [if_neg (show ¬ (false = true) by decide)] at H; exact H
                          clear H
                          have H := H1
                          clear H1
                          by_cases c22 : 0 ≤ x9_3
                          · rw [if_pos c22] at H
                            have c22b0 : decide (0 ≤ x9_3) = true := decide_eq_true c22
                            clear c22
                            by_cases c23 : x9_3 < (l1.length : Int)
                            · rw [if_pos c23] at H
                              have c23b0 : decide (x9_3 < (l1.length : Int)) = true := decide_eq_true c23
                              clear c23
                              by_cases c24 : 1 + (rdOf ByteArray.empty l1 x9_3).size ≤ 9223372036854775807
                              · rw [if_pos c24] at H
                                have c24b0 := eq_true c24
                                have c24b1 : decide (1 + (rdOf ByteArray.empty l1 x9_3).size ≤ 9223372036854775807) = true := decide_eq_true c24
                                try have c24b2 : (9223372036854775807 < 1 + (rdOf ByteArray.empty l1 x9_3).size) = False := eq_false (Nat.not_lt.2 c24)
                                by_cases c25 : x9_3 < (l0.length : Int)
                                · rw [if_pos c25] at H
                                  have c25b0 : decide (x9_3 < (l0.length : Int)) = true := decide_eq_true c25
                                  clear c25
                                  by_cases c26 : ((⟨#[58]⟩ : ByteArray) ++ (rdOf ByteArray.empty l1 x9_3)).size + (rdOf ByteArray.empty l0 x9_3).size ≤ 9223372036854775807
                                  · rw [if_pos c26] at H
                                    have c26b0 := eq_true c26
                                    have c26b1 : decide (((⟨#[58]⟩ : ByteArray) ++ (rdOf ByteArray.empty l1 x9_3)).size + (rdOf ByteArray.empty l0 x9_3).size ≤ 9223372036854775807) = true := decide_eq_true c26
                                    try have c26b2 : (9223372036854775807 < ((⟨#[58]⟩ : ByteArray) ++ (rdOf ByteArray.empty l1 x9_3)).size + (rdOf ByteArray.empty l0 x9_3).size) = False := eq_false (Nat.not_lt.2 c26)
                                    have c26b3 : (9223372036854775807 < 1 + (rdOf ByteArray.empty l1 x9_3).size + (rdOf ByteArray.empty l0 x9_3).size) = False := eq_false (Nat.not_lt.2 (by have h := c26; rw [ByteArray.size_append] at h; exact h))
                                    by_cases c27 : x7_3.size + (((⟨#[58]⟩ : ByteArray) ++ (rdOf ByteArray.empty l1 x9_3)) ++ (rdOf ByteArray.empty l0 x9_3)).size ≤ 9223372036854775807
                                    · rw [if_pos c27] at H
                                      have c27b0 := eq_true c27
                                      have c27b1 : decide (x7_3.size + (((⟨#[58]⟩ : ByteArray) ++ (rdOf ByteArray.empty l1 x9_3)) ++ (rdOf ByteArray.empty l0 x9_3)).size ≤ 9223372036854775807) = true := decide_eq_true c27
                                      try have c27b2 : (9223372036854775807 < x7_3.size + (((⟨#[58]⟩ : ByteArray) ++ (rdOf ByteArray.empty l1 x9_3)) ++ (rdOf ByteArray.empty l0 x9_3)).size) = False := eq_false (Nat.not_lt.2 c27)
                                      have c27b3 : (9223372036854775807 < x7_3.size + (1 + (rdOf ByteArray.empty l1 x9_3).size + (rdOf ByteArray.empty l0 x9_3).size)) = False := eq_false (Nat.not_lt.2 (by have h := c27; rw [ByteArray.size_append, ByteArray.size_append] at h; exact h))
                                      replace H := Option.bind_eq_some_iff.mp H
                                      obtain ⟨t195, A280, H⟩ := H
                                      replace H : ((spec_Mark.f kj12 t195 (wrap64 (x9_3 + 1)) (rdOf ByteArray.empty l1 x9_3)).bind fun t197 => (if t197.size + (rdOf ByteArray.empty l0 x9_3).size ≤ 9223372036854775807 then (if x8_3.size + (t197 ++ (rdOf ByteArray.empty l0 x9_3)).size ≤ 9223372036854775807 then (laws_FnCompiledWritten.l0 kj12 l0 l1 a2 (x7_3 ++ (((⟨#[58]⟩ : ByteArray) ++ (rdOf ByteArray.empty l1 x9_3)) ++ (rdOf ByteArray.empty l0 x9_3))) (x8_3 ++ (t197 ++ (rdOf ByteArray.empty l0 x9_3))) (wrap64 (x9_3 + 1))) else (none)) else (none))) = some r := H
                                      have A28 := Aside0.mk A280
                                      clear A280
                                      replace H := Option.bind_eq_some_iff.mp H
                                      obtain ⟨t197, A290, H⟩ := H
                                      replace H : (if t197.size + (rdOf ByteArray.empty l0 x9_3).size ≤ 9223372036854775807 then (if x8_3.size + (t197 ++ (rdOf ByteArray.empty l0 x9_3)).size ≤ 9223372036854775807 then (laws_FnCompiledWritten.l0 kj12 l0 l1 a2 (x7_3 ++ (((⟨#[58]⟩ : ByteArray) ++ (rdOf ByteArray.empty l1 x9_3)) ++ (rdOf ByteArray.empty l0 x9_3))) (x8_3 ++ (t197 ++ (rdOf ByteArray.empty l0 x9_3))) (wrap64 (x9_3 + 1))) else (none)) else (none)) = some r := H
                                      have A29 := Aside0.mk A290
                                      clear A290
                                      by_cases c30 : t197.size + (rdOf ByteArray.empty l0 x9_3).size ≤ 9223372036854775807
                                      · rw [if_pos c30] at H
                                        have c30b0 := eq_true c30
                                        have c30b1 : decide (t197.size + (rdOf ByteArray.empty l0 x9_3).size ≤ 9223372036854775807) = true := decide_eq_true c30
                                        try have c30b2 : (9223372036854775807 < t197.size + (rdOf ByteArray.empty l0 x9_3).size) = False := eq_false (Nat.not_lt.2 c30)
                                        by_cases c31 : x8_3.size + (t197 ++ (rdOf ByteArray.empty l0 x9_3)).size ≤ 9223372036854775807
                                        · rw [if_pos c31] at H
                                          have c31b0 := eq_true c31
                                          have c31b1 : decide (x8_3.size + (t197 ++ (rdOf ByteArray.empty l0 x9_3)).size ≤ 9223372036854775807) = true := decide_eq_true c31
                                          try have c31b2 : (9223372036854775807 < x8_3.size + (t197 ++ (rdOf ByteArray.empty l0 x9_3)).size) = False := eq_false (Nat.not_lt.2 c31)
                                          have c31b3 : (9223372036854775807 < x8_3.size + (t197.size + (rdOf ByteArray.empty l0 x9_3).size)) = False := eq_false (Nat.not_lt.2 (by have h := c31; rw [ByteArray.size_append] at h; exact h))
                                          have H' := Aside0.mk H
                                          clear H
                                          try go_wp2
                                          have n0_ := Aside0.mk (below_drew1 HB.out)
                                          clear HB
                                          have HB := n0_
                                          clear n0_
                                          have p193 : 0 ≤ (x9_3 : Int) := of_decide_eq_true (by first | (with_reducible assumption) | assumption)
                                          have q193 : x9_3 < (l1.length : Int) := of_decide_eq_true (by first | (with_reducible assumption) | assumption)
                                          obtain ⟨ad193, e193, hx193_0⟩ := Kd.at_string HR1.out x9_3 p193 q193
                                          have hw193_0 := hx193_0
                                          cases e193
                                          replace hx193_0 := (HB.out.cell (World.block_lt_of_cell? w _ hx193_0)).trans hx193_0
                                          replace p193 := eq_true p193
                                          replace q193 := eq_true q193
                                          have p194 : 0 ≤ (x9_3 : Int) := of_decide_eq_true (by first | (with_reducible assumption) | assumption)
                                          have q194 : x9_3 < (l0.length : Int) := of_decide_eq_true (by first | (with_reducible assumption) | assumption)
                                          obtain ⟨ad194, e194, hx194_0⟩ := Kd.at_string HR0.out x9_3 p194 q194
                                          have hw194_0 := hx194_0
                                          cases e194
                                          replace hx194_0 := (HB.out.cell (World.block_lt_of_cell? w _ hx194_0)).trans hx194_0
                                          replace p194 := eq_true p194
                                          replace q194 := eq_true q194
                                          refine start_ (n := 13) (S := fun w' => w'.cell? (ad193.add (x9_3).toNat) = some (.string (rdOf ByteArray.empty l1 x9_3)) ∧ w'.cell? (ad194.add (x9_3).toNat) = some (.string (rdOf ByteArray.empty l0 x9_3))) (ds := []) #[false, false, false, false, false, false, false, false, false, false, false, false, false] (by kernel_rfl) rfl rfl ⟨((HB.out.cell (World.block_lt_of_cell? w _ hw193_0)).trans hw193_0), ((HB.out.cell (World.block_lt_of_cell? w _ hw194_0)).trans hw194_0)⟩ (fun hHeld => ?_); refine with_tabW laws_FnCompiledWritten.tab11 laws_FnCompiledWritten.bits11 (fun HT_ HW_ => ?_)
                                          generalize wc.drew = w32 at HB hx193_0 hx194_0 hHeld ⊢
                                          refine pure_ (i := 0) (N := some 67) (v := ?_) (a' := ?_) #[true, false, false, false, false, false, false, false, false, false, false, false, false] rfl rfl (any_of HT_.out (by kernel_rfl)) (fun _ _ _ h => h) (Or.inl ⟨by rfl, ?_⟩) ?_ ?_
                                          rotate_left
                                          · intro w'
                                            go_simp
                                            with_reducible rfl
                                          rotate_left
                                          · simp only [Act.put, List.setIfInBounds_toArray, List.set_cons_zero, List.set_cons_succ, i64_w, i32_w]
                                            rfl
                                          refine pure_ (i := 1) (N := some 68) (v := ?_) (a' := ?_) #[true, true, false, false, false, false, false, false, false, false, false, false, false] rfl rfl (any_of HT_.out (by kernel_rfl)) (fun _ _ _ h => h) (Or.inl ⟨by rfl, ?_⟩) ?_ ?_
                                          rotate_left
                                          · intro w'
                                            go_simp
                                            with_reducible rfl
                                          rotate_left
                                          · simp only [Act.put, List.setIfInBounds_toArray, List.set_cons_zero, List.set_cons_succ, i64_w, i32_w]
                                            rfl
                                          refine pure_ (i := 2) (N := some 69) (v := ?_) (a' := ?_) #[true, true, true, false, false, false, false, false, false, false, false, false, false] rfl rfl (any_of HT_.out (by kernel_rfl)) (fun _ _ _ h => h) (Or.inl ⟨by rfl, ?_⟩) ?_ ?_
                                          rotate_left
                                          · intro w'
                                            go_simp
                                            with_reducible rfl
                                          rotate_left
                                          · simp only [Act.put, List.setIfInBounds_toArray, List.set_cons_zero, List.set_cons_succ, i64_w, i32_w]
                                            rfl
                                          refine pure_ (i := 3) (N := some 70) (v := ?_) (a' := ?_) #[true, true, true, true, false, false, false, false, false, false, false, false, false] rfl rfl (any_of HT_.out (by kernel_rfl)) (fun _ _ _ h => h) (Or.inl ⟨by rfl, ?_⟩) ?_ ?_
                                          rotate_left
                                          · intro w'
                                            go_simp
                                            with_reducible rfl
                                          rotate_left
                                          · simp only [Act.put, List.setIfInBounds_toArray, List.set_cons_zero, List.set_cons_succ, i64_w, i32_w]
                                            rfl
                                          refine pure_ (i := 6) (N := some 73) (v := ?_) (a' := ?_) #[true, true, true, true, false, false, true, false, false, false, false, false, false] rfl rfl (any_of HT_.out (by kernel_rfl)) (fun _ _ _ h => h) (Or.inl ⟨by rfl, ?_⟩) ?_ ?_
                                          rotate_left
                                          · intro w'
                                            go_simp
                                            with_reducible rfl
                                          rotate_left
                                          · simp only [Act.put, List.setIfInBounds_toArray, List.set_cons_zero, List.set_cons_succ, i64_w, i32_w]
                                            rfl
                                          refine pure_ (i := 7) (N := some 74) (v := ?_) (a' := ?_) #[true, true, true, true, false, false, true, true, false, false, false, false, false] rfl rfl (any_of HT_.out (by kernel_rfl)) (fun _ _ _ h => h) (Or.inl ⟨by rfl, ?_⟩) ?_ ?_
                                          rotate_left
                                          · intro w'
                                            go_simp
                                            with_reducible rfl
                                          rotate_left
                                          · simp only [Act.put, List.setIfInBounds_toArray, List.set_cons_zero, List.set_cons_succ, i64_w, i32_w]
                                            rfl
                                          refine pure_ (i := 8) (N := some 75) (v := ?_) (a' := ?_) #[true, true, true, true, false, false, true, true, true, false, false, false, false] rfl rfl (any_of HT_.out (by kernel_rfl)) (fun _ _ _ h => h) (Or.inl ⟨by rfl, ?_⟩) ?_ ?_
                                          rotate_left
                                          · intro w'
                                            go_simp
                                            with_reducible rfl
                                          rotate_left
                                          · simp only [Act.put, List.setIfInBounds_toArray, List.set_cons_zero, List.set_cons_succ, i64_w, i32_w]
                                            rfl
                                          refine take_ (i := 4) (N := some 71) (v := ?_) (a' := ?_) #[true, true, true, true, true, false, true, true, true, false, false, false, false] rfl rfl (take_ofW HT_.out HW_.out (by kernel_rfl)) (fun _ _ _ h => h) (Or.inl ⟨by rfl, ?_⟩) hHeld ?_ ?_
                                          rotate_left
                                          · rintro w' ⟨s0, s1⟩
                                            go_simp
                                            with_reducible rfl
                                          rotate_left
                                          · simp only [Act.put, List.setIfInBounds_toArray, List.set_cons_zero, List.set_cons_succ, i64_w, i32_w]
                                            rfl
                                          refine pure_ (i := 5) (N := some 72) (v := ?_) (a' := ?_) #[true, true, true, true, true, true, true, true, true, false, false, false, false] rfl rfl (any_of HT_.out (by kernel_rfl)) (fun _ _ _ h => h) (Or.inl ⟨by rfl, ?_⟩) ?_ ?_
                                          rotate_left
                                          · intro w'
                                            go_simp
                                            with_reducible rfl
                                          rotate_left
                                          · simp only [Act.put, List.setIfInBounds_toArray, List.set_cons_zero, List.set_cons_succ, i64_w, i32_w]
                                            rfl
                                          refine take_ (i := 9) (N := some 76) (v := ?_) (a' := ?_) #[true, true, true, true, true, true, true, true, true, true, false, false, false] rfl rfl (take_ofW HT_.out HW_.out (by kernel_rfl)) (fun _ _ _ h => h) (Or.inl ⟨by rfl, ?_⟩) hHeld ?_ ?_
                                          rotate_left
                                          · rintro w' ⟨s0, s1⟩
                                            go_simp
                                            with_reducible rfl
                                          rotate_left
                                          · simp only [Act.put, List.setIfInBounds_toArray, List.set_cons_zero, List.set_cons_succ, i64_w, i32_w]
                                            rfl
                                          refine pure_ (i := 10) (N := some 77) (v := ?_) (a' := ?_) #[true, true, true, true, true, true, true, true, true, true, true, false, false] rfl rfl (any_of HT_.out (by kernel_rfl)) (fun _ _ _ h => h) (Or.inl ⟨by rfl, ?_⟩) ?_ ?_
                                          rotate_left
                                          · intro w'
                                            go_simp
                                            with_reducible rfl
                                          rotate_left
                                          · simp only [Act.put, List.setIfInBounds_toArray, List.set_cons_zero, List.set_cons_succ, i64_w, i32_w]
                                            rfl
                                          refine pure_ (i := 11) (N := some 78) (v := ?_) (a' := ?_) #[true, true, true, true, true, true, true, true, true, true, true, true, false] rfl rfl (any_of HT_.out (by kernel_rfl)) (fun _ _ _ h => h) (Or.inl ⟨by rfl, ?_⟩) ?_ ?_
                                          rotate_left
                                          · intro w'
                                            go_simp
                                            with_reducible rfl
                                          rotate_left
                                          · simp only [Act.put, List.setIfInBounds_toArray, List.set_cons_zero, List.set_cons_succ, i64_w, i32_w]
                                            rfl
                                          refine pure_ (i := 12) (N := some 7) (v := ?_) (a' := ?_) #[true, true, true, true, true, true, true, true, true, true, true, true, true] rfl rfl (any_of HT_.out (by kernel_rfl)) (fun _ _ _ h => h) (Or.inl ⟨by rfl, ?_⟩) ?_ ?_
                                          rotate_left
                                          · intro w'
                                            go_simp
                                            with_reducible rfl
                                          rotate_left
                                          · simp only [Act.put, List.setIfInBounds_toArray, List.set_cons_zero, List.set_cons_succ, i64_w, i32_w]
                                            rfl
                                          refine done_ (done_of HT_.out (by kernel_rfl)) ?_
                                          try go_wp2
                                          have n0_ := Aside0.mk (below_drew1 HB.out)
                                          clear HB
                                          have HB := n0_
                                          clear n0_
                                          have p196 : 0 ≤ (x9_3 : Int) := of_decide_eq_true (by first | (with_reducible assumption) | assumption)
                                          have q196 : x9_3 < (l1.length : Int) := of_decide_eq_true (by first | (with_reducible assumption) | assumption)
                                          obtain ⟨ad196, e196, hx196_0⟩ := Kd.at_string HR1.out x9_3 p196 q196
                                          have hw196_0 := hx196_0
                                          obtain rfl : ad193 = ad196 := (by injection e196)
                                          replace hx196_0 := (HB.out.cell (World.block_lt_of_cell? w _ hx196_0)).trans hx196_0
                                          replace p196 := eq_true p196
                                          replace q196 := eq_true q196
                                          have p198 : 0 ≤ (x9_3 : Int) := of_decide_eq_true (by first | (with_reducible assumption) | assumption)
                                          have q198 : x9_3 < (l0.length : Int) := of_decide_eq_true (by first | (with_reducible assumption) | assumption)
                                          obtain ⟨ad198, e198, hx198_0⟩ := Kd.at_string HR0.out x9_3 p198 q198
                                          have hw198_0 := hx198_0
                                          obtain rfl : ad194 = ad198 := (by injection e198)
                                          replace hx198_0 := (HB.out.cell (World.block_lt_of_cell? w _ hx198_0)).trans hx198_0
                                          replace p198 := eq_true p198
                                          replace q198 := eq_true q198
                                          refine start_ (n := 17) (S := fun w' => w'.cell? (ad193.add (x9_3).toNat) = some (.string (rdOf ByteArray.empty l1 x9_3)) ∧ w'.cell? (ad194.add (x9_3).toNat) = some (.string (rdOf ByteArray.empty l0 x9_3))) (ds := []) #[false, false, false, false, false, false, false, false, false, false, false, false, false, false, false, false, false] (by kernel_rfl) rfl rfl ⟨((HB.out.cell (World.block_lt_of_cell? w _ hw196_0)).trans hw196_0), ((HB.out.cell (World.block_lt_of_cell? w _ hw198_0)).trans hw198_0)⟩ (fun hHeld => ?_); refine with_tabW laws_FnCompiledWritten.tab12 laws_FnCompiledWritten.bits12 (fun HT_ HW_ => ?_)
                                          generalize w32.drew = w33 at HB hx196_0 hx198_0 hHeld ⊢
                                          refine pure_ (i := 0) (N := some 79) (v := ?_) (a' := ?_) #[true, false, false, false, false, false, false, false, false, false, false, false, false, false, false, false, false] rfl rfl (any_of HT_.out (by kernel_rfl)) (fun _ _ _ h => h) (Or.inl ⟨by rfl, ?_⟩) ?_ ?_
                                          rotate_left
                                          · intro w'
                                            go_simp
                                            with_reducible rfl
                                          rotate_left
                                          · simp only [Act.put, List.setIfInBounds_toArray, List.set_cons_zero, List.set_cons_succ, i64_w, i32_w]
                                            rfl
                                          refine pure_ (i := 1) (N := some 80) (v := ?_) (a' := ?_) #[true, true, false, false, false, false, false, false, false, false, false, false, false, false, false, false, false] rfl rfl (any_of HT_.out (by kernel_rfl)) (fun _ _ _ h => h) (Or.inl ⟨by rfl, ?_⟩) ?_ ?_
                                          rotate_left
                                          · intro w'
                                            go_simp
                                            with_reducible rfl
                                          rotate_left
                                          · simp only [Act.put, List.setIfInBounds_toArray, List.set_cons_zero, List.set_cons_succ, i64_w, i32_w]
                                            rfl
                                          refine pure_ (i := 3) (N := some 82) (v := ?_) (a' := ?_) #[true, true, false, true, false, false, false, false, false, false, false, false, false, false, false, false, false] rfl rfl (any_of HT_.out (by kernel_rfl)) (fun _ _ _ h => h) (Or.inl ⟨by rfl, ?_⟩) ?_ ?_
                                          rotate_left
                                          · intro w'
                                            go_simp
                                            with_reducible rfl
                                          rotate_left
                                          · simp only [Act.put, List.setIfInBounds_toArray, List.set_cons_zero, List.set_cons_succ, i64_w, i32_w]
                                            rfl
                                          refine pure_ (i := 4) (N := some 83) (v := ?_) (a' := ?_) #[true, true, false, true, true, false, false, false, false, false, false, false, false, false, false, false, false] rfl rfl (any_of HT_.out (by kernel_rfl)) (fun _ _ _ h => h) (Or.inl ⟨by rfl, ?_⟩) ?_ ?_
                                          rotate_left
                                          · intro w'
                                            go_simp
                                            with_reducible rfl
                                          rotate_left
                                          · simp only [Act.put, List.setIfInBounds_toArray, List.set_cons_zero, List.set_cons_succ, i64_w, i32_w]
                                            rfl
                                          refine pure_ (i := 5) (N := some 84) (v := ?_) (a' := ?_) #[true, true, false, true, true, true, false, false, false, false, false, false, false, false, false, false, false] rfl rfl (any_of HT_.out (by kernel_rfl)) (fun _ _ _ h => h) (Or.inl ⟨by rfl, ?_⟩) ?_ ?_
                                          rotate_left
                                          · intro w'
                                            go_simp
                                            with_reducible rfl
                                          rotate_left
                                          · simp only [Act.put, List.setIfInBounds_toArray, List.set_cons_zero, List.set_cons_succ, i64_w, i32_w]
                                            rfl
                                          refine pure_ (i := 6) (N := some 85) (v := ?_) (a' := ?_) #[true, true, false, true, true, true, true, false, false, false, false, false, false, false, false, false, false] rfl rfl (any_of HT_.out (by kernel_rfl)) (fun _ _ _ h => h) (Or.inl ⟨by rfl, ?_⟩) ?_ ?_
                                          rotate_left
                                          · intro w'
                                            go_simp
                                            with_reducible rfl
                                          rotate_left
                                          · simp only [Act.put, List.setIfInBounds_toArray, List.set_cons_zero, List.set_cons_succ, i64_w, i32_w]
                                            rfl
                                          refine pure_ (i := 7) (N := some 86) (v := ?_) (a' := ?_) #[true, true, false, true, true, true, true, true, false, false, false, false, false, false, false, false, false] rfl rfl (any_of HT_.out (by kernel_rfl)) (fun _ _ _ h => h) (Or.inl ⟨by rfl, ?_⟩) ?_ ?_
                                          rotate_left
                                          · intro w'
                                            go_simp
                                            with_reducible rfl
                                          rotate_left
                                          · simp only [Act.put, List.setIfInBounds_toArray, List.set_cons_zero, List.set_cons_succ, i64_w, i32_w]
                                            rfl
                                          refine pure_ (i := 10) (N := some 89) (v := ?_) (a' := ?_) #[true, true, false, true, true, true, true, true, false, false, true, false, false, false, false, false, false] rfl rfl (any_of HT_.out (by kernel_rfl)) (fun _ _ _ h => h) (Or.inl ⟨by rfl, ?_⟩) ?_ ?_
                                          rotate_left
                                          · intro w'
                                            go_simp
                                            with_reducible rfl
                                          rotate_left
                                          · simp only [Act.put, List.setIfInBounds_toArray, List.set_cons_zero, List.set_cons_succ, i64_w, i32_w]
                                            rfl
                                          refine pure_ (i := 11) (N := some 90) (v := ?_) (a' := ?_) #[true, true, false, true, true, true, true, true, false, false, true, true, false, false, false, false, false] rfl rfl (any_of HT_.out (by kernel_rfl)) (fun _ _ _ h => h) (Or.inl ⟨by rfl, ?_⟩) ?_ ?_
                                          rotate_left
                                          · intro w'
                                            go_simp
                                            with_reducible rfl
                                          rotate_left
                                          · simp only [Act.put, List.setIfInBounds_toArray, List.set_cons_zero, List.set_cons_succ, i64_w, i32_w]
                                            rfl
                                          refine pure_ (i := 12) (N := some 91) (v := ?_) (a' := ?_) #[true, true, false, true, true, true, true, true, false, false, true, true, true, false, false, false, false] rfl rfl (any_of HT_.out (by kernel_rfl)) (fun _ _ _ h => h) (Or.inl ⟨by rfl, ?_⟩) ?_ ?_
                                          rotate_left
                                          · intro w'
                                            go_simp
                                            with_reducible rfl
                                          rotate_left
                                          · simp only [Act.put, List.setIfInBounds_toArray, List.set_cons_zero, List.set_cons_succ, i64_w, i32_w]
                                            rfl
                                          refine take_ (i := 8) (N := some 87) (v := ?_) (a' := ?_) #[true, true, false, true, true, true, true, true, true, false, true, true, true, false, false, false, false] rfl rfl (take_ofW HT_.out HW_.out (by kernel_rfl)) (fun _ _ _ h => h) (Or.inl ⟨by rfl, ?_⟩) hHeld ?_ ?_
                                          rotate_left
                                          · rintro w' ⟨s0, s1⟩
                                            go_simp
                                            with_reducible rfl
                                          rotate_left
                                          · simp only [Act.put, List.setIfInBounds_toArray, List.set_cons_zero, List.set_cons_succ, i64_w, i32_w]
                                            rfl
                                          refine take_ (i := 13) (N := some 92) (v := ?_) (a' := ?_) #[true, true, false, true, true, true, true, true, true, false, true, true, true, true, false, false, false] rfl rfl (take_ofW HT_.out HW_.out (by kernel_rfl)) (fun _ _ _ h => h) (Or.inl ⟨by rfl, ?_⟩) hHeld ?_ ?_
                                          rotate_left
                                          · rintro w' ⟨s0, s1⟩
                                            go_simp
                                            with_reducible rfl
                                          rotate_left
                                          · simp only [Act.put, List.setIfInBounds_toArray, List.set_cons_zero, List.set_cons_succ, i64_w, i32_w]
                                            rfl
                                          refine one_ (i := 2) (N := some 81) #[true, true, true, true, true, true, true, true, true, false, true, true, true, true, false, false, false] rfl rfl (one_of HT_.out (by kernel_rfl)) (by decide) (fun K hK => ?_)
                                          refine goes_ Tryd.func24 (by kernel_rfl) rfl #[.int .u8 a2] (by rfl) rfl rfl (by (try simp only [List.map_toArray, List.map_cons, List.map_nil]); first | done | rfl | (simp only [List.length_drop, List.length_take]; rfl)) ?_
                                          with_reducible refine (laws_kind9.calls a2 t195 _ A28.out).mono ?_
                                          rintro e w' ⟨rfl, ⟨nd, rfl⟩⟩
                                          refine ⟨_, rfl, ?_⟩
                                          refine hK.out _ _ ⟨((HB.out.cell (World.block_lt_of_cell? w _ hw196_0)).trans hw196_0), ((HB.out.cell (World.block_lt_of_cell? w _ hw198_0)).trans hw198_0)⟩ (fun hHeld => ?_)
                                          clear hK K
                                          refine norm_ (a' := ?_) ?_ ?_
                                          rotate_left
                                          · show Act.put _ (some 81) _ = _
                                            simp only [Act.put, List.setIfInBounds_toArray, List.set_cons_zero, List.set_cons_succ, i64_w, i32_w]
                                            rfl
                                          refine one_ (i := 9) (N := some 88) #[true, true, true, true, true, true, true, true, true, true, true, true, true, true, false, false, false] rfl rfl (one_of HT_.out (by kernel_rfl)) (by decide) (fun K hK => ?_)
                                          refine goes_ Tryd.func32 (by kernel_rfl) rfl #[.int .i64 t195, .int .i64 (wrap64 (x9_3 + 1)), .string (rdOf ByteArray.empty l1 x9_3)] (by rfl) rfl rfl (by (try simp only [List.map_toArray, List.map_cons, List.map_nil]); first | done | rfl | (simp only [List.length_drop, List.length_take]; rfl)) ?_
                                          with_reducible refine (spec_Mark.calls kj12 t195 (wrap64 (x9_3 + 1)) (rdOf ByteArray.empty l1 x9_3) t197 _ A29.out).mono ?_
                                          rintro e w34 ⟨rfl, hb⟩
                                          refine ⟨_, rfl, ?_⟩
                                          have n0_ := Aside0.mk (below_step (by repeat (first | (with_reducible first | exact HB.out | apply below_alloc | apply pw_below_drewN | apply below_drew1) | exact HB.out)) hb)
                                          clear HB
                                          have HB := n0_
                                          clear n0_
                                          (try clear hb)
                                          (try clear hb2)
                                          (try clear hk)
                                          (try clear hi)
                                          refine hK.out _ _ ⟨((HB.out.cell (World.block_lt_of_cell? w _ hw196_0)).trans hw196_0), ((HB.out.cell (World.block_lt_of_cell? w _ hw198_0)).trans hw198_0)⟩ (fun hHeld => ?_)
                                          clear hK K
                                          refine norm_ (a' := ?_) ?_ ?_
                                          rotate_left
                                          · show Act.put _ (some 88) _ = _
                                            simp only [Act.put, List.setIfInBounds_toArray, List.set_cons_zero, List.set_cons_succ, i64_w, i32_w]
                                            rfl
                                          refine pure_ (i := 14) (N := some 93) (v := ?_) (a' := ?_) #[true, true, true, true, true, true, true, true, true, true, true, true, true, true, true, false, false] rfl rfl (any_of HT_.out (by kernel_rfl)) (fun _ _ _ h => h) (Or.inl ⟨by rfl, ?_⟩) ?_ ?_
                                          rotate_left
                                          · intro w'
                                            go_simp
                                            with_reducible rfl
                                          rotate_left
                                          · simp only [Act.put, List.setIfInBounds_toArray, List.set_cons_zero, List.set_cons_succ, i64_w, i32_w]
                                            rfl
                                          refine pure_ (i := 15) (N := some 94) (v := ?_) (a' := ?_) #[true, true, true, true, true, true, true, true, true, true, true, true, true, true, true, true, false] rfl rfl (any_of HT_.out (by kernel_rfl)) (fun _ _ _ h => h) (Or.inl ⟨by rfl, ?_⟩) ?_ ?_
                                          rotate_left
                                          · intro w'
                                            go_simp
                                            with_reducible rfl
                                          rotate_left
                                          · simp only [Act.put, List.setIfInBounds_toArray, List.set_cons_zero, List.set_cons_succ, i64_w, i32_w]
                                            rfl
                                          refine pure_ (i := 16) (N := some 8) (v := ?_) (a' := ?_) #[true, true, true, true, true, true, true, true, true, true, true, true, true, true, true, true, true] rfl rfl (any_of HT_.out (by kernel_rfl)) (fun _ _ _ h => h) (Or.inl ⟨by rfl, ?_⟩) ?_ ?_
                                          rotate_left
                                          · intro w'
                                            go_simp
                                            with_reducible rfl
                                          rotate_left
                                          · simp only [Act.put, List.setIfInBounds_toArray, List.set_cons_zero, List.set_cons_succ, i64_w, i32_w]
                                            rfl
                                          refine done_ (done_of HT_.out (by kernel_rfl)) ?_
                                          try go_wp2
                                          go_roundg kj12
                                          case measure => have := HJ3.out; have := HJ8.out; have := HK3.out; have := HJ12.out; omega
                                          case rel => exact ⟨(x7_3 ++ (((⟨#[58]⟩ : ByteArray) ++ (rdOf ByteArray.empty l1 x9_3)) ++ (rdOf ByteArray.empty l0 x9_3))), (x8_3 ++ (t197 ++ (rdOf ByteArray.empty l0 x9_3))), (wrap64 (x9_3 + 1)), (by first | rfl | (simp; done) | (simp [*]; done)), (by first | rfl | (simp; done) | (simp [*]; done)), (by first | rfl | (simp; done) | (simp [*]; done)), H', ⟨by have := HJ3.out; have := HJ8.out; have := HK3.out; have := HJ12.out; omega⟩, ⟨by repeat (first | (with_reducible first | exact HB.out | apply below_alloc | apply pw_below_drewN | apply below_drew1) | exact HB.out)⟩⟩
                                        · rw [if_neg c31] at H
                                          exact absurd H (by simp)
                                      · rw [if_neg c30] at H
                                        exact absurd H (by simp)
                                    · rw [if_neg c27] at H
                                      exact absurd H (by simp)
                                  · rw [if_neg c26] at H
                                    exact absurd H (by simp)
                                · rw [if_neg c25] at H
                                  exact absurd H (by simp)
                              · rw [if_neg c24] at H
                                exact absurd H (by simp)
                            · rw [if_neg c23] at H
                              exact absurd H (by simp)
                          · rw [if_neg c22] at H
                            exact absurd H (by simp)
                  · rw [if_neg c12] at H
                    have c12b0 : decide (x9_3 < (l1.length : Int)) = false := decide_eq_false c12
                    clear c12
                    replace H := Option.bind_eq_some_iff.mp H
                    obtain ⟨t180, A350, H⟩ := H
                    replace H : ((impl_Compiled.f t180 x7_3).bind fun bt181 => (if bt181.2.2 = true then (if bt181.1.toList = x8_3.toList then ((laws_sameTexts9.f k3 bt181.2.1 l1).bind fun t186 => (some t186)) else (some false)) else (some false))) = some r := H
                    have A35 := Aside0.mk A350
                    clear A350
                    replace H := Option.bind_eq_some_iff.mp H
                    obtain ⟨⟨t181, t182, t183⟩, A360, H⟩ := H
                    replace H : (if t183 = true then (if t181.toList = x8_3.toList then ((laws_sameTexts9.f k3 t182 l1).bind fun t186 => (some t186)) else (some false)) else (some false)) = some r := H
                    have A36 := Aside0.mk A360
                    clear A360
                    by_cases c37 : t183 = true
                    · subst c37
                      have H1 : (if t181.toList = x8_3.toList then ((laws_sameTexts9.f k3 t182 l1).bind fun t186 => (some t186)) else (some false)) = some r := by rw [if_pos rfl] at H; exact H
                      clear H
                      have H := H1
                      clear H1
                      by_cases c38 : t181.toList = x8_3.toList
                      · rw [if_pos c38] at H
                        have c38b0 : (t181.toList == x8_3.toList) = true := beq_iff_eq.mpr c38
                        have c38b1 : (t181.toList != x8_3.toList) = false := bne_eq_false_iff_eq.mpr c38
                        clear c38
                        replace H := Option.bind_eq_some_iff.mp H
                        obtain ⟨t186, A390, H⟩ := H
                        replace H : (some t186) = some r := H
                        have A39 := Aside0.mk A390
                        clear A390
                        obtain rfl := Option.some.inj H
                        go_wp2_with (first | ((with_reducible refine gate_callee (f := 24) rfl ?_); refine goesL_ (some 97) rfl rfl Tryd.func24 (by kernel_rfl) rfl #[.int .u8 a2] rfl (by (try simp only [List.map_toArray, List.map_cons, List.map_nil]); first | done | rfl | (simp only [List.length_drop, List.length_take]; rfl)) ?_; (with_reducible refine (laws_kind9.calls a2 t180 _ A35.out).mono ?_); rintro e w' ⟨rfl, ⟨nd, rfl⟩⟩; refine ⟨_, rfl, ?_⟩) | ((with_reducible refine gate_callee (f := 27) rfl ?_); refine goesL_ (some 99) rfl rfl Tryd.func27 (by kernel_rfl) rfl #[.int .i64 t180, .string x7_3] rfl (by (try simp only [List.map_toArray, List.map_cons, List.map_nil]); first | done | rfl | (simp only [List.length_drop, List.length_take]; rfl)) ?_; (with_reducible refine (impl_Compiled.calls t180 x7_3 t181 t182 true _ (tab_at HT_.out (by repeat (first | (with_reducible first | exact HB.out | apply below_alloc | apply pw_below_drewN | apply below_drew1) | exact HB.out))) A36.out).mono ?_); rintro e w40 ⟨v184, rfl, ho0, hb⟩; refine ⟨_, rfl, ?_⟩; have n0_ := Aside0.mk (Kd.R_lower ho0 (below_size (by repeat (first | (with_reducible first | exact HB.out | apply below_alloc | apply pw_below_drewN | apply below_drew1) | exact HB.out)))); have n1_ := Aside0.mk (below_step (by repeat (first | (with_reducible first | exact HB.out | apply below_alloc | apply pw_below_drewN | apply below_drew1) | exact HB.out)) hb); clear HB; have HO185 := n0_; have HB := n1_; clear n0_ n1_; (try clear hb); (try clear hb2); (try clear hk); (try clear hi); (try clear ho0); obtain ⟨Ao41, co41, eo41⟩ := Kd.R_slice HO185.out; subst eo41) | (go_at_call 28; (with_reducible refine (laws_sameTexts9.calls k3 _ _ t182 _ _ l1 t186 _ ?side1 ?side2 ?side3 ?side4 A39.out).mono ?_); (case side1 => repeat (first | exact (Kd.R_reads' HO185.out).2.2 | (with_reducible refine Kd.C_alloc ?_ _) | (with_reducible refine Kd.C_drewN ?_ _) | (with_reducible refine Kd.C_drew ?_))); (case side2 => exact (Kd.R_reads' HO185.out).2.1); (case side3 => repeat (first | exact (Kd.C_below HR1.out HB.out) | (with_reducible refine Kd.C_alloc ?_ _) | (with_reducible refine Kd.C_drewN ?_ _) | (with_reducible refine Kd.C_drew ?_))); (case side4 => exact HC1.out); rintro e w' ⟨rfl, ⟨nd, rfl⟩⟩))
                        go_ret
                        exact ⟨by first | rfl | (simp [errW_none, errW_some] <;> rfl) | (simp [*, errW_none, errW_some] <;> rfl), by repeat (first | (with_reducible first | exact HB.out | apply below_alloc | apply pw_below_drewN | apply below_drew1) | exact HB.out)⟩
                      · rw [if_neg c38] at H
                        have c38b0 : (t181.toList == x8_3.toList) = false := beq_eq_false_iff_ne.mpr c38
                        have c38b1 : (t181.toList != x8_3.toList) = true := bne_iff_ne.mpr c38
                        obtain rfl := Option.some.inj H
                        go_wp2_with (first | ((with_reducible refine gate_callee (f := 24) rfl ?_); refine goesL_ (some 97) rfl rfl Tryd.func24 (by kernel_rfl) rfl #[.int .u8 a2] rfl (by (try simp only [List.map_toArray, List.map_cons, List.map_nil]); first | done | rfl | (simp only [List.length_drop, List.length_take]; rfl)) ?_; (with_reducible refine (laws_kind9.calls a2 t180 _ A35.out).mono ?_); rintro e w' ⟨rfl, ⟨nd, rfl⟩⟩; refine ⟨_, rfl, ?_⟩) | ((with_reducible refine gate_callee (f := 27) rfl ?_); refine goesL_ (some 99) rfl rfl Tryd.func27 (by kernel_rfl) rfl #[.int .i64 t180, .string x7_3] rfl (by (try simp only [List.map_toArray, List.map_cons, List.map_nil]); first | done | rfl | (simp only [List.length_drop, List.length_take]; rfl)) ?_; (with_reducible refine (impl_Compiled.calls t180 x7_3 t181 t182 true _ (tab_at HT_.out (by repeat (first | (with_reducible first | exact HB.out | apply below_alloc | apply pw_below_drewN | apply below_drew1) | exact HB.out))) A36.out).mono ?_); rintro e w42 ⟨v184, rfl, ho0, hb⟩; refine ⟨_, rfl, ?_⟩; have n0_ := Aside0.mk (Kd.R_lower ho0 (below_size (by repeat (first | (with_reducible first | exact HB.out | apply below_alloc | apply pw_below_drewN | apply below_drew1) | exact HB.out)))); have n1_ := Aside0.mk (below_step (by repeat (first | (with_reducible first | exact HB.out | apply below_alloc | apply pw_below_drewN | apply below_drew1) | exact HB.out)) hb); clear HB; have HO185 := n0_; have HB := n1_; clear n0_ n1_; (try clear hb); (try clear hb2); (try clear hk); (try clear hi); (try clear ho0)))
                        go_ret
                        exact ⟨by first | rfl | (simp [errW_none, errW_some] <;> rfl) | (simp [*, errW_none, errW_some] <;> rfl), by repeat (first | (with_reducible first | exact HB.out | apply below_alloc | apply pw_below_drewN | apply below_drew1) | exact HB.out)⟩
                    · replace c37 := Bool.eq_false_iff.mpr c37
                      subst c37
                      have H1 : (some false) = some r := by rw [if_neg (show ¬ (false = true) by decide)] at H; exact H
                      clear H
                      have H := H1
                      clear H1
                      obtain rfl := Option.some.inj H
                      go_wp2_with (first | ((with_reducible refine gate_callee (f := 24) rfl ?_); refine goesL_ (some 97) rfl rfl Tryd.func24 (by kernel_rfl) rfl #[.int .u8 a2] rfl (by (try simp only [List.map_toArray, List.map_cons, List.map_nil]); first | done | rfl | (simp only [List.length_drop, List.length_take]; rfl)) ?_; (with_reducible refine (laws_kind9.calls a2 t180 _ A35.out).mono ?_); rintro e w' ⟨rfl, ⟨nd, rfl⟩⟩; refine ⟨_, rfl, ?_⟩) | ((with_reducible refine gate_callee (f := 27) rfl ?_); refine goesL_ (some 99) rfl rfl Tryd.func27 (by kernel_rfl) rfl #[.int .i64 t180, .string x7_3] rfl (by (try simp only [List.map_toArray, List.map_cons, List.map_nil]); first | done | rfl | (simp only [List.length_drop, List.length_take]; rfl)) ?_; (with_reducible refine (impl_Compiled.calls t180 x7_3 t181 t182 false _ (tab_at HT_.out (by repeat (first | (with_reducible first | exact HB.out | apply below_alloc | apply pw_below_drewN | apply below_drew1) | exact HB.out))) A36.out).mono ?_); rintro e w43 ⟨v184, rfl, ho0, hb⟩; refine ⟨_, rfl, ?_⟩; have n0_ := Aside0.mk (Kd.R_lower ho0 (below_size (by repeat (first | (with_reducible first | exact HB.out | apply below_alloc | apply pw_below_drewN | apply below_drew1) | exact HB.out)))); have n1_ := Aside0.mk (below_step (by repeat (first | (with_reducible first | exact HB.out | apply below_alloc | apply pw_below_drewN | apply below_drew1) | exact HB.out)) hb); clear HB; have HO185 := n0_; have HB := n1_; clear n0_ n1_; (try clear hb); (try clear hb2); (try clear hk); (try clear hi); (try clear ho0)))
                      go_ret
                      exact ⟨by first | rfl | (simp [errW_none, errW_some] <;> rfl) | (simp [*, errW_none, errW_some] <;> rfl), by repeat (first | (with_reducible first | exact HB.out | apply below_alloc | apply pw_below_drewN | apply below_drew1) | exact HB.out)⟩

end Go.Proofs.YtnmhoghmhglimaaDoor.QC
