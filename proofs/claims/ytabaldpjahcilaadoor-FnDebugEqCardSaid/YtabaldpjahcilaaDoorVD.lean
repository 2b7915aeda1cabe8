/-
  MERGED BY A PROGRAM OF THIS SESSION (wip/pack.py): QD0, QD1, QD2, QD3, QD4, QD5, QD8, QD9.
-/
import Derived.Test.YtabaldpjahcilaaDoorProg
import Derived.Below
import Derived.Deep.Draws
import Derived.Deep.AppendLies
import Derived.Maps.AppendAt
import Derived.OwnWalk
import Derived.Laws.BytesArg
import Derived.Laws.MakeOwn
import Derived.Laws.OwnMore
import Derived.Deep.OwnRows
import Derived.Tactics
import Derived.Lib.ConvBytes
import Derived.Laws.Slices
import Derived.WalkKit
import Derived.KernelRfl
import Derived.RowKit3
import Derived.Deep.LoopGhost
import Derived.Deep.QuietTactic
import Derived.BigQuiet
import Derived.WideLaws
import Derived.Deep.DeepCutAuto
import Derived.Deep.CutBlock
import Derived.Deep.RegionHeld3
import Derived.Laws.Rows
import Derived.Lib.AppendStr
import Derived.ArgAppend
import Derived.Laws.IdiomCopy
import Derived.OrdersHeld
import Derived.Laws.BitsLemmas
import Derived.RowKit
import Derived.Test.YtabaldpjahcilaaDoorVA
-- WRITTEN BY A PROGRAM OF THIS SESSION (wip/print2.py): the print, with contracts of this session's own let in. Not trusted: Lean checks it.
namespace Go.Proofs.YtabaldpjahcilaaDoor.QD
open Go.RowKit Go.Proofs.YtabaldpjahcilaaDoorW.PrintWords Go.Proofs.YtabaldpjahcilaaDoorW.PrintLast Go.Proofs.YtabaldpjahcilaaDoorW.PrintMore
attribute [local go_sem] max2_int min2_int max_two min_two max_three min_three max_four min_four   -- for this text's walks alone
set_option linter.unusedVariables false
set_option linter.unusedSimpArgs false



def errW : Option Int → Value
  | none => .nilIface
  | some c => .iface 0 (.int .i64 c)
theorem errW_none : errW none = .nilIface := rfl
theorem errW_some (c : Int) : errW (some c) = .iface 0 (.int .i64 c) := rfl

-- the values' own types
/-! #### struct type 27, nested in itself -/
structure S27 where
  f0 : Int
  f1 : Int
  f2 : ByteArray
  f3 : (List S27)
def z27 : S27 := ⟨(0 : Int), (0 : Int), (⟨#[]⟩ : ByteArray), ([] : List S27)⟩
def F27 (d : Kd S27) : Kd S27 := Kd.iso (Kd.pair (Kd.int .i64) (Kd.pair (Kd.int .i64) (Kd.pair Kd.string (Kd.slice 27 d)))) (fun x : S27 => (x.f0, x.f1, x.f2, x.f3))
theorem mono27 : Kd.Mono F27 := Kd.mono_iso _ (Kd.mono_pair (Kd.mono_const _) (Kd.mono_pair (Kd.mono_const _) (Kd.mono_pair (Kd.mono_const _) (Kd.mono_slice 27 Kd.mono_id))))
theorem sub27 : Kd.Sub F27 [27] := Kd.sub_iso _ (Kd.sub_pair (Kd.sub_const _ (by decide)) (Kd.sub_pair (Kd.sub_const _ (by decide)) (Kd.sub_pair (Kd.sub_const _ (by decide)) (Kd.sub_slice 27 (by decide) Kd.sub_id))))
theorem sz27 : ∀ n, (Kd.upto F27 4 [27] n).sz = 4 := Kd.upto_sz (fun _ => rfl)
def k27 : Kd S27 := Kd.fix F27 4 [27] sz27 (Kd.upto_E sub27)
theorem k27_open {w : World} {x : S27} {cs : List Value} (h : k27.K w x cs) : ∃ A3 c3, cs = [.int .i64 x.f0, .int .i64 x.f1, .string x.f2, .slice A3 x.f3.length c3] ∧ x.f3.length ≤ c3 ∧ k27.C w A3 x.f3.length x.f3 := by
  obtain ⟨n, h⟩ := h
  cases n with
  | zero => exact h.elim
  | succ n =>
    obtain ⟨_, _, rfl, rfl, ⟨_, _, rfl, rfl, ⟨_, _, rfl, rfl, ⟨A3, c3, rfl, l3, g3⟩⟩⟩⟩ := h
    exact ⟨A3, c3, rfl, l3, Kd.fix_C g3⟩
theorem k27_mk (w : World) (x : S27) {A3 : Option Addr} {c3 : Nat} (l3 : x.f3.length ≤ c3) (g3 : k27.C w A3 x.f3.length x.f3) : k27.K w x [.int .i64 x.f0, .int .i64 x.f1, .string x.f2, .slice A3 x.f3.length c3] := by
  obtain ⟨n3, q3⟩ := Kd.fix_C_back mono27 g3
  have r3 := Kd.upto_C_le mono27 sz27 (show n3 ≤ n3 by omega) q3
  exact ⟨n3 + 1, ⟨[.int .i64 x.f0], [.int .i64 x.f1, .string x.f2, .slice A3 x.f3.length c3], rfl, rfl, ⟨[.int .i64 x.f1], [.string x.f2, .slice A3 x.f3.length c3], rfl, rfl, ⟨[.string x.f2], [.slice A3 x.f3.length c3], rfl, rfl, ⟨A3, c3, rfl, l3, r3⟩⟩⟩⟩⟩
theorem k27_mkM (w : World) (base : Nat) (ok : Nat → Prop) (x : S27) {v3 : Value} (g3 : k27.R 27 w base ok v3 x.f3) : k27.M w base ok x [.int .i64 x.f0, .int .i64 x.f1, .string x.f2, v3] := by
  obtain ⟨n3, q3⟩ := Kd.fix_R_back mono27 g3
  have r3 := Kd.upto_R_le mono27 sz27 (show n3 ≤ n3 by omega) q3
  exact ⟨n3 + 1, ⟨[.int .i64 x.f0], [.int .i64 x.f1, .string x.f2, v3], rfl, rfl, ⟨[.int .i64 x.f1], [.string x.f2, v3], rfl, rfl, ⟨[.string x.f2], [v3], rfl, rfl, ⟨v3, rfl, r3⟩⟩⟩⟩⟩
theorem k27_mkF (W : World) (ok : Nat → Prop) (x : S27) {A3 : Option Addr} {c3 : Nat} (l3 : x.f3.length ≤ c3) (g3 : Kd.F k27 W ok A3 x.f3.length x.f3) : Kd.FK k27 W ok x [.int .i64 x.f0, .int .i64 x.f1, .string x.f2, .slice A3 x.f3.length c3] := fun W2 hW => k27_mk W2 x l3 (g3 W2 hW)
def rd_T27 (xs : List S27) (i : Int) : S27 := xs.getD i.toNat z27
theorem at_T27 {w : World} {A : Option Addr} {n : Nat} {xs : List S27} (h : Kd.C k27 w A n xs) (i : Int) (h0 : 0 ≤ i) (h1 : i < n) : ∃ ad A3 c3, A = some ad ∧ w.cell? (ad.add (i.toNat * 4)) = some (.int .i64 (rd_T27 xs i).f0) ∧ w.cell? ⟨(ad.add (i.toNat * 4)).block, (ad.add (i.toNat * 4)).off + 1, none⟩ = some (.int .i64 (rd_T27 xs i).f1) ∧ w.cell? ⟨(ad.add (i.toNat * 4)).block, (ad.add (i.toNat * 4)).off + 2, none⟩ = some (.string (rd_T27 xs i).f2) ∧ w.cell? ⟨(ad.add (i.toNat * 4)).block, (ad.add (i.toNat * 4)).off + 3, none⟩ = some (.slice A3 (rd_T27 xs i).f3.length c3) ∧ (rd_T27 xs i).f3.length ≤ c3 ∧ k27.C w A3 (rd_T27 xs i).f3.length (rd_T27 xs i).f3 := by
  obtain ⟨ad, c, e, _, hK, hc0⟩ := Kd.C_get h z27 i h0 h1
  have hc : ∀ j u, c[j]? = some u → w.cell? (ad.add (i.toNat * 4 + j)) = some u := hc0
  obtain ⟨A3, c3, rfl, l3, g3⟩ := k27_open hK
  exact ⟨ad, A3, c3, e, hc 0 _ rfl, by rw [← add_field _ _ 1 (by omega)]; exact hc 1 _ rfl, by rw [← add_field _ _ 2 (by omega)]; exact hc 2 _ rfl, by rw [← add_field _ _ 3 (by omega)]; exact hc 3 _ rfl, l3, g3⟩

def rd_L3 (xs : List (List S27)) (i : Int) : (List S27) := xs.getD i.toNat ([] : List S27)
def rd_L5 (xs : List (List ByteArray)) (i : Int) : (List ByteArray) := xs.getD i.toNat ([] : List ByteArray)
end Go.Proofs.YtabaldpjahcilaaDoor.QD
-- WRITTEN BY A PROGRAM OF THIS SESSION (wip/print2.py): the print, with contracts of this session's own let in. Not trusted: Lean checks it.
namespace Go.Proofs.YtabaldpjahcilaaDoor.QD
open Go.RowKit Go.Proofs.YtabaldpjahcilaaDoorW.PrintWords Go.Proofs.YtabaldpjahcilaaDoorW.PrintLast Go.Proofs.YtabaldpjahcilaaDoorW.PrintMore
attribute [local go_sem] max2_int min2_int max_two min_two max_three min_three max_four min_four   -- for this text's walks alone
set_option linter.unusedVariables false
set_option linter.unusedSimpArgs false

/-! ### spec_flat: function 32 -/
def spec_flat.f (a0_0 : Int) (a0_1 : Int) (a0_2 : ByteArray) (l0_3 : List (S27)) : Option (Bool) := if a0_0 ≥ 0 then (if a0_0 ≤ 4 then (if (l0_3.length : Int) = 0 then (if a0_1 = 0 then (if a0_2.toList = ([] : List UInt8) then (some (decide ((a0_2.size : Int) ≤ 200))) else (if a0_0 = 2 then (some (decide ((a0_2.size : Int) ≤ 200))) else (some false))) else (if a0_0 = 1 then (if a0_2.toList = ([] : List UInt8) then (some (decide ((a0_2.size : Int) ≤ 200))) else (if a0_0 = 2 then (some (decide ((a0_2.size : Int) ≤ 200))) else (some false))) else (some false))) else (some false)) else (some false)) else (some false)
end Go.Proofs.YtabaldpjahcilaaDoor.QD
-- WRITTEN BY A PROGRAM OF THIS SESSION (wip/print2.py): the print, with contracts of this session's own let in. Not trusted: Lean checks it.
namespace Go.Proofs.YtabaldpjahcilaaDoor.QD
open Go.RowKit Go.Proofs.YtabaldpjahcilaaDoorW.PrintWords Go.Proofs.YtabaldpjahcilaaDoorW.PrintLast Go.Proofs.YtabaldpjahcilaaDoorW.PrintMore
attribute [local go_sem] max2_int min2_int max_two min_two max_three min_three max_four min_four   -- for this text's walks alone
set_option linter.unusedVariables false
set_option linter.unusedSimpArgs false

/-! ### spec_ArgumentRight: function 23 -/
mutual
def spec_ArgumentRight.j0 : Nat → Bool → Int → Int → ByteArray → List (S27) → Option (Bool)
  | 0, _, _, _, _, _ => none
  | k + 1, x22, x103000, x103001, x103002, x103003 => if x22 = true then (some false) else (spec_ArgumentRight.l0 k 0 x103000 x103001 x103002 x103003)
def spec_ArgumentRight.l0 : Nat → Int → Int → Int → ByteArray → List (S27) → Option (Bool)
  | 0, _, _, _, _, _ => none
  | k + 1, x3, x103000, x103001, x103002, x103003 => if x3 < (x103003.length : Int) then (if 0 ≤ x3 then (if ((rd_T27 x103003 x3).f0) = 5 then (some false) else ((spec_flat.f ((rd_T27 x103003 x3).f0) ((rd_T27 x103003 x3).f1) ((rd_T27 x103003 x3).f2) ((rd_T27 x103003 x3).f3)).bind fun t106 => (if t106 = true then (spec_ArgumentRight.l0 k (wrap64 (x3 + 1)) x103000 x103001 x103002 x103003) else (some false)))) else (none)) else (some true)
end
def spec_ArgumentRight.f (k : Nat) (a0_0 : Int) (a0_1 : Int) (a0_2 : ByteArray) (l0_3 : List (S27)) : Option (Bool) := if a0_0 = 5 then (if a0_1 = 0 then (if a0_2.toList = ([] : List UInt8) then (spec_ArgumentRight.j0 k (decide ((l0_3.length : Int) > 20)) a0_0 a0_1 a0_2 l0_3) else (spec_ArgumentRight.j0 k true a0_0 a0_1 a0_2 l0_3)) else (spec_ArgumentRight.j0 k true a0_0 a0_1 a0_2 l0_3)) else ((spec_flat.f a0_0 a0_1 a0_2 l0_3).bind fun t103 => (some t103))
end Go.Proofs.YtabaldpjahcilaaDoor.QD
-- WRITTEN BY A PROGRAM OF THIS SESSION (wip/print2.py): the print, with contracts of this session's own let in. Not trusted: Lean checks it.
namespace Go.Proofs.YtabaldpjahcilaaDoor.QD
open Go.RowKit Go.Proofs.YtabaldpjahcilaaDoorW.PrintWords Go.Proofs.YtabaldpjahcilaaDoorW.PrintLast Go.Proofs.YtabaldpjahcilaaDoorW.PrintMore
attribute [local go_sem] max2_int min2_int max_two min_two max_three min_three max_four min_four   -- for this text's walks alone
set_option linter.unusedVariables false
set_option linter.unusedSimpArgs false

/-! ### laws_args9: function 14 -/
def laws_args9.l0 : Nat → List (S27) → Int → Option (Bool)
  | 0, _, _ => none
  | k + 1, x0, x3 => if x3 < (x0.length : Int) then (if 0 ≤ x3 then ((spec_ArgumentRight.f k ((rd_T27 x0 x3).f0) ((rd_T27 x0 x3).f1) ((rd_T27 x0 x3).f2) ((rd_T27 x0 x3).f3)).bind fun t108 => (if t108 = true then (laws_args9.l0 k x0 (wrap64 (x3 + 1))) else (some false))) else (none)) else (some true)
def laws_args9.f (k : Nat) (l0 : List (S27)) : Option (Bool) := if (l0.length : Int) > 50 then (some false) else (laws_args9.l0 k l0 0)
/-! ### laws_single9: function 6 -/
def laws_single9.l0 : Nat → List (S27) → Int → Option (Bool)
  | 0, _, _ => none
  | k + 1, x0, x3 => if x3 < (x0.length : Int) then (if 0 ≤ x3 then (if ((rd_T27 x0 x3).f0) = 5 then (some false) else (laws_single9.l0 k x0 (wrap64 (x3 + 1)))) else (none)) else ((laws_args9.f k x0).bind fun t110 => (some t110))
def laws_single9.f (k : Nat) (l0 : List (S27)) : Option (Bool) := laws_single9.l0 k l0 0
end Go.Proofs.YtabaldpjahcilaaDoor.QD
-- WRITTEN BY A PROGRAM OF THIS SESSION (wip/print2.py): the print, with contracts of this session's own let in. Not trusted: Lean checks it.
namespace Go.Proofs.YtabaldpjahcilaaDoor.QD
open Go.RowKit Go.Proofs.YtabaldpjahcilaaDoorW.PrintWords Go.Proofs.YtabaldpjahcilaaDoorW.PrintLast Go.Proofs.YtabaldpjahcilaaDoorW.PrintMore
attribute [local go_sem] max2_int min2_int max_two min_two max_three min_three max_four min_four   -- for this text's walks alone
set_option linter.unusedVariables false
set_option linter.unusedSimpArgs false

/-! ### spec_Marks: function 7 -/
def spec_Marks.l0 : Nat → ByteArray → Int → Int → Option (Int)
  | 0, _, _, _ => none
  | k + 1, x0, x3, x4 => if x4 < (x0.size : Int) then (if 0 ≤ x4 then (if (bt x0 x4) = 63 then (if (wrap64 (x4 + 1)) < (x0.size : Int) then (if 0 ≤ (wrap64 (x4 + 1)) then (if (bt x0 (wrap64 (x4 + 1))) = 63 then (spec_Marks.l0 k x0 x3 (wrap64 ((wrap64 (x4 + 1)) + 1))) else (spec_Marks.l0 k x0 (wrap64 (x3 + 1)) (wrap64 (x4 + 1)))) else (none)) else (spec_Marks.l0 k x0 (wrap64 (x3 + 1)) (wrap64 (x4 + 1)))) else (spec_Marks.l0 k x0 x3 (wrap64 (x4 + 1)))) else (none)) else (some x3)
def spec_Marks.f (k : Nat) (a0 : ByteArray) : Option (Int) := spec_Marks.l0 k a0 0 0
-- BY HAND: function 8 (impl_Debug)

/-! ### spec_decimal: function 29 -/
mutual
def spec_decimal.l0 : Nat → Int → ByteArray → Option (ByteArray)
  | 0, _, _ => none
  | k + 1, x0, x3 => if x0 > 9 then ((some (([(wrap64 (48 + (Int.tmod x0 10))) % 256] : List Int) : List Int)).bind fun y112 => (if (strOfNums y112).size + x3.size ≤ 9223372036854775807 then (spec_decimal.l0 k (wrap64 (Int.tdiv x0 10)) ((strOfNums y112) ++ x3)) else (none))) else ((some (([(wrap64 (48 + x0)) % 256] : List Int) : List Int)).bind fun y115 => (if (strOfNums y115).size + x3.size ≤ 9223372036854775807 then (some ((strOfNums y115) ++ x3)) else (none)))
def spec_decimal.f : Nat → Int → Option (ByteArray)
  | 0, _ => none
  | k + 1, a0 => if a0 < 0 then (if a0 = (wrap64 (-a0)) then (some (⟨#[45, 57, 50, 50, 51, 51, 55, 50, 48, 51, 54, 56, 53, 52, 55, 55, 53, 56, 48, 56]⟩ : ByteArray)) else ((spec_decimal.f k (wrap64 (-a0))).bind fun t111 => (if 1 + t111.size ≤ 9223372036854775807 then (some ((⟨#[45]⟩ : ByteArray) ++ t111)) else (none)))) else (spec_decimal.l0 k a0 (⟨#[]⟩ : ByteArray))
end
set_option maxHeartbeats 8000000 in
set_option maxRecDepth 100000 in
theorem spec_decimal.calls (k : Nat) : ∀ (a0 : Int) (r : ByteArray) (w : World) (h : spec_decimal.f k a0 = some r),
    Calls Tryd.prog 29 #[.int .i64 a0] w fun e w' => e = .returned (.string r) ∧ Below w.heap.size w w' := by
  induction k using Nat.strongRecOn with
  | _ k ih =>
  intro a0 r w h
  cases k with
  | zero => exact absurd h (by simp [spec_decimal.f])
  | succ k =>
  simp only [spec_decimal.f] at h
  have HB := Aside0.mk (Below.refl w.heap.size w)
  have H : (if a0 < 0 then (if a0 = (wrap64 (-a0)) then (some (⟨#[45, 57, 50, 50, 51, 51, 55, 50, 48, 51, 54, 56, 53, 52, 55, 55, 53, 56, 48, 56]⟩ : ByteArray)) else ((spec_decimal.f k (wrap64 (-a0))).bind fun t111 => (if 1 + t111.size ≤ 9223372036854775807 then (some ((⟨#[45]⟩ : ByteArray) ++ t111)) else (none)))) else (spec_decimal.l0 k a0 (⟨#[]⟩ : ByteArray))) = some r := h
  clear h
  by_cases c2 : a0 < 0
  · rw [if_pos c2] at H
    have c2b0 : decide (a0 < 0) = true := decide_eq_true c2
    clear c2
    by_cases c3 : a0 = (wrap64 (-a0))
    · rw [if_pos c3] at H
      have c3b0 : (a0 == (wrap64 (-a0))) = true := beq_iff_eq.mpr c3
      have c3b1 : (a0 != (wrap64 (-a0))) = false := bne_eq_false_iff_eq.mpr c3
      clear c3
      obtain rfl := Option.some.inj H
      go_enter Tryd.func29, Tryd.ntmps29
      go_wp2
      go_ret
      exact ⟨by first | rfl | (simp [errW_none, errW_some] <;> rfl) | (simp [*, errW_none, errW_some] <;> rfl), by repeat (first | (with_reducible first | exact HB.out | apply below_alloc | apply pw_below_drewN | apply below_drew1) | exact HB.out)⟩
    · rw [if_neg c3] at H
      have c3b0 : (a0 == (wrap64 (-a0))) = false := beq_eq_false_iff_ne.mpr c3
      have c3b1 : (a0 != (wrap64 (-a0))) = true := bne_iff_ne.mpr c3
      replace H := Option.bind_eq_some_iff.mp H
      obtain ⟨t111, A40, H⟩ := H
      replace H : (if 1 + t111.size ≤ 9223372036854775807 then (some ((⟨#[45]⟩ : ByteArray) ++ t111)) else (none)) = some r := H
      have A4 := Aside0.mk A40
      clear A40
      by_cases c5 : 1 + t111.size ≤ 9223372036854775807
      · rw [if_pos c5] at H
        have c5b0 := eq_true c5
        have c5b1 : decide (1 + t111.size ≤ 9223372036854775807) = true := decide_eq_true c5
        try have c5b2 : (9223372036854775807 < 1 + t111.size) = False := eq_false (Nat.not_lt.2 c5)
        obtain rfl := Option.some.inj H
        go_enter Tryd.func29, Tryd.ntmps29
        go_wp2_with (first | ((with_reducible refine gate_callee (f := 29) rfl ?_); refine goesL_ (some 12) rfl rfl Tryd.func29 (by kernel_rfl) rfl #[.int .i64 (wrap64 (-a0))] rfl (by (try simp only [List.map_toArray, List.map_cons, List.map_nil]); first | done | rfl | (simp only [List.length_drop, List.length_take]; rfl)) ?_; (with_reducible refine (ih k (by omega) (wrap64 (-a0)) t111 _ A4.out).mono ?_); rintro e w6 ⟨rfl, hb⟩; refine ⟨_, rfl, ?_⟩; have n0_ := Aside0.mk (below_step (by repeat (first | (with_reducible first | exact HB.out | apply below_alloc | apply pw_below_drewN | apply below_drew1) | exact HB.out)) hb); clear HB; have HB := n0_; clear n0_; (try clear hb); (try clear hb2); (try clear hk); (try clear hi)))
        go_ret
        exact ⟨by first | rfl | (simp [errW_none, errW_some] <;> rfl) | (simp [*, errW_none, errW_some] <;> rfl), by repeat (first | (with_reducible first | exact HB.out | apply below_alloc | apply pw_below_drewN | apply below_drew1) | exact HB.out)⟩
      · rw [if_neg c5] at H
        exact absurd H (by simp)
  · rw [if_neg c2] at H
    have c2b0 : decide (a0 < 0) = false := decide_eq_false c2
    clear c2
    have H' := Aside0.mk H
    clear H
    go_enter Tryd.func29, Tryd.ntmps29
    go_wp2
    go_loopg [0, 3] k (fun kq v0 v3 w' => ∃ (x0_1 : Int) (x3_1 : ByteArray), v0 = .int .i64 x0_1 ∧ v3 = .string x3_1 ∧ Aside0 (spec_decimal.l0 kq x0_1 x3_1 = some r) ∧ Aside0 (kq ≤ k) ∧ Aside0 (Below w.heap.size w w'))
    case atStart => exact ⟨(a0), ((⟨#[]⟩ : ByteArray)), (by first | rfl | (simp; done) | (simp [*]; done)), (by first | rfl | (simp; done) | (simp [*]; done)), H', ⟨Nat.le_refl _⟩, ⟨by repeat (first | (with_reducible first | exact HB.out | apply below_alloc | apply pw_below_drewN | apply below_drew1) | exact HB.out)⟩⟩
    case round =>
      clear H'
      try clear c2
      try clear c2b0
      try clear p2
      try clear c3
      try clear c3b0
      try clear c3b1
      try clear c5
      try clear c5b0
      try clear c5b1
      try clear c5b2
      try clear p6
      obtain ⟨x0_1, x3_1, rfl, rfl, HA, HK1, HB⟩ := hrel
      cases gk with
      | zero => exact absurd HA.out (by simp [spec_decimal.l0])
      | succ k1 =>
        have H := HA.out
        clear HA
        simp only [spec_decimal.l0] at H
        by_cases c7 : x0_1 > 9
        · rw [if_pos c7] at H
          have c7b0 : decide (9 < x0_1) = true := decide_eq_true c7
          clear c7
          obtain ⟨y112, hy112⟩ : ∃ y_ : List Int, y_ = (([(wrap64 (48 + (Int.tmod x0_1 10))) % 256] : List Int)) := ⟨_, rfl⟩
          replace H : (if (strOfNums y112).size + x3_1.size ≤ 9223372036854775807 then (spec_decimal.l0 k1 (wrap64 (Int.tdiv x0_1 10)) ((strOfNums y112) ++ x3_1)) else (none)) = some r := by first | (rw [hy112]; with_reducible exact H) | (have H2_ := (Option.bind_some _ _).symm.trans H; rw [hy112]; with_reducible exact H2_) | (have H2_ := (Option.bind_some _ _).symm.trans H; with_reducible exact H2_) | with_reducible exact H | (rw [hy112]; exact H) | exact H
          have Ny112 := Aside0.mk hy112
          clear hy112
          by_cases c8 : (strOfNums y112).size + x3_1.size ≤ 9223372036854775807
          · rw [if_pos c8] at H
            have c8b0 := eq_true c8
            have c8b1 : decide ((strOfNums y112).size + x3_1.size ≤ 9223372036854775807) = true := decide_eq_true c8
            try have c8b2 : (9223372036854775807 < (strOfNums y112).size + x3_1.size) = False := eq_false (Nat.not_lt.2 c8)
            have H' := Aside0.mk H
            clear H
            go_wp2_with (first | ((with_reducible refine gate_dst (N := 20) rfl ?_); refine Kd.R_lit (Kd.int .u8) _ 5 ?hg (N := 20) ?hd (xs := ([(wrap64 (48 + (Int.tmod x0_1 10))) % 256] : List Int)) (inner := [.int .u8 ((wrap64 (48 + (Int.tmod x0_1 10))) % 256)]) (ok := fun _ => True) (okp := fun _ => True) ?hr ?hp (fun _ hk => hk) trivial (Below.refl _ _) (Nat.le_refl _) (by simp) ?_; (case hd => rfl); (case hg => rfl); (case hr => first | (go_simp; done) | (go_simp; rfl)); (case hp => exact (Reps.one (show Kd.M (Kd.int .u8) _ _ _ ((wrap64 (48 + (Int.tmod x0_1 10))) % 256) [.int .u8 ((wrap64 (48 + (Int.tmod x0_1 10))) % 256)] from rfl) (Reps.none _ _))); intro v113 w9 ho10 hb hg_ hnew_; clear hg_ hnew_; (first | rw [← Ny112.out] at ho10 | (simp only [Int.reduceToNat] at ho10; rw [← Ny112.out] at ho10)); have n0_ := Aside0.mk (Kd.R_lower ho10 (below_size (by repeat (first | (with_reducible first | exact HB.out | apply below_alloc | apply pw_below_drewN | apply below_drew1) | exact HB.out)))); have n1_ := Aside0.mk (below_step (by repeat (first | (with_reducible first | exact HB.out | apply below_alloc | apply pw_below_drewN | apply below_drew1) | exact HB.out)) hb); clear HB; have HO114 := n0_; have HB := n1_; clear n0_ n1_; clear hb ho10; have hcv11 := own_string (P := Tryd.prog) Tryd.underlying61 Tryd.underlying5 Tryd.underlying9 (Kd.own_of_R HO114.out)))
            go_roundg k1
            case measure => have := HK1.out; omega
            case rel => exact ⟨(wrap64 (Int.tdiv x0_1 10)), ((strOfNums y112) ++ x3_1), (by first | rfl | (simp; done) | (simp [*]; done)), (by first | rfl | (simp; done) | (simp [*]; done)), H', ⟨by have := HK1.out; omega⟩, ⟨by repeat (first | (with_reducible first | exact HB.out | apply below_alloc | apply pw_below_drewN | apply below_drew1) | exact HB.out)⟩⟩
          · rw [if_neg c8] at H
            exact absurd H (by simp)
        · rw [if_neg c7] at H
          have c7b0 : decide (9 < x0_1) = false := decide_eq_false c7
          clear c7
          obtain ⟨y115, hy115⟩ : ∃ y_ : List Int, y_ = (([(wrap64 (48 + x0_1)) % 256] : List Int)) := ⟨_, rfl⟩
          replace H : (if (strOfNums y115).size + x3_1.size ≤ 9223372036854775807 then (some ((strOfNums y115) ++ x3_1)) else (none)) = some r := by first | (rw [hy115]; with_reducible exact H) | (have H2_ := (Option.bind_some _ _).symm.trans H; rw [hy115]; with_reducible exact H2_) | (have H2_ := (Option.bind_some _ _).symm.trans H; with_reducible exact H2_) | with_reducible exact H | (rw [hy115]; exact H) | exact H
          have Ny115 := Aside0.mk hy115
          clear hy115
          by_cases c12 : (strOfNums y115).size + x3_1.size ≤ 9223372036854775807
          · rw [if_pos c12] at H
            have c12b0 := eq_true c12
            have c12b1 : decide ((strOfNums y115).size + x3_1.size ≤ 9223372036854775807) = true := decide_eq_true c12
            try have c12b2 : (9223372036854775807 < (strOfNums y115).size + x3_1.size) = False := eq_false (Nat.not_lt.2 c12)
            obtain rfl := Option.some.inj H
            go_wp2_with (first | ((with_reducible refine gate_dst (N := 29) rfl ?_); refine Kd.R_lit (Kd.int .u8) _ 5 ?hg (N := 29) ?hd (xs := ([(wrap64 (48 + x0_1)) % 256] : List Int)) (inner := [.int .u8 ((wrap64 (48 + x0_1)) % 256)]) (ok := fun _ => True) (okp := fun _ => True) ?hr ?hp (fun _ hk => hk) trivial (Below.refl _ _) (Nat.le_refl _) (by simp) ?_; (case hd => rfl); (case hg => rfl); (case hr => first | (go_simp; done) | (go_simp; rfl)); (case hp => exact (Reps.one (show Kd.M (Kd.int .u8) _ _ _ ((wrap64 (48 + x0_1)) % 256) [.int .u8 ((wrap64 (48 + x0_1)) % 256)] from rfl) (Reps.none _ _))); intro v116 w13 ho14 hb hg_ hnew_; clear hg_ hnew_; (first | rw [← Ny115.out] at ho14 | (simp only [Int.reduceToNat] at ho14; rw [← Ny115.out] at ho14)); have n0_ := Aside0.mk (Kd.R_lower ho14 (below_size (by repeat (first | (with_reducible first | exact HB.out | apply below_alloc | apply pw_below_drewN | apply below_drew1) | exact HB.out)))); have n1_ := Aside0.mk (below_step (by repeat (first | (with_reducible first | exact HB.out | apply below_alloc | apply pw_below_drewN | apply below_drew1) | exact HB.out)) hb); clear HB; have HO117 := n0_; have HB := n1_; clear n0_ n1_; clear hb ho14; have hcv15 := own_string (P := Tryd.prog) Tryd.underlying61 Tryd.underlying5 Tryd.underlying9 (Kd.own_of_R HO117.out)))
            go_ret
            exact ⟨by first | rfl | (simp [errW_none, errW_some] <;> rfl) | (simp [*, errW_none, errW_some] <;> rfl), by repeat (first | (with_reducible first | exact HB.out | apply below_alloc | apply pw_below_drewN | apply below_drew1) | exact HB.out)⟩
          · rw [if_neg c12] at H
            exact absurd H (by simp)

end Go.Proofs.YtabaldpjahcilaaDoor.QD
-- WRITTEN BY A PROGRAM OF THIS SESSION (wip/print2.py): the print, with contracts of this session's own let in. Not trusted: Lean checks it.
namespace Go.Proofs.YtabaldpjahcilaaDoor.QD
open Go.RowKit Go.Proofs.YtabaldpjahcilaaDoorW.PrintWords Go.Proofs.YtabaldpjahcilaaDoorW.PrintLast Go.Proofs.YtabaldpjahcilaaDoorW.PrintMore
attribute [local go_sem] max2_int min2_int max_two min_two max_three min_three max_four min_four   -- for this text's walks alone
set_option linter.unusedVariables false
set_option linter.unusedSimpArgs false

/-! ### spec_shown: function 18 -/
def spec_shown.f (k : Nat) (a0_0 : Int) (a0_1 : Int) (a0_2 : ByteArray) (l0_3 : List (S27)) : Option (ByteArray) := if a0_0 = 1 then ((spec_decimal.f k a0_1).bind fun t119 => (some t119)) else (if a0_0 = 2 then (some a0_2) else (if a0_0 = 3 then (some (⟨#[116, 114, 117, 101]⟩ : ByteArray)) else (if a0_0 = 4 then (some (⟨#[102, 97, 108, 115, 101]⟩ : ByteArray)) else (some (⟨#[60, 110, 105, 108, 62]⟩ : ByteArray)))))
set_option maxHeartbeats 8000000 in
set_option maxRecDepth 100000 in
theorem spec_shown.calls (k : Nat) (a0_0 : Int) (a0_1 : Int) (a0_2 : ByteArray) (A0_3 : Option Addr) (c0_3 : Nat) (l0_3 : List (S27)) (r : ByteArray) (w : World) (hr0_3 : Kd.C k27 w A0_3 l0_3.length l0_3) (hc0_3 : l0_3.length ≤ c0_3) (h : spec_shown.f k a0_0 a0_1 a0_2 l0_3 = some r) :
    Calls Tryd.prog 18 #[.agg #[.int .i64 a0_0, .int .i64 a0_1, .string a0_2, .slice A0_3 l0_3.length c0_3]] w fun e w' => e = .returned (.string r) ∧ Below w.heap.size w w' := by
  have hu27 := Tryd.underlying27
  have HR0_3 := Aside0.mk hr0_3
  have HC0_3 := Aside0.mk hc0_3
  clear hr0_3 hc0_3
  have HB := Aside0.mk (Below.refl w.heap.size w)
  have H : (if a0_0 = 1 then ((spec_decimal.f k a0_1).bind fun t119 => (some t119)) else (if a0_0 = 2 then (some a0_2) else (if a0_0 = 3 then (some (⟨#[116, 114, 117, 101]⟩ : ByteArray)) else (if a0_0 = 4 then (some (⟨#[102, 97, 108, 115, 101]⟩ : ByteArray)) else (some (⟨#[60, 110, 105, 108, 62]⟩ : ByteArray)))))) = some r := h
  clear h
  by_cases c2 : a0_0 = 1
  · rw [if_pos c2] at H
    have c2b0 : (a0_0 == 1) = true := beq_iff_eq.mpr c2
    have c2b1 : (a0_0 != 1) = false := bne_eq_false_iff_eq.mpr c2
    clear c2
    replace H := Option.bind_eq_some_iff.mp H
    obtain ⟨t119, A30, H⟩ := H
    replace H : (some t119) = some r := H
    have A3 := Aside0.mk A30
    clear A30
    obtain rfl := Option.some.inj H
    go_enter Tryd.func18, Tryd.ntmps18
    go_wp2_with (first | ((with_reducible refine gate_dst (N := 1) rfl ?_); refine box_event ?hg (N := 1) ?hd (cs := #[.int .i64 a0_0, .int .i64 a0_1, .string a0_2, .slice A0_3 l0_3.length c0_3]) (t := 27) ?hr ?_; (case hd => rfl); (case hg => rfl); (case hr => first | (go_simp; done) | (go_simp; rfl)); intro gb118 hg w4 hbox hb; have n0_ := Aside0.mk (below_step (by repeat (first | (with_reducible first | exact HB.out | apply below_alloc | apply pw_below_drewN | apply below_drew1) | exact HB.out)) hb); have n1_ := Aside0.mk (hbox); have n2_ := Aside0.mk ((by rw [hg]; exact (below_size (by repeat (first | (with_reducible first | exact HB.out | apply below_alloc | apply pw_below_drewN | apply below_drew1) | exact HB.out))) : w.heap.size ≤ gb118)); have n3_ := Aside0.mk ((by rw [hg]; exact (below_size (by repeat (first | (with_reducible first | exact HB.out | apply below_alloc | apply pw_below_drewN | apply below_drew1) | exact HB.out))) : w.heap.size ≤ gb118)); clear HB; have HB := n0_; have BK118 := n1_; have GW118 := n2_; have GE118 := n3_; clear n0_ n1_ n2_ n3_; clear hb hbox hg; have hcz5_0 : w4.cell? ⟨gb118, 0, none⟩ = some (.int .i64 a0_0) := (blk_cell BK118.out 0).trans rfl; have hcz5_1 : w4.cell? ⟨gb118, 1, none⟩ = some (.int .i64 a0_1) := (blk_cell BK118.out 1).trans rfl; have hcz5_2 : w4.cell? ⟨gb118, 2, none⟩ = some (.string a0_2) := (blk_cell BK118.out 2).trans rfl; have hcz5_3 : w4.cell? ⟨gb118, 3, none⟩ = some (.slice A0_3 l0_3.length c0_3) := (blk_cell BK118.out 3).trans rfl; have hfz5_0 := blk_frozen BK118.out 0; have hfz5_1 := blk_frozen BK118.out 1; have hfz5_2 := blk_frozen BK118.out 2; have hfz5_3 := blk_frozen BK118.out 3) | ((with_reducible refine gate_callee (f := 29) rfl ?_); refine goesL_ (some 9) rfl rfl Tryd.func29 (by kernel_rfl) rfl #[.int .i64 a0_1] rfl (by (try simp only [List.map_toArray, List.map_cons, List.map_nil]); first | done | rfl | (simp only [List.length_drop, List.length_take]; rfl)) ?_; (with_reducible refine (spec_decimal.calls k a0_1 t119 _ A3.out).mono ?_); rintro e w6 ⟨rfl, hb⟩; refine ⟨_, rfl, ?_⟩; have n0_ := Aside0.mk (blk_below (g := gb118) (o := .cells #[.int .i64 a0_0, .int .i64 a0_1, .string a0_2, .slice A0_3 l0_3.length c0_3] 27 (0, 0)) (by (with_reducible repeat (first | refine blk_drewN ?_ _ | refine blk_drew ?_ | refine blk_alloc ?_ _)); exact BK118.out) hb); have n1_ := Aside0.mk (below_step (by repeat (first | (with_reducible first | exact HB.out | apply below_alloc | apply pw_below_drewN | apply below_drew1 | refine below_set ?_ GE118.out) | exact HB.out)) hb); clear BK118; clear HB; have BK118 := n0_; have HB := n1_; clear n0_ n1_; (try clear hb); (try clear hb2); (try clear hk); (try clear hi)))
    go_ret
    exact ⟨by first | rfl | (simp [errW_none, errW_some] <;> rfl) | (simp [*, errW_none, errW_some] <;> rfl), by repeat (first | (with_reducible first | exact HB.out | apply below_alloc | apply pw_below_drewN | apply below_drew1 | refine below_set ?_ GE118.out) | exact HB.out)⟩
  · rw [if_neg c2] at H
    have c2b0 : (a0_0 == 1) = false := beq_eq_false_iff_ne.mpr c2
    have c2b1 : (a0_0 != 1) = true := bne_iff_ne.mpr c2
    by_cases c7 : a0_0 = 2
    · rw [if_pos c7] at H
      have c7b0 : (a0_0 == 2) = true := beq_iff_eq.mpr c7
      have c7b1 : (a0_0 != 2) = false := bne_eq_false_iff_eq.mpr c7
      clear c7
      obtain rfl := Option.some.inj H
      go_enter Tryd.func18, Tryd.ntmps18
      go_wp2_with (first | ((with_reducible refine gate_dst (N := 1) rfl ?_); refine box_event ?hg (N := 1) ?hd (cs := #[.int .i64 a0_0, .int .i64 a0_1, .string a0_2, .slice A0_3 l0_3.length c0_3]) (t := 27) ?hr ?_; (case hd => rfl); (case hg => rfl); (case hr => first | (go_simp; done) | (go_simp; rfl)); intro gb118 hg w8 hbox hb; have n0_ := Aside0.mk (below_step (by repeat (first | (with_reducible first | exact HB.out | apply below_alloc | apply pw_below_drewN | apply below_drew1) | exact HB.out)) hb); have n1_ := Aside0.mk (hbox); have n2_ := Aside0.mk ((by rw [hg]; exact (below_size (by repeat (first | (with_reducible first | exact HB.out | apply below_alloc | apply pw_below_drewN | apply below_drew1) | exact HB.out))) : w.heap.size ≤ gb118)); have n3_ := Aside0.mk ((by rw [hg]; exact (below_size (by repeat (first | (with_reducible first | exact HB.out | apply below_alloc | apply pw_below_drewN | apply below_drew1) | exact HB.out))) : w.heap.size ≤ gb118)); clear HB; have HB := n0_; have BK118 := n1_; have GW118 := n2_; have GE118 := n3_; clear n0_ n1_ n2_ n3_; clear hb hbox hg; have hcz9_0 : w8.cell? ⟨gb118, 0, none⟩ = some (.int .i64 a0_0) := (blk_cell BK118.out 0).trans rfl; have hcz9_1 : w8.cell? ⟨gb118, 1, none⟩ = some (.int .i64 a0_1) := (blk_cell BK118.out 1).trans rfl; have hcz9_2 : w8.cell? ⟨gb118, 2, none⟩ = some (.string a0_2) := (blk_cell BK118.out 2).trans rfl; have hcz9_3 : w8.cell? ⟨gb118, 3, none⟩ = some (.slice A0_3 l0_3.length c0_3) := (blk_cell BK118.out 3).trans rfl; have hfz9_0 := blk_frozen BK118.out 0; have hfz9_1 := blk_frozen BK118.out 1; have hfz9_2 := blk_frozen BK118.out 2; have hfz9_3 := blk_frozen BK118.out 3))
      go_ret
      exact ⟨by first | rfl | (simp [errW_none, errW_some] <;> rfl) | (simp [*, errW_none, errW_some] <;> rfl), by repeat (first | (with_reducible first | exact HB.out | apply below_alloc | apply pw_below_drewN | apply below_drew1 | refine below_set ?_ GE118.out) | exact HB.out)⟩
    · rw [if_neg c7] at H
      have c7b0 : (a0_0 == 2) = false := beq_eq_false_iff_ne.mpr c7
      have c7b1 : (a0_0 != 2) = true := bne_iff_ne.mpr c7
      by_cases c10 : a0_0 = 3
      · rw [if_pos c10] at H
        have c10b0 : (a0_0 == 3) = true := beq_iff_eq.mpr c10
        have c10b1 : (a0_0 != 3) = false := bne_eq_false_iff_eq.mpr c10
        clear c10
        obtain rfl := Option.some.inj H
        go_enter Tryd.func18, Tryd.ntmps18
        go_wp2_with (first | ((with_reducible refine gate_dst (N := 1) rfl ?_); refine box_event ?hg (N := 1) ?hd (cs := #[.int .i64 a0_0, .int .i64 a0_1, .string a0_2, .slice A0_3 l0_3.length c0_3]) (t := 27) ?hr ?_; (case hd => rfl); (case hg => rfl); (case hr => first | (go_simp; done) | (go_simp; rfl)); intro gb118 hg w11 hbox hb; have n0_ := Aside0.mk (below_step (by repeat (first | (with_reducible first | exact HB.out | apply below_alloc | apply pw_below_drewN | apply below_drew1) | exact HB.out)) hb); have n1_ := Aside0.mk (hbox); have n2_ := Aside0.mk ((by rw [hg]; exact (below_size (by repeat (first | (with_reducible first | exact HB.out | apply below_alloc | apply pw_below_drewN | apply below_drew1) | exact HB.out))) : w.heap.size ≤ gb118)); have n3_ := Aside0.mk ((by rw [hg]; exact (below_size (by repeat (first | (with_reducible first | exact HB.out | apply below_alloc | apply pw_below_drewN | apply below_drew1) | exact HB.out))) : w.heap.size ≤ gb118)); clear HB; have HB := n0_; have BK118 := n1_; have GW118 := n2_; have GE118 := n3_; clear n0_ n1_ n2_ n3_; clear hb hbox hg; have hcz12_0 : w11.cell? ⟨gb118, 0, none⟩ = some (.int .i64 a0_0) := (blk_cell BK118.out 0).trans rfl; have hcz12_1 : w11.cell? ⟨gb118, 1, none⟩ = some (.int .i64 a0_1) := (blk_cell BK118.out 1).trans rfl; have hcz12_2 : w11.cell? ⟨gb118, 2, none⟩ = some (.string a0_2) := (blk_cell BK118.out 2).trans rfl; have hcz12_3 : w11.cell? ⟨gb118, 3, none⟩ = some (.slice A0_3 l0_3.length c0_3) := (blk_cell BK118.out 3).trans rfl; have hfz12_0 := blk_frozen BK118.out 0; have hfz12_1 := blk_frozen BK118.out 1; have hfz12_2 := blk_frozen BK118.out 2; have hfz12_3 := blk_frozen BK118.out 3))
        go_ret
        exact ⟨by first | rfl | (simp [errW_none, errW_some] <;> rfl) | (simp [*, errW_none, errW_some] <;> rfl), by repeat (first | (with_reducible first | exact HB.out | apply below_alloc | apply pw_below_drewN | apply below_drew1 | refine below_set ?_ GE118.out) | exact HB.out)⟩
      · rw [if_neg c10] at H
        have c10b0 : (a0_0 == 3) = false := beq_eq_false_iff_ne.mpr c10
        have c10b1 : (a0_0 != 3) = true := bne_iff_ne.mpr c10
        by_cases c13 : a0_0 = 4
        · rw [if_pos c13] at H
          have c13b0 : (a0_0 == 4) = true := beq_iff_eq.mpr c13
          have c13b1 : (a0_0 != 4) = false := bne_eq_false_iff_eq.mpr c13
          clear c13
          obtain rfl := Option.some.inj H
          go_enter Tryd.func18, Tryd.ntmps18
          go_wp2_with (first | ((with_reducible refine gate_dst (N := 1) rfl ?_); refine box_event ?hg (N := 1) ?hd (cs := #[.int .i64 a0_0, .int .i64 a0_1, .string a0_2, .slice A0_3 l0_3.length c0_3]) (t := 27) ?hr ?_; (case hd => rfl); (case hg => rfl); (case hr => first | (go_simp; done) | (go_simp; rfl)); intro gb118 hg w14 hbox hb; have n0_ := Aside0.mk (below_step (by repeat (first | (with_reducible first | exact HB.out | apply below_alloc | apply pw_below_drewN | apply below_drew1) | exact HB.out)) hb); have n1_ := Aside0.mk (hbox); have n2_ := Aside0.mk ((by rw [hg]; exact (below_size (by repeat (first | (with_reducible first | exact HB.out | apply below_alloc | apply pw_below_drewN | apply below_drew1) | exact HB.out))) : w.heap.size ≤ gb118)); have n3_ := Aside0.mk ((by rw [hg]; exact (below_size (by repeat (first | (with_reducible first | exact HB.out | apply below_alloc | apply pw_below_drewN | apply below_drew1) | exact HB.out))) : w.heap.size ≤ gb118)); clear HB; have HB := n0_; have BK118 := n1_; have GW118 := n2_; have GE118 := n3_; clear n0_ n1_ n2_ n3_; clear hb hbox hg; have hcz15_0 : w14.cell? ⟨gb118, 0, none⟩ = some (.int .i64 a0_0) := (blk_cell BK118.out 0).trans rfl; have hcz15_1 : w14.cell? ⟨gb118, 1, none⟩ = some (.int .i64 a0_1) := (blk_cell BK118.out 1).trans rfl; have hcz15_2 : w14.cell? ⟨gb118, 2, none⟩ = some (.string a0_2) := (blk_cell BK118.out 2).trans rfl; have hcz15_3 : w14.cell? ⟨gb118, 3, none⟩ = some (.slice A0_3 l0_3.length c0_3) := (blk_cell BK118.out 3).trans rfl; have hfz15_0 := blk_frozen BK118.out 0; have hfz15_1 := blk_frozen BK118.out 1; have hfz15_2 := blk_frozen BK118.out 2; have hfz15_3 := blk_frozen BK118.out 3))
          go_ret
          exact ⟨by first | rfl | (simp [errW_none, errW_some] <;> rfl) | (simp [*, errW_none, errW_some] <;> rfl), by repeat (first | (with_reducible first | exact HB.out | apply below_alloc | apply pw_below_drewN | apply below_drew1 | refine below_set ?_ GE118.out) | exact HB.out)⟩
        · rw [if_neg c13] at H
          have c13b0 : (a0_0 == 4) = false := beq_eq_false_iff_ne.mpr c13
          have c13b1 : (a0_0 != 4) = true := bne_iff_ne.mpr c13
          obtain rfl := Option.some.inj H
          go_enter Tryd.func18, Tryd.ntmps18
          go_wp2_with (first | ((with_reducible refine gate_dst (N := 1) rfl ?_); refine box_event ?hg (N := 1) ?hd (cs := #[.int .i64 a0_0, .int .i64 a0_1, .string a0_2, .slice A0_3 l0_3.length c0_3]) (t := 27) ?hr ?_; (case hd => rfl); (case hg => rfl); (case hr => first | (go_simp; done) | (go_simp; rfl)); intro gb118 hg w16 hbox hb; have n0_ := Aside0.mk (below_step (by repeat (first | (with_reducible first | exact HB.out | apply below_alloc | apply pw_below_drewN | apply below_drew1) | exact HB.out)) hb); have n1_ := Aside0.mk (hbox); have n2_ := Aside0.mk ((by rw [hg]; exact (below_size (by repeat (first | (with_reducible first | exact HB.out | apply below_alloc | apply pw_below_drewN | apply below_drew1) | exact HB.out))) : w.heap.size ≤ gb118)); have n3_ := Aside0.mk ((by rw [hg]; exact (below_size (by repeat (first | (with_reducible first | exact HB.out | apply below_alloc | apply pw_below_drewN | apply below_drew1) | exact HB.out))) : w.heap.size ≤ gb118)); clear HB; have HB := n0_; have BK118 := n1_; have GW118 := n2_; have GE118 := n3_; clear n0_ n1_ n2_ n3_; clear hb hbox hg; have hcz17_0 : w16.cell? ⟨gb118, 0, none⟩ = some (.int .i64 a0_0) := (blk_cell BK118.out 0).trans rfl; have hcz17_1 : w16.cell? ⟨gb118, 1, none⟩ = some (.int .i64 a0_1) := (blk_cell BK118.out 1).trans rfl; have hcz17_2 : w16.cell? ⟨gb118, 2, none⟩ = some (.string a0_2) := (blk_cell BK118.out 2).trans rfl; have hcz17_3 : w16.cell? ⟨gb118, 3, none⟩ = some (.slice A0_3 l0_3.length c0_3) := (blk_cell BK118.out 3).trans rfl; have hfz17_0 := blk_frozen BK118.out 0; have hfz17_1 := blk_frozen BK118.out 1; have hfz17_2 := blk_frozen BK118.out 2; have hfz17_3 := blk_frozen BK118.out 3))
          go_ret
          exact ⟨by first | rfl | (simp [errW_none, errW_some] <;> rfl) | (simp [*, errW_none, errW_some] <;> rfl), by repeat (first | (with_reducible first | exact HB.out | apply below_alloc | apply pw_below_drewN | apply below_drew1 | refine below_set ?_ GE118.out) | exact HB.out)⟩

/-! ### spec_Debug: function 9 -/
def spec_Debug.l0 : Nat → ByteArray → List (S27) → ByteArray → Int → Int → Option (ByteArray)
  | 0, _, _, _, _, _ => none
  | k + 1, x0, x1, x5, x6, x7 => if x7 < (x0.size : Int) then (if 0 ≤ x7 then (if (bt x0 x7) = 63 then (if (wrap64 (x7 + 1)) < (x0.size : Int) then (if 0 ≤ (wrap64 (x7 + 1)) then (if (bt x0 (wrap64 (x7 + 1))) = 63 then (if x5.size + 1 ≤ 9223372036854775807 then (spec_Debug.l0 k x0 x1 (x5 ++ (⟨#[63]⟩ : ByteArray)) x6 (wrap64 ((wrap64 (x7 + 1)) + 1))) else (none)) else (if 0 ≤ x6 then (if x6 < (x1.length : Int) then ((spec_shown.f k ((rd_T27 x1 x6).f0) ((rd_T27 x1 x6).f1) ((rd_T27 x1 x6).f2) ((rd_T27 x1 x6).f3)).bind fun t121 => (if 1 + t121.size ≤ 9223372036854775807 then (if ((⟨#[39]⟩ : ByteArray) ++ t121).size + 1 ≤ 9223372036854775807 then (if x5.size + (((⟨#[39]⟩ : ByteArray) ++ t121) ++ (⟨#[39]⟩ : ByteArray)).size ≤ 9223372036854775807 then (spec_Debug.l0 k x0 x1 (x5 ++ (((⟨#[39]⟩ : ByteArray) ++ t121) ++ (⟨#[39]⟩ : ByteArray))) (wrap64 (x6 + 1)) (wrap64 (x7 + 1))) else (none)) else (none)) else (none))) else (none)) else (none))) else (none)) else (if 0 ≤ x6 then (if x6 < (x1.length : Int) then ((spec_shown.f k ((rd_T27 x1 x6).f0) ((rd_T27 x1 x6).f1) ((rd_T27 x1 x6).f2) ((rd_T27 x1 x6).f3)).bind fun t123 => (if 1 + t123.size ≤ 9223372036854775807 then (if ((⟨#[39]⟩ : ByteArray) ++ t123).size + 1 ≤ 9223372036854775807 then (if x5.size + (((⟨#[39]⟩ : ByteArray) ++ t123) ++ (⟨#[39]⟩ : ByteArray)).size ≤ 9223372036854775807 then (spec_Debug.l0 k x0 x1 (x5 ++ (((⟨#[39]⟩ : ByteArray) ++ t123) ++ (⟨#[39]⟩ : ByteArray))) (wrap64 (x6 + 1)) (wrap64 (x7 + 1))) else (none)) else (none)) else (none))) else (none)) else (none))) else (if x7 ≤ (wrap64 (x7 + 1)) then (if (wrap64 (x7 + 1)) ≤ (x0.size : Int) then (if x5.size + (x0.extract (x7 : Int).toNat ((wrap64 (x7 + 1)) : Int).toNat).size ≤ 9223372036854775807 then (spec_Debug.l0 k x0 x1 (x5 ++ (x0.extract (x7 : Int).toNat ((wrap64 (x7 + 1)) : Int).toNat)) x6 (wrap64 (x7 + 1))) else (none)) else (none)) else (none))) else (none)) else (some x5)
def spec_Debug.f (k : Nat) (a0 : ByteArray) (l1 : List (S27)) : Option (ByteArray) := spec_Debug.l0 k a0 l1 (⟨#[]⟩ : ByteArray) 0 0
set_option maxHeartbeats 8000000 in
set_option maxRecDepth 100000 in
theorem spec_Debug.calls (k : Nat) (a0 : ByteArray) (A1 : Option Addr) (c1 : Nat) (l1 : List (S27)) (r : ByteArray) (w : World) (hr1 : Kd.C k27 w A1 l1.length l1) (hc1 : l1.length ≤ c1) (h : spec_Debug.f k a0 l1 = some r) :
    Calls Tryd.prog 9 #[.string a0, .slice A1 l1.length c1] w fun e w' => e = .returned (.string r) ∧ Below w.heap.size w w' := by
  have hu27 := Tryd.underlying27
  have HR1 := Aside0.mk hr1
  have HC1 := Aside0.mk hc1
  clear hr1 hc1
  have HB := Aside0.mk (Below.refl w.heap.size w)
  have H : (spec_Debug.l0 k a0 l1 (⟨#[]⟩ : ByteArray) 0 0) = some r := h
  clear h
  have H' := Aside0.mk H
  clear H
  go_enter Tryd.func9, Tryd.ntmps9
  go_wp2
  go_loopg [5, 6, 7] k (fun kq v5 v6 v7 w' => ∃ (x5_1 : ByteArray) (x6_1 : Int) (x7_1 : Int), v5 = .string x5_1 ∧ v6 = .int .i64 x6_1 ∧ v7 = .int .i64 x7_1 ∧ Aside0 (spec_Debug.l0 kq a0 l1 x5_1 x6_1 x7_1 = some r) ∧ Aside0 (kq ≤ k) ∧ Aside0 (Below w.heap.size w w'))
  case atStart => exact ⟨((⟨#[]⟩ : ByteArray)), (0), (0), (by first | rfl | (simp; done) | (simp [*]; done)), (by first | rfl | (simp; done) | (simp [*]; done)), (by first | rfl | (simp; done) | (simp [*]; done)), H', ⟨Nat.le_refl _⟩, ⟨by repeat (first | (with_reducible first | exact HB.out | apply below_alloc | apply pw_below_drewN | apply below_drew1) | exact HB.out)⟩⟩
  case round =>
    clear H'
    try clear c1
    try clear p2
    obtain ⟨x5_1, x6_1, x7_1, rfl, rfl, rfl, HA, HK1, HB⟩ := hrel
    cases gk with
    | zero => exact absurd HA.out (by simp [spec_Debug.l0])
    | succ k1 =>
      have H := HA.out
      clear HA
      simp only [spec_Debug.l0] at H
      by_cases c3 : x7_1 < (a0.size : Int)
      · rw [if_pos c3] at H
        have c3b0 : decide (x7_1 < (a0.size : Int)) = true := decide_eq_true c3
        clear c3
        by_cases c4 : 0 ≤ x7_1
        · rw [if_pos c4] at H
          have c4b0 : decide (0 ≤ x7_1) = true := decide_eq_true c4
          clear c4
          by_cases c6 : (bt a0 x7_1) = 63
          · rw [if_pos c6] at H
            have c6b0 : ((bt a0 x7_1) == 63) = true := beq_iff_eq.mpr c6
            have c6b1 : ((bt a0 x7_1) != 63) = false := bne_eq_false_iff_eq.mpr c6
            clear c6
            by_cases c7 : (wrap64 (x7_1 + 1)) < (a0.size : Int)
            · rw [if_pos c7] at H
              have c7b0 : decide ((wrap64 (x7_1 + 1)) < (a0.size : Int)) = true := decide_eq_true c7
              clear c7
              obtain ⟨ji8, hji8⟩ : ∃ j_ : Int, (wrap64 (x7_1 + 1)) = j_ := ⟨_, rfl⟩
              replace H : (if 0 ≤ (ji8) then (if (bt a0 (ji8)) = 63 then (if x5_1.size + 1 ≤ 9223372036854775807 then (spec_Debug.l0 k1 a0 l1 (x5_1 ++ (⟨#[63]⟩ : ByteArray)) x6_1 (wrap64 ((ji8) + 1))) else (none)) else (if 0 ≤ x6_1 then (if x6_1 < (l1.length : Int) then ((spec_shown.f k1 ((rd_T27 l1 x6_1).f0) ((rd_T27 l1 x6_1).f1) ((rd_T27 l1 x6_1).f2) ((rd_T27 l1 x6_1).f3)).bind fun t121 => (if 1 + t121.size ≤ 9223372036854775807 then (if ((⟨#[39]⟩ : ByteArray) ++ t121).size + 1 ≤ 9223372036854775807 then (if x5_1.size + (((⟨#[39]⟩ : ByteArray) ++ t121) ++ (⟨#[39]⟩ : ByteArray)).size ≤ 9223372036854775807 then (spec_Debug.l0 k1 a0 l1 (x5_1 ++ (((⟨#[39]⟩ : ByteArray) ++ t121) ++ (⟨#[39]⟩ : ByteArray))) (wrap64 (x6_1 + 1)) ji8) else (none)) else (none)) else (none))) else (none)) else (none))) else (none)) = some r := by first | (rw [hji8] at H; exact H) | (simp only [hji8] at H ⊢; exact H)
              (try rw [hji8] at c7b0)
              have hji8w : (IntKind.i64.wrap (x7_1 + 1)) = ji8 := (i64_w _).trans hji8
              by_cases c9 : 0 ≤ (ji8)
              · rw [if_pos c9] at H
                have c9b0 : decide (0 ≤ (ji8)) = true := decide_eq_true c9
                clear c9
                by_cases c11 : (bt a0 (ji8)) = 63
                · rw [if_pos c11] at H
                  have c11b0 : ((bt a0 (ji8)) == 63) = true := beq_iff_eq.mpr c11
                  have c11b1 : ((bt a0 (ji8)) != 63) = false := bne_eq_false_iff_eq.mpr c11
                  clear c11
                  by_cases c12 : x5_1.size + 1 ≤ 9223372036854775807
                  · rw [if_pos c12] at H
                    have c12b0 := eq_true c12
                    have c12b1 : decide (x5_1.size + 1 ≤ 9223372036854775807) = true := decide_eq_true c12
                    try have c12b2 : (9223372036854775807 < x5_1.size + 1) = False := eq_false (Nat.not_lt.2 c12)
                    have H' := Aside0.mk H
                    clear H
                    have p5 : 0 ≤ (x7_1 : Int) := of_decide_eq_true (by first | (with_reducible assumption) | assumption)
                    have q5 : x7_1 < (a0.size : Int) := of_decide_eq_true (by first | (with_reducible assumption) | assumption)
                    have hx5 := bt_at a0 x7_1
                    replace p5 := eq_true p5
                    replace q5 := eq_true q5
                    have p10 : 0 ≤ ((ji8) : Int) := of_decide_eq_true (by first | (with_reducible assumption) | assumption)
                    have q10 : (ji8) < (a0.size : Int) := of_decide_eq_true (by first | (with_reducible assumption) | assumption)
                    have hx10 := bt_at a0 (ji8)
                    replace p10 := eq_true p10
                    replace q10 := eq_true q10
                    go_wp2
                    go_roundg k1
                    case measure => have := HK1.out; omega
                    case rel => exact ⟨(x5_1 ++ (⟨#[63]⟩ : ByteArray)), (x6_1), (wrap64 ((ji8) + 1)), (by first | rfl | (simp; done) | (simp [*]; done)), (by first | rfl | (simp; done) | (simp [*]; done)), (by first | rfl | (simp; done) | (simp only [← hji8] <;> (first | rfl | simp)) | (simp [*]; done)), H', ⟨by have := HK1.out; omega⟩, ⟨by repeat (first | (with_reducible first | exact HB.out | apply below_alloc | apply pw_below_drewN | apply below_drew1) | exact HB.out)⟩⟩
                  · rw [if_neg c12] at H
                    exact absurd H (by simp)
                · rw [if_neg c11] at H
                  have c11b0 : ((bt a0 (ji8)) == 63) = false := beq_eq_false_iff_ne.mpr c11
                  have c11b1 : ((bt a0 (ji8)) != 63) = true := bne_iff_ne.mpr c11
                  by_cases c13 : 0 ≤ x6_1
                  · rw [if_pos c13] at H
                    have c13b0 : decide (0 ≤ x6_1) = true := decide_eq_true c13
                    clear c13
                    by_cases c14 : x6_1 < (l1.length : Int)
                    · rw [if_pos c14] at H
                      have c14b0 : decide (x6_1 < (l1.length : Int)) = true := decide_eq_true c14
                      clear c14
                      replace H := Option.bind_eq_some_iff.mp H
                      obtain ⟨t121, A150, H⟩ := H
                      replace H : (if 1 + t121.size ≤ 9223372036854775807 then (if ((⟨#[39]⟩ : ByteArray) ++ t121).size + 1 ≤ 9223372036854775807 then (if x5_1.size + (((⟨#[39]⟩ : ByteArray) ++ t121) ++ (⟨#[39]⟩ : ByteArray)).size ≤ 9223372036854775807 then (spec_Debug.l0 k1 a0 l1 (x5_1 ++ (((⟨#[39]⟩ : ByteArray) ++ t121) ++ (⟨#[39]⟩ : ByteArray))) (wrap64 (x6_1 + 1)) ji8) else (none)) else (none)) else (none)) = some r := H
                      have A15 := Aside0.mk A150
                      clear A150
                      by_cases c16 : 1 + t121.size ≤ 9223372036854775807
                      · rw [if_pos c16] at H
                        have c16b0 := eq_true c16
                        have c16b1 : decide (1 + t121.size ≤ 9223372036854775807) = true := decide_eq_true c16
                        try have c16b2 : (9223372036854775807 < 1 + t121.size) = False := eq_false (Nat.not_lt.2 c16)
                        by_cases c17 : ((⟨#[39]⟩ : ByteArray) ++ t121).size + 1 ≤ 9223372036854775807
                        · rw [if_pos c17] at H
                          have c17b0 := eq_true c17
                          have c17b1 : decide (((⟨#[39]⟩ : ByteArray) ++ t121).size + 1 ≤ 9223372036854775807) = true := decide_eq_true c17
                          try have c17b2 : (9223372036854775807 < ((⟨#[39]⟩ : ByteArray) ++ t121).size + 1) = False := eq_false (Nat.not_lt.2 c17)
                          have c17b3 : (9223372036854775807 < 1 + t121.size + 1) = False := eq_false (Nat.not_lt.2 (by have h := c17; rw [ByteArray.size_append] at h; exact h))
                          by_cases c18 : x5_1.size + (((⟨#[39]⟩ : ByteArray) ++ t121) ++ (⟨#[39]⟩ : ByteArray)).size ≤ 9223372036854775807
                          · rw [if_pos c18] at H
                            have c18b0 := eq_true c18
                            have c18b1 : decide (x5_1.size + (((⟨#[39]⟩ : ByteArray) ++ t121) ++ (⟨#[39]⟩ : ByteArray)).size ≤ 9223372036854775807) = true := decide_eq_true c18
                            try have c18b2 : (9223372036854775807 < x5_1.size + (((⟨#[39]⟩ : ByteArray) ++ t121) ++ (⟨#[39]⟩ : ByteArray)).size) = False := eq_false (Nat.not_lt.2 c18)
                            have c18b3 : (9223372036854775807 < x5_1.size + (1 + t121.size + 1)) = False := eq_false (Nat.not_lt.2 (by have h := c18; rw [ByteArray.size_append, ByteArray.size_append] at h; exact h))
                            have H' := Aside0.mk H
                            clear H
                            have p5 : 0 ≤ (x7_1 : Int) := of_decide_eq_true (by first | (with_reducible assumption) | assumption)
                            have q5 : x7_1 < (a0.size : Int) := of_decide_eq_true (by first | (with_reducible assumption) | assumption)
                            have hx5 := bt_at a0 x7_1
                            replace p5 := eq_true p5
                            replace q5 := eq_true q5
                            have p10 : 0 ≤ ((ji8) : Int) := of_decide_eq_true (by first | (with_reducible assumption) | assumption)
                            have q10 : (ji8) < (a0.size : Int) := of_decide_eq_true (by first | (with_reducible assumption) | assumption)
                            have hx10 := bt_at a0 (ji8)
                            replace p10 := eq_true p10
                            replace q10 := eq_true q10
                            have p120 : 0 ≤ (x6_1 : Int) := of_decide_eq_true (by first | (with_reducible assumption) | assumption)
                            have q120 : x6_1 < (l1.length : Int) := of_decide_eq_true (by first | (with_reducible assumption) | assumption)
                            obtain ⟨ad120, A120_3, c120_3, e120, hx120_0, hx120_1, hx120_2, hx120_3, hl120_3, hi120_3⟩ := at_T27 HR1.out x6_1 p120 q120
                            cases e120
                            replace hx120_0 := (HB.out.cell (World.block_lt_of_cell? w _ hx120_0)).trans hx120_0
                            replace hx120_1 := (HB.out.cell (World.block_lt_of_cell? w _ hx120_1)).trans hx120_1
                            replace hx120_2 := (HB.out.cell (World.block_lt_of_cell? w _ hx120_2)).trans hx120_2
                            replace hx120_3 := (HB.out.cell (World.block_lt_of_cell? w _ hx120_3)).trans hx120_3
                            have HR120_3 := Aside0.mk hi120_3
                            have HC120_3 := Aside0.mk hl120_3
                            clear hi120_3 hl120_3
                            replace p120 := eq_true p120
                            replace q120 := eq_true q120
                            go_wp2_with (first | ((with_reducible refine gate_callee (f := 18) rfl ?_); refine goesL_ (some 19) rfl rfl Tryd.func18 (by kernel_rfl) rfl #[.agg #[.int .i64 ((rd_T27 l1 x6_1).f0), .int .i64 ((rd_T27 l1 x6_1).f1), .string ((rd_T27 l1 x6_1).f2), .slice A120_3 ((rd_T27 l1 x6_1).f3).length c120_3]] rfl (by (try simp only [List.map_toArray, List.map_cons, List.map_nil]); first | done | rfl | (simp only [List.length_drop, List.length_take]; rfl)) ?_; (with_reducible refine (spec_shown.calls k1 ((rd_T27 l1 x6_1).f0) ((rd_T27 l1 x6_1).f1) ((rd_T27 l1 x6_1).f2) _ _ ((rd_T27 l1 x6_1).f3) t121 _ ?side1 ?side2 A15.out).mono ?_); (case side1 => repeat (first | exact (Kd.C_below HR120_3.out HB.out) | (with_reducible refine Kd.C_alloc ?_ _) | (with_reducible refine Kd.C_drewN ?_ _) | (with_reducible refine Kd.C_drew ?_))); (case side2 => exact HC120_3.out); rintro e w19 ⟨rfl, hb⟩; refine ⟨_, rfl, ?_⟩; have n0_ := Aside0.mk (below_step (by repeat (first | (with_reducible first | exact HB.out | apply below_alloc | apply pw_below_drewN | apply below_drew1) | exact HB.out)) hb); clear HB; have HB := n0_; clear n0_; (try clear hb); (try clear hb2); (try clear hk); (try clear hi)))
                            go_roundg k1
                            case measure => have := HK1.out; omega
                            case rel => exact ⟨(x5_1 ++ (((⟨#[39]⟩ : ByteArray) ++ t121) ++ (⟨#[39]⟩ : ByteArray))), (wrap64 (x6_1 + 1)), (ji8), (by first | rfl | (simp; done) | (simp [*]; done)), (by first | rfl | (simp; done) | (simp [*]; done)), (by first | rfl | (simp; done) | (simp only [← hji8] <;> (first | rfl | simp)) | (simp [*]; done)), H', ⟨by have := HK1.out; omega⟩, ⟨by repeat (first | (with_reducible first | exact HB.out | apply below_alloc | apply pw_below_drewN | apply below_drew1) | exact HB.out)⟩⟩
                          · rw [if_neg c18] at H
                            exact absurd H (by simp)
                        · rw [if_neg c17] at H
                          exact absurd H (by simp)
                      · rw [if_neg c16] at H
                        exact absurd H (by simp)
                    · rw [if_neg c14] at H
                      exact absurd H (by simp)
                  · rw [if_neg c13] at H
                    exact absurd H (by simp)
              · rw [if_neg c9] at H
                exact absurd H (by simp)
            · rw [if_neg c7] at H
              have c7b0 : decide ((wrap64 (x7_1 + 1)) < (a0.size : Int)) = false := decide_eq_false c7
              clear c7
              by_cases c20 : 0 ≤ x6_1
              · rw [if_pos c20] at H
                have c20b0 : decide (0 ≤ x6_1) = true := decide_eq_true c20
                clear c20
                by_cases c21 : x6_1 < (l1.length : Int)
                · rw [if_pos c21] at H
                  have c21b0 : decide (x6_1 < (l1.length : Int)) = true := decide_eq_true c21
                  clear c21
                  replace H := Option.bind_eq_some_iff.mp H
                  obtain ⟨t123, A220, H⟩ := H
                  replace H : (if 1 + t123.size ≤ 9223372036854775807 then (if ((⟨#[39]⟩ : ByteArray) ++ t123).size + 1 ≤ 9223372036854775807 then (if x5_1.size + (((⟨#[39]⟩ : ByteArray) ++ t123) ++ (⟨#[39]⟩ : ByteArray)).size ≤ 9223372036854775807 then (spec_Debug.l0 k1 a0 l1 (x5_1 ++ (((⟨#[39]⟩ : ByteArray) ++ t123) ++ (⟨#[39]⟩ : ByteArray))) (wrap64 (x6_1 + 1)) (wrap64 (x7_1 + 1))) else (none)) else (none)) else (none)) = some r := H
                  have A22 := Aside0.mk A220
                  clear A220
                  by_cases c23 : 1 + t123.size ≤ 9223372036854775807
                  · rw [if_pos c23] at H
                    have c23b0 := eq_true c23
                    have c23b1 : decide (1 + t123.size ≤ 9223372036854775807) = true := decide_eq_true c23
                    try have c23b2 : (9223372036854775807 < 1 + t123.size) = False := eq_false (Nat.not_lt.2 c23)
                    by_cases c24 : ((⟨#[39]⟩ : ByteArray) ++ t123).size + 1 ≤ 9223372036854775807
                    · rw [if_pos c24] at H
                      have c24b0 := eq_true c24
                      have c24b1 : decide (((⟨#[39]⟩ : ByteArray) ++ t123).size + 1 ≤ 9223372036854775807) = true := decide_eq_true c24
                      try have c24b2 : (9223372036854775807 < ((⟨#[39]⟩ : ByteArray) ++ t123).size + 1) = False := eq_false (Nat.not_lt.2 c24)
                      have c24b3 : (9223372036854775807 < 1 + t123.size + 1) = False := eq_false (Nat.not_lt.2 (by have h := c24; rw [ByteArray.size_append] at h; exact h))
                      by_cases c25 : x5_1.size + (((⟨#[39]⟩ : ByteArray) ++ t123) ++ (⟨#[39]⟩ : ByteArray)).size ≤ 9223372036854775807
                      · rw [if_pos c25] at H
                        have c25b0 := eq_true c25
                        have c25b1 : decide (x5_1.size + (((⟨#[39]⟩ : ByteArray) ++ t123) ++ (⟨#[39]⟩ : ByteArray)).size ≤ 9223372036854775807) = true := decide_eq_true c25
                        try have c25b2 : (9223372036854775807 < x5_1.size + (((⟨#[39]⟩ : ByteArray) ++ t123) ++ (⟨#[39]⟩ : ByteArray)).size) = False := eq_false (Nat.not_lt.2 c25)
                        have c25b3 : (9223372036854775807 < x5_1.size + (1 + t123.size + 1)) = False := eq_false (Nat.not_lt.2 (by have h := c25; rw [ByteArray.size_append, ByteArray.size_append] at h; exact h))
                        have H' := Aside0.mk H
                        clear H
                        have p5 : 0 ≤ (x7_1 : Int) := of_decide_eq_true (by first | (with_reducible assumption) | assumption)
                        have q5 : x7_1 < (a0.size : Int) := of_decide_eq_true (by first | (with_reducible assumption) | assumption)
                        have hx5 := bt_at a0 x7_1
                        replace p5 := eq_true p5
                        replace q5 := eq_true q5
                        have p122 : 0 ≤ (x6_1 : Int) := of_decide_eq_true (by first | (with_reducible assumption) | assumption)
                        have q122 : x6_1 < (l1.length : Int) := of_decide_eq_true (by first | (with_reducible assumption) | assumption)
                        obtain ⟨ad122, A122_3, c122_3, e122, hx122_0, hx122_1, hx122_2, hx122_3, hl122_3, hi122_3⟩ := at_T27 HR1.out x6_1 p122 q122
                        cases e122
                        replace hx122_0 := (HB.out.cell (World.block_lt_of_cell? w _ hx122_0)).trans hx122_0
                        replace hx122_1 := (HB.out.cell (World.block_lt_of_cell? w _ hx122_1)).trans hx122_1
                        replace hx122_2 := (HB.out.cell (World.block_lt_of_cell? w _ hx122_2)).trans hx122_2
                        replace hx122_3 := (HB.out.cell (World.block_lt_of_cell? w _ hx122_3)).trans hx122_3
                        have HR122_3 := Aside0.mk hi122_3
                        have HC122_3 := Aside0.mk hl122_3
                        clear hi122_3 hl122_3
                        replace p122 := eq_true p122
                        replace q122 := eq_true q122
                        go_wp2_with (first | ((with_reducible refine gate_callee (f := 18) rfl ?_); refine goesL_ (some 19) rfl rfl Tryd.func18 (by kernel_rfl) rfl #[.agg #[.int .i64 ((rd_T27 l1 x6_1).f0), .int .i64 ((rd_T27 l1 x6_1).f1), .string ((rd_T27 l1 x6_1).f2), .slice A122_3 ((rd_T27 l1 x6_1).f3).length c122_3]] rfl (by (try simp only [List.map_toArray, List.map_cons, List.map_nil]); first | done | rfl | (simp only [List.length_drop, List.length_take]; rfl)) ?_; (with_reducible refine (spec_shown.calls k1 ((rd_T27 l1 x6_1).f0) ((rd_T27 l1 x6_1).f1) ((rd_T27 l1 x6_1).f2) _ _ ((rd_T27 l1 x6_1).f3) t123 _ ?side1 ?side2 A22.out).mono ?_); (case side1 => repeat (first | exact (Kd.C_below HR122_3.out HB.out) | (with_reducible refine Kd.C_alloc ?_ _) | (with_reducible refine Kd.C_drewN ?_ _) | (with_reducible refine Kd.C_drew ?_))); (case side2 => exact HC122_3.out); rintro e w26 ⟨rfl, hb⟩; refine ⟨_, rfl, ?_⟩; have n0_ := Aside0.mk (below_step (by repeat (first | (with_reducible first | exact HB.out | apply below_alloc | apply pw_below_drewN | apply below_drew1) | exact HB.out)) hb); clear HB; have HB := n0_; clear n0_; (try clear hb); (try clear hb2); (try clear hk); (try clear hi)))
                        go_roundg k1
                        case measure => have := HK1.out; omega
                        case rel => exact ⟨(x5_1 ++ (((⟨#[39]⟩ : ByteArray) ++ t123) ++ (⟨#[39]⟩ : ByteArray))), (wrap64 (x6_1 + 1)), (wrap64 (x7_1 + 1)), (by first | rfl | (simp; done) | (simp [*]; done)), (by first | rfl | (simp; done) | (simp [*]; done)), (by first | rfl | (simp; done) | (simp [*]; done)), H', ⟨by have := HK1.out; omega⟩, ⟨by repeat (first | (with_reducible first | exact HB.out | apply below_alloc | apply pw_below_drewN | apply below_drew1) | exact HB.out)⟩⟩
                      · rw [if_neg c25] at H
                        exact absurd H (by simp)
                    · rw [if_neg c24] at H
                      exact absurd H (by simp)
                  · rw [if_neg c23] at H
                    exact absurd H (by simp)
                · rw [if_neg c21] at H
                  exact absurd H (by simp)
              · rw [if_neg c20] at H
                exact absurd H (by simp)
          · rw [if_neg c6] at H
            have c6b0 : ((bt a0 x7_1) == 63) = false := beq_eq_false_iff_ne.mpr c6
            have c6b1 : ((bt a0 x7_1) != 63) = true := bne_iff_ne.mpr c6
            have c27b0 := eq_true (of_decide_eq_true (by first | (with_reducible assumption) | assumption) : 0 ≤ x7_1)
            by_cases c28 : x7_1 ≤ (wrap64 (x7_1 + 1))
            · rw [if_pos c28] at H
              have c28b0 := eq_true c28
              have c28b1 : decide (x7_1 ≤ (wrap64 (x7_1 + 1))) = true := decide_eq_true c28
              by_cases c29 : (wrap64 (x7_1 + 1)) ≤ (a0.size : Int)
              · rw [if_pos c29] at H
                have c29b0 := eq_true c29
                have c29b1 : decide ((wrap64 (x7_1 + 1)) ≤ (a0.size : Int)) = true := decide_eq_true c29
                by_cases c30 : x5_1.size + (a0.extract (x7_1 : Int).toNat ((wrap64 (x7_1 + 1)) : Int).toNat).size ≤ 9223372036854775807
                · rw [if_pos c30] at H
                  have c30b0 := eq_true c30
                  have c30b1 : decide (x5_1.size + (a0.extract (x7_1 : Int).toNat ((wrap64 (x7_1 + 1)) : Int).toNat).size ≤ 9223372036854775807) = true := decide_eq_true c30
                  try have c30b2 : (9223372036854775807 < x5_1.size + (a0.extract (x7_1 : Int).toNat ((wrap64 (x7_1 + 1)) : Int).toNat).size) = False := eq_false (Nat.not_lt.2 c30)
                  have H' := Aside0.mk H
                  clear H
                  have p5 : 0 ≤ (x7_1 : Int) := of_decide_eq_true (by first | (with_reducible assumption) | assumption)
                  have q5 : x7_1 < (a0.size : Int) := of_decide_eq_true (by first | (with_reducible assumption) | assumption)
                  have hx5 := bt_at a0 x7_1
                  replace p5 := eq_true p5
                  replace q5 := eq_true q5
                  go_wp2
                  go_roundg k1
                  case measure => have := HK1.out; omega
                  case rel => exact ⟨(x5_1 ++ (a0.extract (x7_1 : Int).toNat ((wrap64 (x7_1 + 1)) : Int).toNat)), (x6_1), (wrap64 (x7_1 + 1)), (by first | rfl | (simp; done) | (simp [*]; done)), (by first | rfl | (simp; done) | (simp [*]; done)), (by first | rfl | (simp; done) | (simp [*]; done)), H', ⟨by have := HK1.out; omega⟩, ⟨by repeat (first | (with_reducible first | exact HB.out | apply below_alloc | apply pw_below_drewN | apply below_drew1) | exact HB.out)⟩⟩
                · rw [if_neg c30] at H
                  exact absurd H (by simp)
              · rw [if_neg c29] at H
                exact absurd H (by simp)
            · rw [if_neg c28] at H
              exact absurd H (by simp)
        · rw [if_neg c4] at H
          exact absurd H (by simp)
      · rw [if_neg c3] at H
        have c3b0 : decide (x7_1 < (a0.size : Int)) = false := decide_eq_false c3
        clear c3
        obtain rfl := Option.some.inj H
        go_wp2
        go_ret
        exact ⟨by first | rfl | (simp [errW_none, errW_some] <;> rfl) | (simp [*, errW_none, errW_some] <;> rfl), by repeat (first | (with_reducible first | exact HB.out | apply below_alloc | apply pw_below_drewN | apply below_drew1) | exact HB.out)⟩

end Go.Proofs.YtabaldpjahcilaaDoor.QD
-- WRITTEN BY A PROGRAM OF THIS SESSION (wip/print2.py): the print, with contracts of this session's own let in. Not trusted: Lean checks it.
namespace Go.Proofs.YtabaldpjahcilaaDoor.QD
open Go.RowKit Go.Proofs.YtabaldpjahcilaaDoorW.PrintWords Go.Proofs.YtabaldpjahcilaaDoorW.PrintLast Go.Proofs.YtabaldpjahcilaaDoorW.PrintMore
attribute [local go_sem] max2_int min2_int max_two min_two max_three min_three max_four min_four   -- for this text's walks alone
set_option linter.unusedVariables false
set_option linter.unusedSimpArgs false

/-! ### spec_isNameByte: function 19 -/
def spec_isNameByte.f (a0 : Int) : Option (Bool) := if a0 ≥ 97 then (if a0 ≤ 122 then (some true) else (if a0 ≥ 65 then (if a0 ≤ 90 then (some true) else (if a0 ≥ 48 then (if a0 ≤ 57 then (some true) else (if a0 = 95 then (some true) else (some (a0 == 46)))) else (if a0 = 95 then (some true) else (some (a0 == 46))))) else (if a0 ≥ 48 then (if a0 ≤ 57 then (some true) else (if a0 = 95 then (some true) else (some (a0 == 46)))) else (if a0 = 95 then (some true) else (some (a0 == 46)))))) else (if a0 ≥ 65 then (if a0 ≤ 90 then (some true) else (if a0 ≥ 48 then (if a0 ≤ 57 then (some true) else (if a0 = 95 then (some true) else (some (a0 == 46)))) else (if a0 = 95 then (some true) else (some (a0 == 46))))) else (if a0 ≥ 48 then (if a0 ≤ 57 then (some true) else (if a0 = 95 then (some true) else (some (a0 == 46)))) else (if a0 = 95 then (some true) else (some (a0 == 46)))))
set_option maxHeartbeats 8000000 in
set_option maxRecDepth 100000 in
theorem spec_isNameByte.calls (a0 : Int) (r : Bool) (w : World) (h : spec_isNameByte.f a0 = some r) :
    Calls Tryd.prog 19 #[.int .u8 a0] w fun e w' => e = .returned (.bool r) ∧ Drawn0 w w' := by
  have H : (if a0 ≥ 97 then (if a0 ≤ 122 then (some true) else (if a0 ≥ 65 then (if a0 ≤ 90 then (some true) else (if a0 ≥ 48 then (if a0 ≤ 57 then (some true) else (if a0 = 95 then (some true) else (some (a0 == 46)))) else (if a0 = 95 then (some true) else (some (a0 == 46))))) else (if a0 ≥ 48 then (if a0 ≤ 57 then (some true) else (if a0 = 95 then (some true) else (some (a0 == 46)))) else (if a0 = 95 then (some true) else (some (a0 == 46)))))) else (if a0 ≥ 65 then (if a0 ≤ 90 then (some true) else (if a0 ≥ 48 then (if a0 ≤ 57 then (some true) else (if a0 = 95 then (some true) else (some (a0 == 46)))) else (if a0 = 95 then (some true) else (some (a0 == 46))))) else (if a0 ≥ 48 then (if a0 ≤ 57 then (some true) else (if a0 = 95 then (some true) else (some (a0 == 46)))) else (if a0 = 95 then (some true) else (some (a0 == 46)))))) = some r := h
  clear h
  by_cases c2 : a0 ≥ 97
  · rw [if_pos c2] at H
    have c2b0 : decide (97 ≤ a0) = true := decide_eq_true c2
    clear c2
    by_cases c3 : a0 ≤ 122
    · rw [if_pos c3] at H
      have c3b0 : decide (a0 ≤ 122) = true := decide_eq_true c3
      clear c3
      obtain rfl := Option.some.inj H
      go_enter Tryd.func19, Tryd.ntmps19
      go_wp2
      go_ret
      exact ⟨by first | rfl | (simp; done) | (simp [*]; done), by repeat (first | exact Drawn0.refl _ | apply Drawn0.step)⟩
    · rw [if_neg c3] at H
      have c3b0 : decide (a0 ≤ 122) = false := decide_eq_false c3
      clear c3
      by_cases c4 : a0 ≥ 65
      · rw [if_pos c4] at H
        have c4b0 : decide (65 ≤ a0) = true := decide_eq_true c4
        clear c4
        by_cases c5 : a0 ≤ 90
        · rw [if_pos c5] at H
          have c5b0 : decide (a0 ≤ 90) = true := decide_eq_true c5
          clear c5
          obtain rfl := Option.some.inj H
          go_enter Tryd.func19, Tryd.ntmps19
          go_wp2
          go_ret
          exact ⟨by first | rfl | (simp; done) | (simp [*]; done), by repeat (first | exact Drawn0.refl _ | apply Drawn0.step)⟩
        · rw [if_neg c5] at H
          have c5b0 : decide (a0 ≤ 90) = false := decide_eq_false c5
          clear c5
          by_cases c6 : a0 ≥ 48
          · rw [if_pos c6] at H
            have c6b0 : decide (48 ≤ a0) = true := decide_eq_true c6
            clear c6
            by_cases c7 : a0 ≤ 57
            · rw [if_pos c7] at H
              have c7b0 : decide (a0 ≤ 57) = true := decide_eq_true c7
              clear c7
              obtain rfl := Option.some.inj H
              go_enter Tryd.func19, Tryd.ntmps19
              go_wp2
              go_ret
              exact ⟨by first | rfl | (simp; done) | (simp [*]; done), by repeat (first | exact Drawn0.refl _ | apply Drawn0.step)⟩
            · rw [if_neg c7] at H
              have c7b0 : decide (a0 ≤ 57) = false := decide_eq_false c7
              clear c7
              by_cases c8 : a0 = 95
              · rw [if_pos c8] at H
                have c8b0 : (a0 == 95) = true := beq_iff_eq.mpr c8
                have c8b1 : (a0 != 95) = false := bne_eq_false_iff_eq.mpr c8
                clear c8
                obtain rfl := Option.some.inj H
                go_enter Tryd.func19, Tryd.ntmps19
                go_wp2
                go_ret
                exact ⟨by first | rfl | (simp; done) | (simp [*]; done), by repeat (first | exact Drawn0.refl _ | apply Drawn0.step)⟩
              · rw [if_neg c8] at H
                have c8b0 : (a0 == 95) = false := beq_eq_false_iff_ne.mpr c8
                have c8b1 : (a0 != 95) = true := bne_iff_ne.mpr c8
                obtain rfl := Option.some.inj H
                go_enter Tryd.func19, Tryd.ntmps19
                go_wp2
                go_ret
                exact ⟨by first | rfl | (simp; done) | (simp [*]; done), by repeat (first | exact Drawn0.refl _ | apply Drawn0.step)⟩
          · rw [if_neg c6] at H
            have c6b0 : decide (48 ≤ a0) = false := decide_eq_false c6
            clear c6
            by_cases c9 : a0 = 95
            · rw [if_pos c9] at H
              have c9b0 : (a0 == 95) = true := beq_iff_eq.mpr c9
              have c9b1 : (a0 != 95) = false := bne_eq_false_iff_eq.mpr c9
              clear c9
              obtain rfl := Option.some.inj H
              go_enter Tryd.func19, Tryd.ntmps19
              go_wp2
              go_ret
              exact ⟨by first | rfl | (simp; done) | (simp [*]; done), by repeat (first | exact Drawn0.refl _ | apply Drawn0.step)⟩
            · rw [if_neg c9] at H
              have c9b0 : (a0 == 95) = false := beq_eq_false_iff_ne.mpr c9
              have c9b1 : (a0 != 95) = true := bne_iff_ne.mpr c9
              obtain rfl := Option.some.inj H
              go_enter Tryd.func19, Tryd.ntmps19
              go_wp2
              go_ret
              exact ⟨by first | rfl | (simp; done) | (simp [*]; done), by repeat (first | exact Drawn0.refl _ | apply Drawn0.step)⟩
      · rw [if_neg c4] at H
        have c4b0 : decide (65 ≤ a0) = false := decide_eq_false c4
        clear c4
        by_cases c10 : a0 ≥ 48
        · rw [if_pos c10] at H
          have c10b0 : decide (48 ≤ a0) = true := decide_eq_true c10
          clear c10
          by_cases c11 : a0 ≤ 57
          · rw [if_pos c11] at H
            have c11b0 : decide (a0 ≤ 57) = true := decide_eq_true c11
            clear c11
            obtain rfl := Option.some.inj H
            go_enter Tryd.func19, Tryd.ntmps19
            go_wp2
            go_ret
            exact ⟨by first | rfl | (simp; done) | (simp [*]; done), by repeat (first | exact Drawn0.refl _ | apply Drawn0.step)⟩
          · rw [if_neg c11] at H
            have c11b0 : decide (a0 ≤ 57) = false := decide_eq_false c11
            clear c11
            by_cases c12 : a0 = 95
            · rw [if_pos c12] at H
              have c12b0 : (a0 == 95) = true := beq_iff_eq.mpr c12
              have c12b1 : (a0 != 95) = false := bne_eq_false_iff_eq.mpr c12
              clear c12
              obtain rfl := Option.some.inj H
              go_enter Tryd.func19, Tryd.ntmps19
              go_wp2
              go_ret
              exact ⟨by first | rfl | (simp; done) | (simp [*]; done), by repeat (first | exact Drawn0.refl _ | apply Drawn0.step)⟩
            · rw [if_neg c12] at H
              have c12b0 : (a0 == 95) = false := beq_eq_false_iff_ne.mpr c12
              have c12b1 : (a0 != 95) = true := bne_iff_ne.mpr c12
              obtain rfl := Option.some.inj H
              go_enter Tryd.func19, Tryd.ntmps19
              go_wp2
              go_ret
              exact ⟨by first | rfl | (simp; done) | (simp [*]; done), by repeat (first | exact Drawn0.refl _ | apply Drawn0.step)⟩
        · rw [if_neg c10] at H
          have c10b0 : decide (48 ≤ a0) = false := decide_eq_false c10
          clear c10
          by_cases c13 : a0 = 95
          · rw [if_pos c13] at H
            have c13b0 : (a0 == 95) = true := beq_iff_eq.mpr c13
            have c13b1 : (a0 != 95) = false := bne_eq_false_iff_eq.mpr c13
            clear c13
            obtain rfl := Option.some.inj H
            go_enter Tryd.func19, Tryd.ntmps19
            go_wp2
            go_ret
            exact ⟨by first | rfl | (simp; done) | (simp [*]; done), by repeat (first | exact Drawn0.refl _ | apply Drawn0.step)⟩
          · rw [if_neg c13] at H
            have c13b0 : (a0 == 95) = false := beq_eq_false_iff_ne.mpr c13
            have c13b1 : (a0 != 95) = true := bne_iff_ne.mpr c13
            obtain rfl := Option.some.inj H
            go_enter Tryd.func19, Tryd.ntmps19
            go_wp2
            go_ret
            exact ⟨by first | rfl | (simp; done) | (simp [*]; done), by repeat (first | exact Drawn0.refl _ | apply Drawn0.step)⟩
  · rw [if_neg c2] at H
    have c2b0 : decide (97 ≤ a0) = false := decide_eq_false c2
    clear c2
    by_cases c14 : a0 ≥ 65
    · rw [if_pos c14] at H
      have c14b0 : decide (65 ≤ a0) = true := decide_eq_true c14
      clear c14
      by_cases c15 : a0 ≤ 90
      · rw [if_pos c15] at H
        have c15b0 : decide (a0 ≤ 90) = true := decide_eq_true c15
        clear c15
        obtain rfl := Option.some.inj H
        go_enter Tryd.func19, Tryd.ntmps19
        go_wp2
        go_ret
        exact ⟨by first | rfl | (simp; done) | (simp [*]; done), by repeat (first | exact Drawn0.refl _ | apply Drawn0.step)⟩
      · rw [if_neg c15] at H
        have c15b0 : decide (a0 ≤ 90) = false := decide_eq_false c15
        clear c15
        by_cases c16 : a0 ≥ 48
        · rw [if_pos c16] at H
          have c16b0 : decide (48 ≤ a0) = true := decide_eq_true c16
          clear c16
          by_cases c17 : a0 ≤ 57
          · rw [if_pos c17] at H
            have c17b0 : decide (a0 ≤ 57) = true := decide_eq_true c17
            clear c17
            obtain rfl := Option.some.inj H
            go_enter Tryd.func19, Tryd.ntmps19
            go_wp2
            go_ret
            exact ⟨by first | rfl | (simp; done) | (simp [*]; done), by repeat (first | exact Drawn0.refl _ | apply Drawn0.step)⟩
          · rw [if_neg c17] at H
            have c17b0 : decide (a0 ≤ 57) = false := decide_eq_false c17
            clear c17
            by_cases c18 : a0 = 95
            · rw [if_pos c18] at H
              have c18b0 : (a0 == 95) = true := beq_iff_eq.mpr c18
              have c18b1 : (a0 != 95) = false := bne_eq_false_iff_eq.mpr c18
              clear c18
              obtain rfl := Option.some.inj H
              go_enter Tryd.func19, Tryd.ntmps19
              go_wp2
              go_ret
              exact ⟨by first | rfl | (simp; done) | (simp [*]; done), by repeat (first | exact Drawn0.refl _ | apply Drawn0.step)⟩
            · rw [if_neg c18] at H
              have c18b0 : (a0 == 95) = false := beq_eq_false_iff_ne.mpr c18
              have c18b1 : (a0 != 95) = true := bne_iff_ne.mpr c18
              obtain rfl := Option.some.inj H
              go_enter Tryd.func19, Tryd.ntmps19
              go_wp2
              go_ret
              exact ⟨by first | rfl | (simp; done) | (simp [*]; done), by repeat (first | exact Drawn0.refl _ | apply Drawn0.step)⟩
        · rw [if_neg c16] at H
          have c16b0 : decide (48 ≤ a0) = false := decide_eq_false c16
          clear c16
          by_cases c19 : a0 = 95
          · rw [if_pos c19] at H
            have c19b0 : (a0 == 95) = true := beq_iff_eq.mpr c19
            have c19b1 : (a0 != 95) = false := bne_eq_false_iff_eq.mpr c19
            clear c19
            obtain rfl := Option.some.inj H
            go_enter Tryd.func19, Tryd.ntmps19
            go_wp2
            go_ret
            exact ⟨by first | rfl | (simp; done) | (simp [*]; done), by repeat (first | exact Drawn0.refl _ | apply Drawn0.step)⟩
          · rw [if_neg c19] at H
            have c19b0 : (a0 == 95) = false := beq_eq_false_iff_ne.mpr c19
            have c19b1 : (a0 != 95) = true := bne_iff_ne.mpr c19
            obtain rfl := Option.some.inj H
            go_enter Tryd.func19, Tryd.ntmps19
            go_wp2
            go_ret
            exact ⟨by first | rfl | (simp; done) | (simp [*]; done), by repeat (first | exact Drawn0.refl _ | apply Drawn0.step)⟩
    · rw [if_neg c14] at H
      have c14b0 : decide (65 ≤ a0) = false := decide_eq_false c14
      clear c14
      by_cases c20 : a0 ≥ 48
      · rw [if_pos c20] at H
        have c20b0 : decide (48 ≤ a0) = true := decide_eq_true c20
        clear c20
        by_cases c21 : a0 ≤ 57
        · rw [if_pos c21] at H
          have c21b0 : decide (a0 ≤ 57) = true := decide_eq_true c21
          clear c21
          obtain rfl := Option.some.inj H
          go_enter Tryd.func19, Tryd.ntmps19
          go_wp2
          go_ret
          exact ⟨by first | rfl | (simp; done) | (simp [*]; done), by repeat (first | exact Drawn0.refl _ | apply Drawn0.step)⟩
        · rw [if_neg c21] at H
          have c21b0 : decide (a0 ≤ 57) = false := decide_eq_false c21
          clear c21
          by_cases c22 : a0 = 95
          · rw [if_pos c22] at H
            have c22b0 : (a0 == 95) = true := beq_iff_eq.mpr c22
            have c22b1 : (a0 != 95) = false := bne_eq_false_iff_eq.mpr c22
            clear c22
            obtain rfl := Option.some.inj H
            go_enter Tryd.func19, Tryd.ntmps19
            go_wp2
            go_ret
            exact ⟨by first | rfl | (simp; done) | (simp [*]; done), by repeat (first | exact Drawn0.refl _ | apply Drawn0.step)⟩
          · rw [if_neg c22] at H
            have c22b0 : (a0 == 95) = false := beq_eq_false_iff_ne.mpr c22
            have c22b1 : (a0 != 95) = true := bne_iff_ne.mpr c22
            obtain rfl := Option.some.inj H
            go_enter Tryd.func19, Tryd.ntmps19
            go_wp2
            go_ret
            exact ⟨by first | rfl | (simp; done) | (simp [*]; done), by repeat (first | exact Drawn0.refl _ | apply Drawn0.step)⟩
      · rw [if_neg c20] at H
        have c20b0 : decide (48 ≤ a0) = false := decide_eq_false c20
        clear c20
        by_cases c23 : a0 = 95
        · rw [if_pos c23] at H
          have c23b0 : (a0 == 95) = true := beq_iff_eq.mpr c23
          have c23b1 : (a0 != 95) = false := bne_eq_false_iff_eq.mpr c23
          clear c23
          obtain rfl := Option.some.inj H
          go_enter Tryd.func19, Tryd.ntmps19
          go_wp2
          go_ret
          exact ⟨by first | rfl | (simp; done) | (simp [*]; done), by repeat (first | exact Drawn0.refl _ | apply Drawn0.step)⟩
        · rw [if_neg c23] at H
          have c23b0 : (a0 == 95) = false := beq_eq_false_iff_ne.mpr c23
          have c23b1 : (a0 != 95) = true := bne_iff_ne.mpr c23
          obtain rfl := Option.some.inj H
          go_enter Tryd.func19, Tryd.ntmps19
          go_wp2
          go_ret
          exact ⟨by first | rfl | (simp; done) | (simp [*]; done), by repeat (first | exact Drawn0.refl _ | apply Drawn0.step)⟩

/-! ### spec_NameOnly: function 11 -/
def spec_NameOnly.l0 : Nat → ByteArray → Int → Option (Bool)
  | 0, _, _ => none
  | k + 1, x0, x3 => if x3 < (x0.size : Int) then (if 0 ≤ x3 then ((spec_isNameByte.f (bt x0 x3)).bind fun t136 => (if t136 = true then (spec_NameOnly.l0 k x0 (wrap64 (x3 + 1))) else (some false))) else (none)) else (some (x0.toList != ([] : List UInt8)))
def spec_NameOnly.f (k : Nat) (a0 : ByteArray) : Option (Bool) := spec_NameOnly.l0 k a0 0
set_option maxHeartbeats 8000000 in
set_option maxRecDepth 100000 in
theorem spec_NameOnly.calls (k : Nat) (a0 : ByteArray) (r : Bool) (w : World) (h : spec_NameOnly.f k a0 = some r) :
    Calls Tryd.prog 11 #[.string a0] w fun e w' => e = .returned (.bool r) ∧ Drawn0 w w' := by
  have H : (spec_NameOnly.l0 k a0 0) = some r := h
  clear h
  have H' := Aside0.mk H
  clear H
  go_enter Tryd.func11, Tryd.ntmps11
  go_wp2
  go_loopg [3] k (fun kq v3 w' => ∃ (x3_1 : Int), v3 = .int .i64 x3_1 ∧ Aside0 (spec_NameOnly.l0 kq a0 x3_1 = some r) ∧ Aside0 (kq ≤ k) ∧ Drawn0 w w')
  case atStart => exact ⟨(0), (by first | rfl | (simp; done) | (simp [*]; done)), H', ⟨Nat.le_refl _⟩, by repeat (first | exact Drawn0.refl _ | apply Drawn0.step)⟩
  case round =>
    clear H'
    try clear c1
    obtain ⟨x3_1, rfl, HA, HK1, ⟨m1, rfl⟩⟩ := hrel
    cases gk with
    | zero => exact absurd HA.out (by simp [spec_NameOnly.l0])
    | succ k1 =>
      have H := HA.out
      clear HA
      simp only [spec_NameOnly.l0] at H
      by_cases c2 : x3_1 < (a0.size : Int)
      · rw [if_pos c2] at H
        have c2b0 : decide (x3_1 < (a0.size : Int)) = true := decide_eq_true c2
        clear c2
        by_cases c3 : 0 ≤ x3_1
        · rw [if_pos c3] at H
          have c3b0 : decide (0 ≤ x3_1) = true := decide_eq_true c3
          clear c3
          replace H := Option.bind_eq_some_iff.mp H
          obtain ⟨t136, A50, H⟩ := H
          replace H : (if t136 = true then (spec_NameOnly.l0 k1 a0 (wrap64 (x3_1 + 1))) else (some false)) = some r := H
          have A5 := Aside0.mk A50
          clear A50
          by_cases c6 : t136 = true
          · subst c6
            have H1 : (spec_NameOnly.l0 k1 a0 (wrap64 (x3_1 + 1))) = some r := by rw [if_pos rfl] at H; exact H
            clear H
            have H := H1
            clear H1
            have H' := Aside0.mk H
            clear H
            have p4 : 0 ≤ (x3_1 : Int) := of_decide_eq_true (by first | (with_reducible assumption) | assumption)
            have q4 : x3_1 < (a0.size : Int) := of_decide_eq_true (by first | (with_reducible assumption) | assumption)
            have hx4 := bt_at a0 x3_1
            replace p4 := eq_true p4
            replace q4 := eq_true q4
            go_wp2_with (first | ((with_reducible refine gate_callee (f := 19) rfl ?_); refine goesL_ (some 13) rfl rfl Tryd.func19 (by kernel_rfl) rfl #[.int .u8 (bt a0 x3_1)] rfl (by (try simp only [List.map_toArray, List.map_cons, List.map_nil]); first | done | rfl | (simp only [List.length_drop, List.length_take]; rfl)) ?_; (with_reducible refine (spec_isNameByte.calls (bt a0 x3_1) true _ A5.out).mono ?_); rintro e w' ⟨rfl, ⟨nd, rfl⟩⟩; refine ⟨_, rfl, ?_⟩))
            go_roundg k1
            case measure => have := HK1.out; omega
            case rel => exact ⟨(wrap64 (x3_1 + 1)), (by first | rfl | (simp; done) | (simp [*]; done)), H', ⟨by have := HK1.out; omega⟩, by repeat (first | exact Drawn0.refl _ | apply Drawn0.step)⟩
          · replace c6 := Bool.eq_false_iff.mpr c6
            subst c6
            have H1 : (some false) = some r := by rw [if_neg (show ¬ (false = true) by decide)] at H; exact H
            clear H
            have H := H1
            clear H1
            obtain rfl := Option.some.inj H
            have p4 : 0 ≤ (x3_1 : Int) := of_decide_eq_true (by first | (with_reducible assumption) | assumption)
            have q4 : x3_1 < (a0.size : Int) := of_decide_eq_true (by first | (with_reducible assumption) | assumption)
            have hx4 := bt_at a0 x3_1
            replace p4 := eq_true p4
            replace q4 := eq_true q4
            go_wp2_with (first | ((with_reducible refine gate_callee (f := 19) rfl ?_); refine goesL_ (some 13) rfl rfl Tryd.func19 (by kernel_rfl) rfl #[.int .u8 (bt a0 x3_1)] rfl (by (try simp only [List.map_toArray, List.map_cons, List.map_nil]); first | done | rfl | (simp only [List.length_drop, List.length_take]; rfl)) ?_; (with_reducible refine (spec_isNameByte.calls (bt a0 x3_1) false _ A5.out).mono ?_); rintro e w' ⟨rfl, ⟨nd, rfl⟩⟩; refine ⟨_, rfl, ?_⟩))
            go_ret
            exact ⟨by first | rfl | (simp; done) | (simp [*]; done), by repeat (first | exact Drawn0.refl _ | apply Drawn0.step)⟩
        · rw [if_neg c3] at H
          exact absurd H (by simp)
      · rw [if_neg c2] at H
        have c2b0 : decide (x3_1 < (a0.size : Int)) = false := decide_eq_false c2
        clear c2
        obtain rfl := Option.some.inj H
        go_wp2
        go_ret
        exact ⟨by first | rfl | (simp; done) | (simp [*]; done) | (simp; cases a0.toList <;> rfl), by repeat (first | exact Drawn0.refl _ | apply Drawn0.step)⟩

end Go.Proofs.YtabaldpjahcilaaDoor.QD
-- WRITTEN BY A PROGRAM OF THIS SESSION (wip/print2.py): the print, with contracts of this session's own let in. Not trusted: Lean checks it.
namespace Go.Proofs.YtabaldpjahcilaaDoor.QD
open Go.RowKit Go.Proofs.YtabaldpjahcilaaDoorW.PrintWords Go.Proofs.YtabaldpjahcilaaDoorW.PrintLast Go.Proofs.YtabaldpjahcilaaDoorW.PrintMore
attribute [local go_sem] max2_int min2_int max_two min_two max_three min_three max_four min_four   -- for this text's walks alone
set_option linter.unusedVariables false
set_option linter.unusedSimpArgs false

/-! ### spec_ValueRight: function 12 -/
mutual
def spec_ValueRight.j0 : Nat → Bool → Int → Bool → Int → Int → ByteArray → List (S27) → Option (Bool)
  | 0, _, _, _, _, _, _, _ => none
  | k + 1, x1, x7, x8, x138000, x138001, x138002, x138003 => if x8 = true then (if x138001 = 0 then (if x138002.toList = ([] : List UInt8) then (some ((x138003.length : Int) == 0)) else (some false)) else (some false)) else (if x7 = 1 then (if x138002.toList = ([] : List UInt8) then (some ((x138003.length : Int) == 0)) else (some false)) else (if x7 = 2 then (if x138001 = 0 then (if (x138003.length : Int) = 0 then (some (decide ((x138002.size : Int) ≤ 200))) else (some false)) else (some false)) else (if x7 = 5 then (if x1 = true then (if x138001 = 0 then (if x138002.toList = ([] : List UInt8) then (spec_ValueRight.j1 k (decide ((x138003.length : Int) > 12)) x138000 x138001 x138002 x138003) else (spec_ValueRight.j1 k true x138000 x138001 x138002 x138003)) else (spec_ValueRight.j1 k true x138000 x138001 x138002 x138003)) else (spec_ValueRight.j1 k true x138000 x138001 x138002 x138003)) else (some false))))
def spec_ValueRight.j1 : Nat → Bool → Int → Int → ByteArray → List (S27) → Option (Bool)
  | 0, _, _, _, _, _ => none
  | k + 1, x73, x138000, x138001, x138002, x138003 => if x73 = true then (some false) else (spec_ValueRight.l0 k 0 x138000 x138001 x138002 x138003)
def spec_ValueRight.l0 : Nat → Int → Int → Int → ByteArray → List (S27) → Option (Bool)
  | 0, _, _, _, _, _ => none
  | k + 1, x5, x138000, x138001, x138002, x138003 => if x5 < (x138003.length : Int) then (if 0 ≤ x5 then ((spec_ValueRight.f k ((rd_T27 x138003 x5).f0) ((rd_T27 x138003 x5).f1) ((rd_T27 x138003 x5).f2) ((rd_T27 x138003 x5).f3) false).bind fun t139 => (if t139 = true then (spec_ValueRight.l0 k (wrap64 (x5 + 1)) x138000 x138001 x138002 x138003) else (some false))) else (none)) else (some true)
def spec_ValueRight.f : Nat → Int → Int → ByteArray → List (S27) → Bool → Option (Bool)
  | 0, _, _, _, _, _ => none
  | k + 1, a0_0, a0_1, a0_2, l0_3, a1 => if a0_0 = 0 then (spec_ValueRight.j0 k a1 a0_0 (a0_0 == 0) a0_0 a0_1 a0_2 l0_3) else (if a0_0 = 3 then (spec_ValueRight.j0 k a1 a0_0 (a0_0 == 3) a0_0 a0_1 a0_2 l0_3) else (spec_ValueRight.j0 k a1 a0_0 (a0_0 == 4) a0_0 a0_1 a0_2 l0_3))
end
set_option maxHeartbeats 8000000 in
set_option maxRecDepth 100000 in
theorem spec_ValueRight.calls (k : Nat) : ∀ (a0_0 : Int) (a0_1 : Int) (a0_2 : ByteArray) (A0_3 : Option Addr) (c0_3 : Nat) (l0_3 : List (S27)) (a1 : Bool) (r : Bool) (w : World) (hr0_3 : Kd.C k27 w A0_3 l0_3.length l0_3) (hc0_3 : l0_3.length ≤ c0_3) (h : spec_ValueRight.f k a0_0 a0_1 a0_2 l0_3 a1 = some r),
    Calls Tryd.prog 12 #[.agg #[.int .i64 a0_0, .int .i64 a0_1, .string a0_2, .slice A0_3 l0_3.length c0_3], .bool a1] w fun e w' => e = .returned (.bool r) ∧ Below w.heap.size w w' := by
  induction k using Nat.strongRecOn with
  | _ k ih =>
  intro a0_0 a0_1 a0_2 A0_3 c0_3 l0_3 a1 r w hr0_3 hc0_3 h
  cases k with
  | zero => exact absurd h (by simp [spec_ValueRight.f])
  | succ k =>
  simp only [spec_ValueRight.f] at h
  have hu27 := Tryd.underlying27
  have HR0_3 := Aside0.mk hr0_3
  have HC0_3 := Aside0.mk hc0_3
  clear hr0_3 hc0_3
  have HB := Aside0.mk (Below.refl w.heap.size w)
  have H : (if a0_0 = 0 then (spec_ValueRight.j0 k a1 a0_0 (a0_0 == 0) a0_0 a0_1 a0_2 l0_3) else (if a0_0 = 3 then (spec_ValueRight.j0 k a1 a0_0 (a0_0 == 3) a0_0 a0_1 a0_2 l0_3) else (spec_ValueRight.j0 k a1 a0_0 (a0_0 == 4) a0_0 a0_1 a0_2 l0_3))) = some r := h
  clear h
  have HC3 := Aside0.mk H
  clear H
  go_enter Tryd.func12, Tryd.ntmps12
  go_upto_if 8 with (first | ((with_reducible refine gate_dst (N := 2) rfl ?_); (try (refine gate_guard (by rfl) ?_; dsimp only)); refine box_event ?hg (N := 2) ?hd (cs := #[.int .i64 a0_0, .int .i64 a0_1, .string a0_2, .slice A0_3 l0_3.length c0_3]) (t := 27) ?hr ?_; (case hd => rfl); (case hg => rfl); (case hr => first | (go_simp; done) | (go_simp; rfl)); intro gb137 hg w4 hbox hb; have n0_ := Aside0.mk (below_step (by repeat (first | (with_reducible first | exact HB.out | apply below_alloc | apply pw_below_drewN | apply below_drew1) | exact HB.out)) hb); have n1_ := Aside0.mk (hbox); have n2_ := Aside0.mk ((by rw [hg]; exact (below_size (by repeat (first | (with_reducible first | exact HB.out | apply below_alloc | apply pw_below_drewN | apply below_drew1) | exact HB.out))) : w.heap.size ≤ gb137)); have n3_ := Aside0.mk ((by rw [hg]; exact (below_size (by repeat (first | (with_reducible first | exact HB.out | apply below_alloc | apply pw_below_drewN | apply below_drew1) | exact HB.out))) : w.heap.size ≤ gb137)); clear HB; have HB := n0_; have BK137 := n1_; have GW137 := n2_; have GE137 := n3_; clear n0_ n1_ n2_ n3_; clear hb hbox hg; have hcz5_0 : w4.cell? ⟨gb137, 0, none⟩ = some (.int .i64 a0_0) := (blk_cell BK137.out 0).trans rfl; have hcz5_1 : w4.cell? ⟨gb137, 1, none⟩ = some (.int .i64 a0_1) := (blk_cell BK137.out 1).trans rfl; have hcz5_2 : w4.cell? ⟨gb137, 2, none⟩ = some (.string a0_2) := (blk_cell BK137.out 2).trans rfl; have hcz5_3 : w4.cell? ⟨gb137, 3, none⟩ = some (.slice A0_3 l0_3.length c0_3) := (blk_cell BK137.out 3).trans rfl; have hfz5_0 := blk_frozen BK137.out 0; have hfz5_1 := blk_frozen BK137.out 1; have hfz5_2 := blk_frozen BK137.out 2; have hfz5_3 := blk_frozen BK137.out 3))
  (try simp only [Act.put, List.setIfInBounds_toArray, List.set_cons_zero, List.set_cons_succ])
  go_cut [8] (fun v8 wc => ∃ (kq : Nat) (x8_2 : Bool), v8 = .bool x8_2 ∧ Aside0 (spec_ValueRight.j0 kq a1 a0_0 x8_2 a0_0 a0_1 a0_2 l0_3 = some r) ∧ Aside0 (kq ≤ k) ∧ Aside0 (wc.heap[gb137]? = some (.cells #[.int .i64 a0_0, .int .i64 a0_1, .string a0_2, (.slice A0_3 l0_3.length c0_3)] 27 (0, 0))) ∧ Aside0 (Below w.heap.size w wc))
  case first =>
    have H := HC3.out
    clear HC3
    by_cases c6 : a0_0 = 0
    · rw [if_pos c6] at H
      have c6b0 : (a0_0 == 0) = true := beq_iff_eq.mpr c6
      have c6b1 : (a0_0 != 0) = false := bne_eq_false_iff_eq.mpr c6
      clear c6
      (first | rw [c6b0] | (simp only [i64_w, i32_w]; rw [c6b0]) | skip)
      have H' := Aside0.mk H
      clear H
      go_wp2
      go_meet
      case rel => exact ⟨_, ((a0_0 == 0)), (by first | rfl | (simp; done) | (simp [*]; done)), H', ⟨by first | omega | exact Nat.le_refl _⟩, ⟨by (with_reducible repeat (first | refine blk_drewN ?_ _ | refine blk_drew ?_ | refine blk_alloc ?_ _)); exact BK137.out⟩, ⟨by repeat (first | (with_reducible first | exact HB.out | apply below_alloc | apply pw_below_drewN | apply below_drew1 | refine below_set ?_ GE137.out) | exact HB.out)⟩⟩
    · rw [if_neg c6] at H
      have c6b0 : (a0_0 == 0) = false := beq_eq_false_iff_ne.mpr c6
      have c6b1 : (a0_0 != 0) = true := bne_iff_ne.mpr c6
      (first | rw [c6b0] | (simp only [i64_w, i32_w]; rw [c6b0]) | skip)
      by_cases c7 : a0_0 = 3
      · rw [if_pos c7] at H
        have c7b0 : (a0_0 == 3) = true := beq_iff_eq.mpr c7
        have c7b1 : (a0_0 != 3) = false := bne_eq_false_iff_eq.mpr c7
        clear c7
        have H' := Aside0.mk H
        clear H
        go_wp2
        go_meet
        case rel => exact ⟨_, ((a0_0 == 3)), (by first | rfl | (simp; done) | (simp [*]; done)), H', ⟨by first | omega | exact Nat.le_refl _⟩, ⟨by (with_reducible repeat (first | refine blk_drewN ?_ _ | refine blk_drew ?_ | refine blk_alloc ?_ _)); exact BK137.out⟩, ⟨by repeat (first | (with_reducible first | exact HB.out | apply below_alloc | apply pw_below_drewN | apply below_drew1 | refine below_set ?_ GE137.out) | exact HB.out)⟩⟩
      · rw [if_neg c7] at H
        have c7b0 : (a0_0 == 3) = false := beq_eq_false_iff_ne.mpr c7
        have c7b1 : (a0_0 != 3) = true := bne_iff_ne.mpr c7
        have H' := Aside0.mk H
        clear H
        go_wp2
        go_meet
        case rel => exact ⟨_, ((a0_0 == 4)), (by first | rfl | (simp; done) | (simp [*]; done)), H', ⟨by first | omega | exact Nat.le_refl _⟩, ⟨by (with_reducible repeat (first | refine blk_drewN ?_ _ | refine blk_drew ?_ | refine blk_alloc ?_ _)); exact BK137.out⟩, ⟨by repeat (first | (with_reducible first | exact HB.out | apply below_alloc | apply pw_below_drewN | apply below_drew1 | refine below_set ?_ GE137.out) | exact HB.out)⟩⟩
  case rest =>
    clear HC3
    try clear c1
    try clear p2
    try clear c6
    try clear c6b0
    try clear c6b1
    try clear c7
    try clear c7b0
    try clear c7b1
    try clear hcz5_0
    try clear hcz5_1
    try clear hcz5_2
    try clear hcz5_3
    try clear hfz5_0
    try clear hfz5_1
    try clear hfz5_2
    try clear hfz5_3
    obtain ⟨kq, x8_2, rfl, HA, HJ2, BK137, HB⟩ := hcut
    cases kq with
    | zero => exact absurd HA.out (by simp [spec_ValueRight.j0])
    | succ kj2 =>
      have H := HA.out
      clear HA
      simp only [spec_ValueRight.j0] at H
      by_cases c8 : x8_2 = true
      · subst c8
        have H1 : (if a0_1 = 0 then (if a0_2.toList = ([] : List UInt8) then (some ((l0_3.length : Int) == 0)) else (some false)) else (some false)) = some r := by rw [if_pos rfl] at H; exact H
        clear H
        have H := H1
        clear H1
        by_cases c9 : a0_1 = 0
        · rw [if_pos c9] at H
          have c9b0 : (a0_1 == 0) = true := beq_iff_eq.mpr c9
          have c9b1 : (a0_1 != 0) = false := bne_eq_false_iff_eq.mpr c9
          clear c9
          by_cases c10 : a0_2.toList = ([] : List UInt8)
          · rw [if_pos c10] at H
            have c10b0 : (a0_2.toList == ([] : List UInt8)) = true := beq_iff_eq.mpr c10
            have c10b1 : (a0_2.toList != ([] : List UInt8)) = false := bne_eq_false_iff_eq.mpr c10
            clear c10
            obtain rfl := Option.some.inj H
            have hcz11_0 : wc.cell? ⟨gb137, 0, none⟩ = some (.int .i64 a0_0) := (blk_cell BK137.out 0).trans rfl
            have hcz11_1 : wc.cell? ⟨gb137, 1, none⟩ = some (.int .i64 a0_1) := (blk_cell BK137.out 1).trans rfl
            have hcz11_2 : wc.cell? ⟨gb137, 2, none⟩ = some (.string a0_2) := (blk_cell BK137.out 2).trans rfl
            have hcz11_3 : wc.cell? ⟨gb137, 3, none⟩ = some (.slice A0_3 l0_3.length c0_3) := (blk_cell BK137.out 3).trans rfl
            have hfz11_0 := blk_frozen BK137.out 0
            have hfz11_1 := blk_frozen BK137.out 1
            have hfz11_2 := blk_frozen BK137.out 2
            have hfz11_3 := blk_frozen BK137.out 3
            go_wp2
            go_ret
            exact ⟨by first | rfl | (simp [errW_none, errW_some] <;> rfl) | (simp [*, errW_none, errW_some] <;> rfl), by repeat (first | (with_reducible first | exact HB.out | apply below_alloc | apply pw_below_drewN | apply below_drew1 | refine below_set ?_ GE137.out) | exact HB.out)⟩
          · rw [if_neg c10] at H
            have c10b0 : (a0_2.toList == ([] : List UInt8)) = false := beq_eq_false_iff_ne.mpr c10
            have c10b1 : (a0_2.toList != ([] : List UInt8)) = true := bne_iff_ne.mpr c10
            obtain rfl := Option.some.inj H
            have hcz12_0 : wc.cell? ⟨gb137, 0, none⟩ = some (.int .i64 a0_0) := (blk_cell BK137.out 0).trans rfl
            have hcz12_1 : wc.cell? ⟨gb137, 1, none⟩ = some (.int .i64 a0_1) := (blk_cell BK137.out 1).trans rfl
            have hcz12_2 : wc.cell? ⟨gb137, 2, none⟩ = some (.string a0_2) := (blk_cell BK137.out 2).trans rfl
            have hcz12_3 : wc.cell? ⟨gb137, 3, none⟩ = some (.slice A0_3 l0_3.length c0_3) := (blk_cell BK137.out 3).trans rfl
            have hfz12_0 := blk_frozen BK137.out 0
            have hfz12_1 := blk_frozen BK137.out 1
            have hfz12_2 := blk_frozen BK137.out 2
            have hfz12_3 := blk_frozen BK137.out 3
            go_wp2
            go_ret
            exact ⟨by first | rfl | (simp [errW_none, errW_some] <;> rfl) | (simp [*, errW_none, errW_some] <;> rfl), by repeat (first | (with_reducible first | exact HB.out | apply below_alloc | apply pw_below_drewN | apply below_drew1 | refine below_set ?_ GE137.out) | exact HB.out)⟩
        · rw [if_neg c9] at H
          have c9b0 : (a0_1 == 0) = false := beq_eq_false_iff_ne.mpr c9
          have c9b1 : (a0_1 != 0) = true := bne_iff_ne.mpr c9
          obtain rfl := Option.some.inj H
          have hcz13_0 : wc.cell? ⟨gb137, 0, none⟩ = some (.int .i64 a0_0) := (blk_cell BK137.out 0).trans rfl
          have hcz13_1 : wc.cell? ⟨gb137, 1, none⟩ = some (.int .i64 a0_1) := (blk_cell BK137.out 1).trans rfl
          have hcz13_2 : wc.cell? ⟨gb137, 2, none⟩ = some (.string a0_2) := (blk_cell BK137.out 2).trans rfl
          have hcz13_3 : wc.cell? ⟨gb137, 3, none⟩ = some (.slice A0_3 l0_3.length c0_3) := (blk_cell BK137.out 3).trans rfl
          have hfz13_0 := blk_frozen BK137.out 0
          have hfz13_1 := blk_frozen BK137.out 1
          have hfz13_2 := blk_frozen BK137.out 2
          have hfz13_3 := blk_frozen BK137.out 3
          go_wp2
          go_ret
          exact ⟨by first | rfl | (simp [errW_none, errW_some] <;> rfl) | (simp [*, errW_none, errW_some] <;> rfl), by repeat (first | (with_reducible first | exact HB.out | apply below_alloc | apply pw_below_drewN | apply below_drew1 | refine below_set ?_ GE137.out) | exact HB.out)⟩
      · replace c8 := Bool.eq_false_iff.mpr c8
        subst c8
        have H1 : (if a0_0 = 1 then (if a0_2.toList = ([] : List UInt8) then (some ((l0_3.length : Int) == 0)) else (some false)) else (if a0_0 = 2 then (if a0_1 = 0 then (if (l0_3.length : Int) = 0 then (some (decide ((a0_2.size : Int) ≤ 200))) else (some false)) else (some false)) else (if a0_0 = 5 then (if a1 = true then (if a0_1 = 0 then (if a0_2.toList = ([] : List UInt8) then (spec_ValueRight.j1 kj2 (decide ((l0_3.length : Int) > 12)) a0_0 a0_1 a0_2 l0_3) else (spec_ValueRight.j1 kj2 true a0_0 a0_1 a0_2 l0_3)) else (spec_ValueRight.j1 kj2 true a0_0 a0_1 a0_2 l0_3)) else (spec_ValueRight.j1 kj2 true a0_0 a0_1 a0_2 l0_3)) else (some false)))) = some r := by rw [if_neg (show ¬ (false = true) by decide)] at H; exact H
        clear H
        have H := H1
        clear H1
        by_cases c14 : a0_0 = 1
        · rw [if_pos c14] at H
          have c14b0 : (a0_0 == 1) = true := beq_iff_eq.mpr c14
          have c14b1 : (a0_0 != 1) = false := bne_eq_false_iff_eq.mpr c14
          clear c14
          by_cases c15 : a0_2.toList = ([] : List UInt8)
          · rw [if_pos c15] at H
            have c15b0 : (a0_2.toList == ([] : List UInt8)) = true := beq_iff_eq.mpr c15
            have c15b1 : (a0_2.toList != ([] : List UInt8)) = false := bne_eq_false_iff_eq.mpr c15
            clear c15
            obtain rfl := Option.some.inj H
            have hcz16_0 : wc.cell? ⟨gb137, 0, none⟩ = some (.int .i64 a0_0) := (blk_cell BK137.out 0).trans rfl
            have hcz16_1 : wc.cell? ⟨gb137, 1, none⟩ = some (.int .i64 a0_1) := (blk_cell BK137.out 1).trans rfl
            have hcz16_2 : wc.cell? ⟨gb137, 2, none⟩ = some (.string a0_2) := (blk_cell BK137.out 2).trans rfl
            have hcz16_3 : wc.cell? ⟨gb137, 3, none⟩ = some (.slice A0_3 l0_3.length c0_3) := (blk_cell BK137.out 3).trans rfl
            have hfz16_0 := blk_frozen BK137.out 0
            have hfz16_1 := blk_frozen BK137.out 1
            have hfz16_2 := blk_frozen BK137.out 2
            have hfz16_3 := blk_frozen BK137.out 3
            go_wp2
            go_ret
            exact ⟨by first | rfl | (simp [errW_none, errW_some] <;> rfl) | (simp [*, errW_none, errW_some] <;> rfl), by repeat (first | (with_reducible first | exact HB.out | apply below_alloc | apply pw_below_drewN | apply below_drew1 | refine below_set ?_ GE137.out) | exact HB.out)⟩
          · rw [if_neg c15] at H
            have c15b0 : (a0_2.toList == ([] : List UInt8)) = false := beq_eq_false_iff_ne.mpr c15
            have c15b1 : (a0_2.toList != ([] : List UInt8)) = true := bne_iff_ne.mpr c15
            obtain rfl := Option.some.inj H
            have hcz17_0 : wc.cell? ⟨gb137, 0, none⟩ = some (.int .i64 a0_0) := (blk_cell BK137.out 0).trans rfl
            have hcz17_1 : wc.cell? ⟨gb137, 1, none⟩ = some (.int .i64 a0_1) := (blk_cell BK137.out 1).trans rfl
            have hcz17_2 : wc.cell? ⟨gb137, 2, none⟩ = some (.string a0_2) := (blk_cell BK137.out 2).trans rfl
            have hcz17_3 : wc.cell? ⟨gb137, 3, none⟩ = some (.slice A0_3 l0_3.length c0_3) := (blk_cell BK137.out 3).trans rfl
            have hfz17_0 := blk_frozen BK137.out 0
            have hfz17_1 := blk_frozen BK137.out 1
            have hfz17_2 := blk_frozen BK137.out 2
            have hfz17_3 := blk_frozen BK137.out 3
            go_wp2
            go_ret
            exact ⟨by first | rfl | (simp [errW_none, errW_some] <;> rfl) | (simp [*, errW_none, errW_some] <;> rfl), by repeat (first | (with_reducible first | exact HB.out | apply below_alloc | apply pw_below_drewN | apply below_drew1 | refine below_set ?_ GE137.out) | exact HB.out)⟩
        · rw [if_neg c14] at H
          have c14b0 : (a0_0 == 1) = false := beq_eq_false_iff_ne.mpr c14
          have c14b1 : (a0_0 != 1) = true := bne_iff_ne.mpr c14
          by_cases c18 : a0_0 = 2
          · rw [if_pos c18] at H
            have c18b0 : (a0_0 == 2) = true := beq_iff_eq.mpr c18
            have c18b1 : (a0_0 != 2) = false := bne_eq_false_iff_eq.mpr c18
            clear c18
            by_cases c19 : a0_1 = 0
            · rw [if_pos c19] at H
              have c19b0 : (a0_1 == 0) = true := beq_iff_eq.mpr c19
              have c19b1 : (a0_1 != 0) = false := bne_eq_false_iff_eq.mpr c19
              clear c19
              by_cases c20 : (l0_3.length : Int) = 0
              · rw [if_pos c20] at H
                have c20b0 : ((l0_3.length : Int) == 0) = true := beq_iff_eq.mpr c20
                have c20b1 : ((l0_3.length : Int) != 0) = false := bne_eq_false_iff_eq.mpr c20
                clear c20
                obtain rfl := Option.some.inj H
                have hcz21_0 : wc.cell? ⟨gb137, 0, none⟩ = some (.int .i64 a0_0) := (blk_cell BK137.out 0).trans rfl
                have hcz21_1 : wc.cell? ⟨gb137, 1, none⟩ = some (.int .i64 a0_1) := (blk_cell BK137.out 1).trans rfl
                have hcz21_2 : wc.cell? ⟨gb137, 2, none⟩ = some (.string a0_2) := (blk_cell BK137.out 2).trans rfl
                have hcz21_3 : wc.cell? ⟨gb137, 3, none⟩ = some (.slice A0_3 l0_3.length c0_3) := (blk_cell BK137.out 3).trans rfl
                have hfz21_0 := blk_frozen BK137.out 0
                have hfz21_1 := blk_frozen BK137.out 1
                have hfz21_2 := blk_frozen BK137.out 2
                have hfz21_3 := blk_frozen BK137.out 3
                go_wp2
                go_ret
                exact ⟨by first | rfl | (simp [errW_none, errW_some] <;> rfl) | (simp [*, errW_none, errW_some] <;> rfl), by repeat (first | (with_reducible first | exact HB.out | apply below_alloc | apply pw_below_drewN | apply below_drew1 | refine below_set ?_ GE137.out) | exact HB.out)⟩
              · rw [if_neg c20] at H
                have c20b0 : ((l0_3.length : Int) == 0) = false := beq_eq_false_iff_ne.mpr c20
                have c20b1 : ((l0_3.length : Int) != 0) = true := bne_iff_ne.mpr c20
                have c20b2 : ¬ (l0_3 = []) := fun h_ => c20 (by rw [h_]; rfl)
                obtain rfl := Option.some.inj H
                have hcz22_0 : wc.cell? ⟨gb137, 0, none⟩ = some (.int .i64 a0_0) := (blk_cell BK137.out 0).trans rfl
                have hcz22_1 : wc.cell? ⟨gb137, 1, none⟩ = some (.int .i64 a0_1) := (blk_cell BK137.out 1).trans rfl
                have hcz22_2 : wc.cell? ⟨gb137, 2, none⟩ = some (.string a0_2) := (blk_cell BK137.out 2).trans rfl
                have hcz22_3 : wc.cell? ⟨gb137, 3, none⟩ = some (.slice A0_3 l0_3.length c0_3) := (blk_cell BK137.out 3).trans rfl
                have hfz22_0 := blk_frozen BK137.out 0
                have hfz22_1 := blk_frozen BK137.out 1
                have hfz22_2 := blk_frozen BK137.out 2
                have hfz22_3 := blk_frozen BK137.out 3
                go_wp2
                go_ret
                exact ⟨by first | rfl | (simp [errW_none, errW_some] <;> rfl) | (simp [*, errW_none, errW_some] <;> rfl), by repeat (first | (with_reducible first | exact HB.out | apply below_alloc | apply pw_below_drewN | apply below_drew1 | refine below_set ?_ GE137.out) | exact HB.out)⟩
            · rw [if_neg c19] at H
              have c19b0 : (a0_1 == 0) = false := beq_eq_false_iff_ne.mpr c19
              have c19b1 : (a0_1 != 0) = true := bne_iff_ne.mpr c19
              obtain rfl := Option.some.inj H
              have hcz23_0 : wc.cell? ⟨gb137, 0, none⟩ = some (.int .i64 a0_0) := (blk_cell BK137.out 0).trans rfl
              have hcz23_1 : wc.cell? ⟨gb137, 1, none⟩ = some (.int .i64 a0_1) := (blk_cell BK137.out 1).trans rfl
              have hcz23_2 : wc.cell? ⟨gb137, 2, none⟩ = some (.string a0_2) := (blk_cell BK137.out 2).trans rfl
              have hcz23_3 : wc.cell? ⟨gb137, 3, none⟩ = some (.slice A0_3 l0_3.length c0_3) := (blk_cell BK137.out 3).trans rfl
              have hfz23_0 := blk_frozen BK137.out 0
              have hfz23_1 := blk_frozen BK137.out 1
              have hfz23_2 := blk_frozen BK137.out 2
              have hfz23_3 := blk_frozen BK137.out 3
              go_wp2
              go_ret
              exact ⟨by first | rfl | (simp [errW_none, errW_some] <;> rfl) | (simp [*, errW_none, errW_some] <;> rfl), by repeat (first | (with_reducible first | exact HB.out | apply below_alloc | apply pw_below_drewN | apply below_drew1 | refine below_set ?_ GE137.out) | exact HB.out)⟩
          · rw [if_neg c18] at H
            have c18b0 : (a0_0 == 2) = false := beq_eq_false_iff_ne.mpr c18
            have c18b1 : (a0_0 != 2) = true := bne_iff_ne.mpr c18
            by_cases c24 : a0_0 = 5
            · rw [if_pos c24] at H
              have c24b0 : (a0_0 == 5) = true := beq_iff_eq.mpr c24
              have c24b1 : (a0_0 != 5) = false := bne_eq_false_iff_eq.mpr c24
              clear c24
              have HC25 := Aside0.mk H
              clear H
              go_upto_region 11 with (fail)
              go_cut [73] (fun v73 wc => ∃ (kq : Nat) (x73_24 : Bool), v73 = .bool x73_24 ∧ Aside0 (spec_ValueRight.j1 kq x73_24 a0_0 a0_1 a0_2 l0_3 = some r) ∧ Aside0 (kq ≤ kj2) ∧ Aside0 (wc.heap[gb137]? = some (.cells #[.int .i64 a0_0, .int .i64 a0_1, .string a0_2, (.slice A0_3 l0_3.length c0_3)] 27 (0, 0))) ∧ Aside0 (Below w.heap.size w wc))
              case first =>
                have H := HC25.out
                clear HC25
                by_cases c26 : a1 = true
                · subst c26
                  have H1 : (if a0_1 = 0 then (if a0_2.toList = ([] : List UInt8) then (spec_ValueRight.j1 kj2 (decide ((l0_3.length : Int) > 12)) a0_0 a0_1 a0_2 l0_3) else (spec_ValueRight.j1 kj2 true a0_0 a0_1 a0_2 l0_3)) else (spec_ValueRight.j1 kj2 true a0_0 a0_1 a0_2 l0_3)) = some r := by rw [if_pos rfl] at H; exact H
                  clear H
                  have H := H1
                  clear H1
                  by_cases c27 : a0_1 = 0
                  · rw [if_pos c27] at H
                    have c27b0 : (a0_1 == 0) = true := beq_iff_eq.mpr c27
                    have c27b1 : (a0_1 != 0) = false := bne_eq_false_iff_eq.mpr c27
                    clear c27
                    (first | rw [c27b0] | (simp only [i64_w, i32_w]; rw [c27b0]) | skip)
                    by_cases c28 : a0_2.toList = ([] : List UInt8)
                    · rw [if_pos c28] at H
                      have c28b0 : (a0_2.toList == ([] : List UInt8)) = true := beq_iff_eq.mpr c28
                      have c28b1 : (a0_2.toList != ([] : List UInt8)) = false := bne_eq_false_iff_eq.mpr c28
                      clear c28
                      have H' := Aside0.mk H
                      clear H
                      have hcz29_0 : wc.cell? ⟨gb137, 0, none⟩ = some (.int .i64 a0_0) := (blk_cell BK137.out 0).trans rfl
                      have hcz29_1 : wc.cell? ⟨gb137, 1, none⟩ = some (.int .i64 a0_1) := (blk_cell BK137.out 1).trans rfl
                      have hcz29_2 : wc.cell? ⟨gb137, 2, none⟩ = some (.string a0_2) := (blk_cell BK137.out 2).trans rfl
                      have hcz29_3 : wc.cell? ⟨gb137, 3, none⟩ = some (.slice A0_3 l0_3.length c0_3) := (blk_cell BK137.out 3).trans rfl
                      have hfz29_0 := blk_frozen BK137.out 0
                      have hfz29_1 := blk_frozen BK137.out 1
                      have hfz29_2 := blk_frozen BK137.out 2
                      have hfz29_3 := blk_frozen BK137.out 3
                      go_wp2
                      go_meet
                      case rel => exact ⟨_, (decide ((l0_3.length : Int) > 12)), (by first | rfl | (simp; done) | (simp [*]; done)), H', ⟨by have := HJ2.out; first | omega | exact Nat.le_refl _⟩, ⟨by (with_reducible repeat (first | refine blk_drewN ?_ _ | refine blk_drew ?_ | refine blk_alloc ?_ _)); exact BK137.out⟩, ⟨by repeat (first | (with_reducible first | exact HB.out | apply below_alloc | apply pw_below_drewN | apply below_drew1 | refine below_set ?_ GE137.out) | exact HB.out)⟩⟩
                    · rw [if_neg c28] at H
                      have c28b0 : (a0_2.toList == ([] : List UInt8)) = false := beq_eq_false_iff_ne.mpr c28
                      have c28b1 : (a0_2.toList != ([] : List UInt8)) = true := bne_iff_ne.mpr c28
                      have H' := Aside0.mk H
                      clear H
                      have hcz30_0 : wc.cell? ⟨gb137, 0, none⟩ = some (.int .i64 a0_0) := (blk_cell BK137.out 0).trans rfl
                      have hcz30_1 : wc.cell? ⟨gb137, 1, none⟩ = some (.int .i64 a0_1) := (blk_cell BK137.out 1).trans rfl
                      have hcz30_2 : wc.cell? ⟨gb137, 2, none⟩ = some (.string a0_2) := (blk_cell BK137.out 2).trans rfl
                      have hcz30_3 : wc.cell? ⟨gb137, 3, none⟩ = some (.slice A0_3 l0_3.length c0_3) := (blk_cell BK137.out 3).trans rfl
                      have hfz30_0 := blk_frozen BK137.out 0
                      have hfz30_1 := blk_frozen BK137.out 1
                      have hfz30_2 := blk_frozen BK137.out 2
                      have hfz30_3 := blk_frozen BK137.out 3
                      go_wp2
                      go_meet
                      case rel => exact ⟨_, (true), (by first | rfl | (simp; done) | (simp [*]; done)), H', ⟨by have := HJ2.out; first | omega | exact Nat.le_refl _⟩, ⟨by (with_reducible repeat (first | refine blk_drewN ?_ _ | refine blk_drew ?_ | refine blk_alloc ?_ _)); exact BK137.out⟩, ⟨by repeat (first | (with_reducible first | exact HB.out | apply below_alloc | apply pw_below_drewN | apply below_drew1 | refine below_set ?_ GE137.out) | exact HB.out)⟩⟩
                  · rw [if_neg c27] at H
                    have c27b0 : (a0_1 == 0) = false := beq_eq_false_iff_ne.mpr c27
                    have c27b1 : (a0_1 != 0) = true := bne_iff_ne.mpr c27
                    (first | rw [c27b0] | (simp only [i64_w, i32_w]; rw [c27b0]) | skip)
                    have H' := Aside0.mk H
                    clear H
                    have hcz31_0 : wc.cell? ⟨gb137, 0, none⟩ = some (.int .i64 a0_0) := (blk_cell BK137.out 0).trans rfl
                    have hcz31_1 : wc.cell? ⟨gb137, 1, none⟩ = some (.int .i64 a0_1) := (blk_cell BK137.out 1).trans rfl
                    have hcz31_2 : wc.cell? ⟨gb137, 2, none⟩ = some (.string a0_2) := (blk_cell BK137.out 2).trans rfl
                    have hcz31_3 : wc.cell? ⟨gb137, 3, none⟩ = some (.slice A0_3 l0_3.length c0_3) := (blk_cell BK137.out 3).trans rfl
                    have hfz31_0 := blk_frozen BK137.out 0
                    have hfz31_1 := blk_frozen BK137.out 1
                    have hfz31_2 := blk_frozen BK137.out 2
                    have hfz31_3 := blk_frozen BK137.out 3
                    go_wp2
                    go_meet
                    case rel => exact ⟨_, (true), (by first | rfl | (simp; done) | (simp [*]; done)), H', ⟨by have := HJ2.out; first | omega | exact Nat.le_refl _⟩, ⟨by (with_reducible repeat (first | refine blk_drewN ?_ _ | refine blk_drew ?_ | refine blk_alloc ?_ _)); exact BK137.out⟩, ⟨by repeat (first | (with_reducible first | exact HB.out | apply below_alloc | apply pw_below_drewN | apply below_drew1 | refine below_set ?_ GE137.out) | exact HB.out)⟩⟩
                · replace c26 := Bool.eq_false_iff.mpr c26
                  subst c26
                  have H1 : (spec_ValueRight.j1 kj2 true a0_0 a0_1 a0_2 l0_3) = some r := by rw [if_neg (show ¬ (false = true) by decide)] at H; exact H
                  clear H
                  have H := H1
                  clear H1
                  have H' := Aside0.mk H
                  clear H
                  go_wp2
                  go_meet
                  case rel => exact ⟨_, (true), (by first | rfl | (simp; done) | (simp [*]; done)), H', ⟨by have := HJ2.out; first | omega | exact Nat.le_refl _⟩, ⟨by (with_reducible repeat (first | refine blk_drewN ?_ _ | refine blk_drew ?_ | refine blk_alloc ?_ _)); exact BK137.out⟩, ⟨by repeat (first | (with_reducible first | exact HB.out | apply below_alloc | apply pw_below_drewN | apply below_drew1 | refine below_set ?_ GE137.out) | exact HB.out)⟩⟩
              case rest =>
                clear HC25
                try clear c1
                try clear c2
                try clear p2
                try clear c6
                try clear c6b0
                try clear c6b1
                try clear c7
                try clear c7b0
                try clear c7b1
                try clear c8
                try clear c9
                try clear c9b0
                try clear c9b1
                try clear c10
                try clear c10b0
                try clear c10b1
                try clear c12
                try clear c14
                try clear c14b0
                try clear c14b1
                try clear c15
                try clear c15b0
                try clear c15b1
                try clear c18
                try clear c18b0
                try clear c18b1
                try clear c19
                try clear c19b0
                try clear c19b1
                try clear c20
                try clear c20b0
                try clear c20b1
                try clear c20b2
                try clear c24
                try clear c24b0
                try clear c24b1
                try clear c26
                try clear c27
                try clear c27b0
                try clear c27b1
                try clear c28
                try clear c28b0
                try clear c28b1
                try clear hcz11_0
                try clear hcz11_1
                try clear hcz11_2
                try clear hcz11_3
                try clear hcz12_0
                try clear hcz12_1
                try clear hcz12_2
                try clear hcz12_3
                try clear hcz13_0
                try clear hcz13_1
                try clear hcz13_2
                try clear hcz13_3
                try clear hcz16_0
                try clear hcz16_1
                try clear hcz16_2
                try clear hcz16_3
                try clear hcz17_0
                try clear hcz17_1
                try clear hcz17_2
                try clear hcz17_3
                try clear hcz21_0
                try clear hcz21_1
                try clear hcz21_2
                try clear hcz21_3
                try clear hcz22_0
                try clear hcz22_1
                try clear hcz22_2
                try clear hcz22_3
                try clear hcz23_0
                try clear hcz23_1
                try clear hcz23_2
                try clear hcz23_3
                try clear hcz29_0
                try clear hcz29_1
                try clear hcz29_2
                try clear hcz29_3
                try clear hcz30_0
                try clear hcz30_1
                try clear hcz30_2
                try clear hcz30_3
                try clear hcz31_0
                try clear hcz31_1
                try clear hcz31_2
                try clear hcz31_3
                try clear hcz5_0
                try clear hcz5_1
                try clear hcz5_2
                try clear hcz5_3
                try clear hfz11_0
                try clear hfz11_1
                try clear hfz11_2
                try clear hfz11_3
                try clear hfz12_0
                try clear hfz12_1
                try clear hfz12_2
                try clear hfz12_3
                try clear hfz13_0
                try clear hfz13_1
                try clear hfz13_2
                try clear hfz13_3
                try clear hfz16_0
                try clear hfz16_1
                try clear hfz16_2
                try clear hfz16_3
                try clear hfz17_0
                try clear hfz17_1
                try clear hfz17_2
                try clear hfz17_3
                try clear hfz21_0
                try clear hfz21_1
                try clear hfz21_2
                try clear hfz21_3
                try clear hfz22_0
                try clear hfz22_1
                try clear hfz22_2
                try clear hfz22_3
                try clear hfz23_0
                try clear hfz23_1
                try clear hfz23_2
                try clear hfz23_3
                try clear hfz29_0
                try clear hfz29_1
                try clear hfz29_2
                try clear hfz29_3
                try clear hfz30_0
                try clear hfz30_1
                try clear hfz30_2
                try clear hfz30_3
                try clear hfz31_0
                try clear hfz31_1
                try clear hfz31_2
                try clear hfz31_3
                try clear hfz5_0
                try clear hfz5_1
                try clear hfz5_2
                try clear hfz5_3
                try clear p2
                obtain ⟨kq, x73_24, rfl, HA, HJ24, BK137, HB⟩ := hcut
                cases kq with
                | zero => exact absurd HA.out (by simp [spec_ValueRight.j1])
                | succ kj24 =>
                  have H := HA.out
                  clear HA
                  simp only [spec_ValueRight.j1] at H
                  by_cases c32 : x73_24 = true
                  · subst c32
                    have H1 : (some false) = some r := by rw [if_pos rfl] at H; exact H
                    clear H
                    have H := H1
                    clear H1
                    obtain rfl := Option.some.inj H
                    go_wp2
                    go_ret
                    exact ⟨by first | rfl | (simp [errW_none, errW_some] <;> rfl) | (simp [*, errW_none, errW_some] <;> rfl), by repeat (first | (with_reducible first | exact HB.out | apply below_alloc | apply pw_below_drewN | apply below_drew1 | refine below_set ?_ GE137.out) | exact HB.out)⟩
                  · replace c32 := Bool.eq_false_iff.mpr c32
                    subst c32
                    have H1 : (spec_ValueRight.l0 kj24 0 a0_0 a0_1 a0_2 l0_3) = some r := by rw [if_neg (show ¬ (false = true) by decide)] at H; exact H
                    clear H
                    have H := H1
                    clear H1
                    have H' := Aside0.mk H
                    clear H
                    go_wp2
                    go_loopg [5] kj24 (fun kq v5 w' => ∃ (x5_3 : Int), v5 = .int .i64 x5_3 ∧ Aside0 (spec_ValueRight.l0 kq x5_3 a0_0 a0_1 a0_2 l0_3 = some r) ∧ Aside0 (kq ≤ kj24) ∧ Aside0 (w'.heap[gb137]? = some (.cells #[.int .i64 a0_0, .int .i64 a0_1, .string a0_2, (.slice A0_3 l0_3.length c0_3)] 27 (0, 0))) ∧ Aside0 (Below w.heap.size w w'))
                    case atStart => exact ⟨(0), (by first | rfl | (simp; done) | (simp [*]; done)), H', ⟨Nat.le_refl _⟩, ⟨by (with_reducible repeat (first | refine blk_drewN ?_ _ | refine blk_drew ?_ | refine blk_alloc ?_ _)); exact BK137.out⟩, ⟨by repeat (first | (with_reducible first | exact HB.out | apply below_alloc | apply pw_below_drewN | apply below_drew1 | refine below_set ?_ GE137.out) | exact HB.out)⟩⟩
                    case round =>
                      clear H'
                      try clear c1
                      try clear c2
                      try clear p2
                      try clear c3
                      try clear c6
                      try clear c6b0
                      try clear c6b1
                      try clear c7
                      try clear c7b0
                      try clear c7b1
                      try clear c8
                      try clear c9
                      try clear c9b0
                      try clear c9b1
                      try clear c10
                      try clear c10b0
                      try clear c10b1
                      try clear c12
                      try clear c14
                      try clear c14b0
                      try clear c14b1
                      try clear c15
                      try clear c15b0
                      try clear c15b1
                      try clear c18
                      try clear c18b0
                      try clear c18b1
                      try clear c19
                      try clear c19b0
                      try clear c19b1
                      try clear c20
                      try clear c20b0
                      try clear c20b1
                      try clear c20b2
                      try clear c24
                      try clear c24b0
                      try clear c24b1
                      try clear c26
                      try clear c27
                      try clear c27b0
                      try clear c27b1
                      try clear c28
                      try clear c28b0
                      try clear c28b1
                      try clear c32
                      try clear hcz11_0
                      try clear hcz11_1
                      try clear hcz11_2
                      try clear hcz11_3
                      try clear hcz12_0
                      try clear hcz12_1
                      try clear hcz12_2
                      try clear hcz12_3
                      try clear hcz13_0
                      try clear hcz13_1
                      try clear hcz13_2
                      try clear hcz13_3
                      try clear hcz16_0
                      try clear hcz16_1
                      try clear hcz16_2
                      try clear hcz16_3
                      try clear hcz17_0
                      try clear hcz17_1
                      try clear hcz17_2
                      try clear hcz17_3
                      try clear hcz21_0
                      try clear hcz21_1
                      try clear hcz21_2
                      try clear hcz21_3
                      try clear hcz22_0
                      try clear hcz22_1
                      try clear hcz22_2
                      try clear hcz22_3
                      try clear hcz23_0
                      try clear hcz23_1
                      try clear hcz23_2
                      try clear hcz23_3
                      try clear hcz29_0
                      try clear hcz29_1
                      try clear hcz29_2
                      try clear hcz29_3
                      try clear hcz30_0
                      try clear hcz30_1
                      try clear hcz30_2
                      try clear hcz30_3
                      try clear hcz31_0
                      try clear hcz31_1
                      try clear hcz31_2
                      try clear hcz31_3
                      try clear hcz5_0
                      try clear hcz5_1
                      try clear hcz5_2
                      try clear hcz5_3
                      try clear hfz11_0
                      try clear hfz11_1
                      try clear hfz11_2
                      try clear hfz11_3
                      try clear hfz12_0
                      try clear hfz12_1
                      try clear hfz12_2
                      try clear hfz12_3
                      try clear hfz13_0
                      try clear hfz13_1
                      try clear hfz13_2
                      try clear hfz13_3
                      try clear hfz16_0
                      try clear hfz16_1
                      try clear hfz16_2
                      try clear hfz16_3
                      try clear hfz17_0
                      try clear hfz17_1
                      try clear hfz17_2
                      try clear hfz17_3
                      try clear hfz21_0
                      try clear hfz21_1
                      try clear hfz21_2
                      try clear hfz21_3
                      try clear hfz22_0
                      try clear hfz22_1
                      try clear hfz22_2
                      try clear hfz22_3
                      try clear hfz23_0
                      try clear hfz23_1
                      try clear hfz23_2
                      try clear hfz23_3
                      try clear hfz29_0
                      try clear hfz29_1
                      try clear hfz29_2
                      try clear hfz29_3
                      try clear hfz30_0
                      try clear hfz30_1
                      try clear hfz30_2
                      try clear hfz30_3
                      try clear hfz31_0
                      try clear hfz31_1
                      try clear hfz31_2
                      try clear hfz31_3
                      try clear hfz5_0
                      try clear hfz5_1
                      try clear hfz5_2
                      try clear hfz5_3
                      try clear p2
                      obtain ⟨x5_3, rfl, HA, HK3, BK137, HB⟩ := hrel
                      cases gk with
                      | zero => exact absurd HA.out (by simp [spec_ValueRight.l0])
                      | succ k3 =>
                        have H := HA.out
                        clear HA
                        simp only [spec_ValueRight.l0] at H
                        by_cases c33 : x5_3 < (l0_3.length : Int)
                        · rw [if_pos c33] at H
                          have c33b0 : decide (x5_3 < (l0_3.length : Int)) = true := decide_eq_true c33
                          clear c33
                          by_cases c34 : 0 ≤ x5_3
                          · rw [if_pos c34] at H
                            have c34b0 : decide (0 ≤ x5_3) = true := decide_eq_true c34
                            clear c34
                            replace H := Option.bind_eq_some_iff.mp H
                            obtain ⟨t139, A350, H⟩ := H
                            replace H : (if t139 = true then (spec_ValueRight.l0 k3 (wrap64 (x5_3 + 1)) a0_0 a0_1 a0_2 l0_3) else (some false)) = some r := H
                            have A35 := Aside0.mk A350
                            clear A350
                            by_cases c36 : t139 = true
                            · subst c36
                              have H1 : (spec_ValueRight.l0 k3 (wrap64 (x5_3 + 1)) a0_0 a0_1 a0_2 l0_3) = some r := by rw [if_pos rfl] at H; exact H
                              clear H
                              have H := H1
                              clear H1
                              have H' := Aside0.mk H
                              clear H
                              have hcz37_0 : wr.cell? ⟨gb137, 0, none⟩ = some (.int .i64 a0_0) := (blk_cell BK137.out 0).trans rfl
                              have hcz37_1 : wr.cell? ⟨gb137, 1, none⟩ = some (.int .i64 a0_1) := (blk_cell BK137.out 1).trans rfl
                              have hcz37_2 : wr.cell? ⟨gb137, 2, none⟩ = some (.string a0_2) := (blk_cell BK137.out 2).trans rfl
                              have hcz37_3 : wr.cell? ⟨gb137, 3, none⟩ = some (.slice A0_3 l0_3.length c0_3) := (blk_cell BK137.out 3).trans rfl
                              have hfz37_0 := blk_frozen BK137.out 0
                              have hfz37_1 := blk_frozen BK137.out 1
                              have hfz37_2 := blk_frozen BK137.out 2
                              have hfz37_3 := blk_frozen BK137.out 3
                              have p138 : 0 ≤ (x5_3 : Int) := of_decide_eq_true (by first | (with_reducible assumption) | assumption)
                              have q138 : x5_3 < (l0_3.length : Int) := of_decide_eq_true (by first | (with_reducible assumption) | assumption)
                              obtain ⟨ad138, A138_3, c138_3, e138, hx138_0, hx138_1, hx138_2, hx138_3, hl138_3, hi138_3⟩ := at_T27 HR0_3.out x5_3 p138 q138
                              cases e138
                              replace hx138_0 := (HB.out.cell (World.block_lt_of_cell? w _ hx138_0)).trans hx138_0
                              replace hx138_1 := (HB.out.cell (World.block_lt_of_cell? w _ hx138_1)).trans hx138_1
                              replace hx138_2 := (HB.out.cell (World.block_lt_of_cell? w _ hx138_2)).trans hx138_2
                              replace hx138_3 := (HB.out.cell (World.block_lt_of_cell? w _ hx138_3)).trans hx138_3
                              have HR138_3 := Aside0.mk hi138_3
                              have HC138_3 := Aside0.mk hl138_3
                              clear hi138_3 hl138_3
                              replace p138 := eq_true p138
                              replace q138 := eq_true q138
                              go_wp2_with (first | ((with_reducible refine gate_callee (f := 12) rfl ?_); refine goesL_ (some 86) rfl rfl Tryd.func12 (by kernel_rfl) rfl #[.agg #[.int .i64 ((rd_T27 l0_3 x5_3).f0), .int .i64 ((rd_T27 l0_3 x5_3).f1), .string ((rd_T27 l0_3 x5_3).f2), .slice A138_3 ((rd_T27 l0_3 x5_3).f3).length c138_3], .bool false] rfl (by (try simp only [List.map_toArray, List.map_cons, List.map_nil]); first | done | rfl | (simp only [List.length_drop, List.length_take]; rfl)) ?_; (with_reducible refine (ih k3 (by have := HJ2.out; have := HJ24.out; have := HK3.out; omega) ((rd_T27 l0_3 x5_3).f0) ((rd_T27 l0_3 x5_3).f1) ((rd_T27 l0_3 x5_3).f2) _ _ ((rd_T27 l0_3 x5_3).f3) false true _ ?side1 ?side2 A35.out).mono ?_); (case side1 => repeat (first | exact (Kd.C_below HR138_3.out HB.out) | (with_reducible refine Kd.C_alloc ?_ _) | (with_reducible refine Kd.C_drewN ?_ _) | (with_reducible refine Kd.C_drew ?_))); (case side2 => exact HC138_3.out); rintro e w38 ⟨rfl, hb⟩; refine ⟨_, rfl, ?_⟩; have n0_ := Aside0.mk (blk_below (g := gb137) (o := .cells #[.int .i64 a0_0, .int .i64 a0_1, .string a0_2, .slice (some ad138) l0_3.length c0_3] 27 (0, 0)) (by (with_reducible repeat (first | refine blk_drewN ?_ _ | refine blk_drew ?_ | refine blk_alloc ?_ _)); exact BK137.out) hb); have n1_ := Aside0.mk (below_step (by repeat (first | (with_reducible first | exact HB.out | apply below_alloc | apply pw_below_drewN | apply below_drew1 | refine below_set ?_ GE137.out) | exact HB.out)) hb); clear BK137; clear HB; have BK137 := n0_; have HB := n1_; clear n0_ n1_; (try clear hb); (try clear hb2); (try clear hk); (try clear hi)))
                              go_roundg k3
                              case measure => have := HJ2.out; have := HJ24.out; have := HK3.out; omega
                              case rel => exact ⟨(wrap64 (x5_3 + 1)), (by first | rfl | (simp; done) | (simp [*]; done)), H', ⟨by have := HJ2.out; have := HJ24.out; have := HK3.out; omega⟩, ⟨by (with_reducible repeat (first | refine blk_drewN ?_ _ | refine blk_drew ?_ | refine blk_alloc ?_ _)); exact BK137.out⟩, ⟨by repeat (first | (with_reducible first | exact HB.out | apply below_alloc | apply pw_below_drewN | apply below_drew1 | refine below_set ?_ GE137.out) | exact HB.out)⟩⟩
                            · replace c36 := Bool.eq_false_iff.mpr c36
                              subst c36
                              have H1 : (some false) = some r := by rw [if_neg (show ¬ (false = true) by decide)] at H; exact H
                              clear H
                              have H := H1
                              clear H1
                              obtain rfl := Option.some.inj H
                              have hcz39_0 : wr.cell? ⟨gb137, 0, none⟩ = some (.int .i64 a0_0) := (blk_cell BK137.out 0).trans rfl
                              have hcz39_1 : wr.cell? ⟨gb137, 1, none⟩ = some (.int .i64 a0_1) := (blk_cell BK137.out 1).trans rfl
                              have hcz39_2 : wr.cell? ⟨gb137, 2, none⟩ = some (.string a0_2) := (blk_cell BK137.out 2).trans rfl
                              have hcz39_3 : wr.cell? ⟨gb137, 3, none⟩ = some (.slice A0_3 l0_3.length c0_3) := (blk_cell BK137.out 3).trans rfl
                              have hfz39_0 := blk_frozen BK137.out 0
                              have hfz39_1 := blk_frozen BK137.out 1
                              have hfz39_2 := blk_frozen BK137.out 2
                              have hfz39_3 := blk_frozen BK137.out 3
                              have p138 : 0 ≤ (x5_3 : Int) := of_decide_eq_true (by first | (with_reducible assumption) | assumption)
                              have q138 : x5_3 < (l0_3.length : Int) := of_decide_eq_true (by first | (with_reducible assumption) | assumption)
                              obtain ⟨ad138, A138_3, c138_3, e138, hx138_0, hx138_1, hx138_2, hx138_3, hl138_3, hi138_3⟩ := at_T27 HR0_3.out x5_3 p138 q138
                              cases e138
                              replace hx138_0 := (HB.out.cell (World.block_lt_of_cell? w _ hx138_0)).trans hx138_0
                              replace hx138_1 := (HB.out.cell (World.block_lt_of_cell? w _ hx138_1)).trans hx138_1
                              replace hx138_2 := (HB.out.cell (World.block_lt_of_cell? w _ hx138_2)).trans hx138_2
                              replace hx138_3 := (HB.out.cell (World.block_lt_of_cell? w _ hx138_3)).trans hx138_3
                              have HR138_3 := Aside0.mk hi138_3
                              have HC138_3 := Aside0.mk hl138_3
                              clear hi138_3 hl138_3
                              replace p138 := eq_true p138
                              replace q138 := eq_true q138
                              go_wp2_with (first | ((with_reducible refine gate_callee (f := 12) rfl ?_); refine goesL_ (some 86) rfl rfl Tryd.func12 (by kernel_rfl) rfl #[.agg #[.int .i64 ((rd_T27 l0_3 x5_3).f0), .int .i64 ((rd_T27 l0_3 x5_3).f1), .string ((rd_T27 l0_3 x5_3).f2), .slice A138_3 ((rd_T27 l0_3 x5_3).f3).length c138_3], .bool false] rfl (by (try simp only [List.map_toArray, List.map_cons, List.map_nil]); first | done | rfl | (simp only [List.length_drop, List.length_take]; rfl)) ?_; (with_reducible refine (ih k3 (by have := HJ2.out; have := HJ24.out; have := HK3.out; omega) ((rd_T27 l0_3 x5_3).f0) ((rd_T27 l0_3 x5_3).f1) ((rd_T27 l0_3 x5_3).f2) _ _ ((rd_T27 l0_3 x5_3).f3) false false _ ?side1 ?side2 A35.out).mono ?_); (case side1 => repeat (first | exact (Kd.C_below HR138_3.out HB.out) | (with_reducible refine Kd.C_alloc ?_ _) | (with_reducible refine Kd.C_drewN ?_ _) | (with_reducible refine Kd.C_drew ?_))); (case side2 => exact HC138_3.out); rintro e w40 ⟨rfl, hb⟩; refine ⟨_, rfl, ?_⟩; have n0_ := Aside0.mk (blk_below (g := gb137) (o := .cells #[.int .i64 a0_0, .int .i64 a0_1, .string a0_2, .slice (some ad138) l0_3.length c0_3] 27 (0, 0)) (by (with_reducible repeat (first | refine blk_drewN ?_ _ | refine blk_drew ?_ | refine blk_alloc ?_ _)); exact BK137.out) hb); have n1_ := Aside0.mk (below_step (by repeat (first | (with_reducible first | exact HB.out | apply below_alloc | apply pw_below_drewN | apply below_drew1 | refine below_set ?_ GE137.out) | exact HB.out)) hb); clear BK137; clear HB; have BK137 := n0_; have HB := n1_; clear n0_ n1_; (try clear hb); (try clear hb2); (try clear hk); (try clear hi)))
                              go_ret
                              exact ⟨by first | rfl | (simp [errW_none, errW_some] <;> rfl) | (simp [*, errW_none, errW_some] <;> rfl), by repeat (first | (with_reducible first | exact HB.out | apply below_alloc | apply pw_below_drewN | apply below_drew1 | refine below_set ?_ GE137.out) | exact HB.out)⟩
                          · rw [if_neg c34] at H
                            exact absurd H (by simp)
                        · rw [if_neg c33] at H
                          have c33b0 : decide (x5_3 < (l0_3.length : Int)) = false := decide_eq_false c33
                          clear c33
                          obtain rfl := Option.some.inj H
                          have hcz41_0 : wr.cell? ⟨gb137, 0, none⟩ = some (.int .i64 a0_0) := (blk_cell BK137.out 0).trans rfl
                          have hcz41_1 : wr.cell? ⟨gb137, 1, none⟩ = some (.int .i64 a0_1) := (blk_cell BK137.out 1).trans rfl
                          have hcz41_2 : wr.cell? ⟨gb137, 2, none⟩ = some (.string a0_2) := (blk_cell BK137.out 2).trans rfl
                          have hcz41_3 : wr.cell? ⟨gb137, 3, none⟩ = some (.slice A0_3 l0_3.length c0_3) := (blk_cell BK137.out 3).trans rfl
                          have hfz41_0 := blk_frozen BK137.out 0
                          have hfz41_1 := blk_frozen BK137.out 1
                          have hfz41_2 := blk_frozen BK137.out 2
                          have hfz41_3 := blk_frozen BK137.out 3
                          go_wp2
                          go_ret
                          exact ⟨by first | rfl | (simp [errW_none, errW_some] <;> rfl) | (simp [*, errW_none, errW_some] <;> rfl), by repeat (first | (with_reducible first | exact HB.out | apply below_alloc | apply pw_below_drewN | apply below_drew1 | refine below_set ?_ GE137.out) | exact HB.out)⟩
            · rw [if_neg c24] at H
              have c24b0 : (a0_0 == 5) = false := beq_eq_false_iff_ne.mpr c24
              have c24b1 : (a0_0 != 5) = true := bne_iff_ne.mpr c24
              obtain rfl := Option.some.inj H
              go_wp2
              go_ret
              exact ⟨by first | rfl | (simp [errW_none, errW_some] <;> rfl) | (simp [*, errW_none, errW_some] <;> rfl), by repeat (first | (with_reducible first | exact HB.out | apply below_alloc | apply pw_below_drewN | apply below_drew1 | refine below_set ?_ GE137.out) | exact HB.out)⟩

end Go.Proofs.YtabaldpjahcilaaDoor.QD
