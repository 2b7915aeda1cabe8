/-
  MERGED BY A PROGRAM OF THIS SESSION (wip/pack.py): QN0, QN1, QN2, QN3, QN4, QN5, QN8.
-/
import Derived.Test.YtnmhoghmhglimaaDoorProg
import Derived.Below
import Derived.Deep.Draws
import Derived.Deep.AppendLies
import Derived.Maps.AppendAt
import Derived.OwnWalk
import Derived.Laws.BytesArg
import Derived.Laws.MakeOwn
import Derived.Laws.OwnMore
import Derived.Deep.OwnRows
import Derived.Tactics
import Derived.Lib.ConvBytes
import Derived.Laws.Slices
import Derived.WalkKit
import Derived.KernelRfl
import Derived.RowKit3
import Derived.Deep.LoopGhost
import Derived.Deep.QuietTactic
import Derived.BigQuiet
import Derived.WideLaws
import Derived.Deep.DeepCutAuto
import Derived.Deep.CutBlock
import Derived.Deep.RegionHeld3
import Derived.Laws.Rows
import Derived.Lib.AppendStr
import Derived.ArgAppend
import Derived.Laws.IdiomCopy
import Derived.OrdersHeld
import Derived.Laws.BitsLemmas
import Derived.RowKit
import Derived.Test.YtnmhoghmhglimaaDoorVA
-- WRITTEN BY A PROGRAM OF THIS SESSION (wip/print2.py): the print, with contracts of this session's own let in. Not trusted: Lean checks it.
namespace Go.Proofs.YtnmhoghmhglimaaDoor.QN
open Go.RowKit Go.Proofs.YtnmhoghmhglimaaDoorW.PrintWords Go.Proofs.YtnmhoghmhglimaaDoorW.PrintLast Go.Proofs.YtnmhoghmhglimaaDoorW.PrintMore
attribute [local go_sem] max2_int min2_int max_two min_two max_three min_three max_four min_four   -- for this text's walks alone
set_option linter.unusedVariables false
set_option linter.unusedSimpArgs false



def errW : Option Int → Value
  | none => .nilIface
  | some c => .iface 0 (.int .i64 c)
theorem errW_none : errW none = .nilIface := rfl
theorem errW_some (c : Int) : errW (some c) = .iface 0 (.int .i64 c) := rfl

theorem info9 : (Tryd.prog.info? 9).map (fun i => (i.zero, i.size, i.bytes)) = some (some (.string ⟨#[]⟩), 1, 16) := by kernel_rfl
theorem info54 : (Tryd.prog.info? 54).map (fun i => (i.zero, i.size, i.bytes)) = some (some (.agg #[(.string ⟨#[]⟩), (.int .i64 0), (.int .i64 0), (.string ⟨#[]⟩), (.slice none 0 0)]), 5, 72) := by kernel_rfl
theorem info72 : (Tryd.prog.info? 72).map (fun i => (i.zero, i.size, i.bytes)) = some (some (.agg #[(.bool false), (.string ⟨#[]⟩)]), 2, 24) := by kernel_rfl
-- the values' own types
/-! #### struct type 52, nested in itself -/
structure S52 where
  f0 : Int
  f1 : Int
  f2 : ByteArray
  f3 : (List S52)
def z52 : S52 := ⟨(0 : Int), (0 : Int), (⟨#[]⟩ : ByteArray), ([] : List S52)⟩
def F52 (d : Kd S52) : Kd S52 := Kd.iso (Kd.pair (Kd.int .i64) (Kd.pair (Kd.int .i64) (Kd.pair Kd.string (Kd.slice 52 d)))) (fun x : S52 => (x.f0, x.f1, x.f2, x.f3))
theorem mono52 : Kd.Mono F52 := Kd.mono_iso _ (Kd.mono_pair (Kd.mono_const _) (Kd.mono_pair (Kd.mono_const _) (Kd.mono_pair (Kd.mono_const _) (Kd.mono_slice 52 Kd.mono_id))))
theorem sub52 : Kd.Sub F52 [52] := Kd.sub_iso _ (Kd.sub_pair (Kd.sub_const _ (by decide)) (Kd.sub_pair (Kd.sub_const _ (by decide)) (Kd.sub_pair (Kd.sub_const _ (by decide)) (Kd.sub_slice 52 (by decide) Kd.sub_id))))
theorem sz52 : ∀ n, (Kd.upto F52 4 [52] n).sz = 4 := Kd.upto_sz (fun _ => rfl)
def k52 : Kd S52 := Kd.fix F52 4 [52] sz52 (Kd.upto_E sub52)
theorem k52_heap : Kd.Heap k52 := Kd.heap_fix (fun _ h_ => Kd.heap_iso _ (Kd.heap_pair (Kd.heap_int .i64) (Kd.heap_pair (Kd.heap_int .i64) (Kd.heap_pair Kd.heap_string (Kd.heap_slice 52 h_)))))
theorem k52_open {w : World} {x : S52} {cs : List Value} (h : k52.K w x cs) : ∃ A3 c3, cs = [.int .i64 x.f0, .int .i64 x.f1, .string x.f2, .slice A3 x.f3.length c3] ∧ x.f3.length ≤ c3 ∧ k52.C w A3 x.f3.length x.f3 := by
  obtain ⟨n, h⟩ := h
  cases n with
  | zero => exact h.elim
  | succ n =>
    obtain ⟨_, _, rfl, rfl, ⟨_, _, rfl, rfl, ⟨_, _, rfl, rfl, ⟨A3, c3, rfl, l3, g3⟩⟩⟩⟩ := h
    exact ⟨A3, c3, rfl, l3, Kd.fix_C g3⟩
theorem k52_mk (w : World) (x : S52) {A3 : Option Addr} {c3 : Nat} (l3 : x.f3.length ≤ c3) (g3 : k52.C w A3 x.f3.length x.f3) : k52.K w x [.int .i64 x.f0, .int .i64 x.f1, .string x.f2, .slice A3 x.f3.length c3] := by
  obtain ⟨n3, q3⟩ := Kd.fix_C_back mono52 g3
  have r3 := Kd.upto_C_le mono52 sz52 (show n3 ≤ n3 by omega) q3
  exact ⟨n3 + 1, ⟨[.int .i64 x.f0], [.int .i64 x.f1, .string x.f2, .slice A3 x.f3.length c3], rfl, rfl, ⟨[.int .i64 x.f1], [.string x.f2, .slice A3 x.f3.length c3], rfl, rfl, ⟨[.string x.f2], [.slice A3 x.f3.length c3], rfl, rfl, ⟨A3, c3, rfl, l3, r3⟩⟩⟩⟩⟩
theorem k52_mkM (w : World) (base : Nat) (ok : Nat → Prop) (x : S52) {v3 : Value} (g3 : k52.R 52 w base ok v3 x.f3) : k52.M w base ok x [.int .i64 x.f0, .int .i64 x.f1, .string x.f2, v3] := by
  obtain ⟨n3, q3⟩ := Kd.fix_R_back mono52 g3
  have r3 := Kd.upto_R_le mono52 sz52 (show n3 ≤ n3 by omega) q3
  exact ⟨n3 + 1, ⟨[.int .i64 x.f0], [.int .i64 x.f1, .string x.f2, v3], rfl, rfl, ⟨[.int .i64 x.f1], [.string x.f2, v3], rfl, rfl, ⟨[.string x.f2], [v3], rfl, rfl, ⟨v3, rfl, r3⟩⟩⟩⟩⟩
def rd_T52 (xs : List S52) (i : Int) : S52 := xs.getD i.toNat z52
theorem at_T52 {w : World} {A : Option Addr} {n : Nat} {xs : List S52} (h : Kd.C k52 w A n xs) (i : Int) (h0 : 0 ≤ i) (h1 : i < n) : ∃ ad A3 c3, A = some ad ∧ w.cell? (ad.add (i.toNat * 4)) = some (.int .i64 (rd_T52 xs i).f0) ∧ w.cell? ⟨(ad.add (i.toNat * 4)).block, (ad.add (i.toNat * 4)).off + 1, none⟩ = some (.int .i64 (rd_T52 xs i).f1) ∧ w.cell? ⟨(ad.add (i.toNat * 4)).block, (ad.add (i.toNat * 4)).off + 2, none⟩ = some (.string (rd_T52 xs i).f2) ∧ w.cell? ⟨(ad.add (i.toNat * 4)).block, (ad.add (i.toNat * 4)).off + 3, none⟩ = some (.slice A3 (rd_T52 xs i).f3.length c3) ∧ (rd_T52 xs i).f3.length ≤ c3 ∧ k52.C w A3 (rd_T52 xs i).f3.length (rd_T52 xs i).f3 := by
  obtain ⟨ad, c, e, _, hK, hc0⟩ := Kd.C_get h z52 i h0 h1
  have hc : ∀ j u, c[j]? = some u → w.cell? (ad.add (i.toNat * 4 + j)) = some u := hc0
  obtain ⟨A3, c3, rfl, l3, g3⟩ := k52_open hK
  exact ⟨ad, A3, c3, e, hc 0 _ rfl, by rw [← add_field _ _ 1 (by omega)]; exact hc 1 _ rfl, by rw [← add_field _ _ 2 (by omega)]; exact hc 2 _ rfl, by rw [← add_field _ _ 3 (by omega)]; exact hc 3 _ rfl, l3, g3⟩

/-! #### struct type 54 -/
structure S54 where
  f0 : ByteArray
  f1 : S52
def z54 : S54 := ⟨(⟨#[]⟩ : ByteArray), z52⟩
def k54 : Kd S54 := Kd.iso (Kd.pair Kd.string k52) (fun x : S54 => (x.f0, x.f1))
theorem k54_heap : Kd.Heap k54 := Kd.heap_iso _ (Kd.heap_pair Kd.heap_string k52_heap)
theorem k54_open {w : World} {x : S54} {cs : List Value} (h : k54.K w x cs) : ∃ A4 c4, cs = [.string x.f0, .int .i64 x.f1.f0, .int .i64 x.f1.f1, .string x.f1.f2, .slice A4 x.f1.f3.length c4] ∧ x.f1.f3.length ≤ c4 ∧ k52.C w A4 x.f1.f3.length x.f1.f3 := by
  obtain ⟨_, _, rfl, rfl, s1⟩ := h
  obtain ⟨A4, c4, rfl, l4, g4⟩ := k52_open s1
  exact ⟨A4, c4, rfl, l4, g4⟩
theorem k54_mk (w : World) (x : S54) {A4 : Option Addr} {c4 : Nat} (l4 : x.f1.f3.length ≤ c4) (g4 : k52.C w A4 x.f1.f3.length x.f1.f3) : k54.K w x [.string x.f0, .int .i64 x.f1.f0, .int .i64 x.f1.f1, .string x.f1.f2, .slice A4 x.f1.f3.length c4] := ⟨[.string x.f0], [.int .i64 x.f1.f0, .int .i64 x.f1.f1, .string x.f1.f2, .slice A4 x.f1.f3.length c4], rfl, rfl, (k52_mk w x.f1 l4 g4)⟩
theorem k54_openF {W : World} {ok : Nat → Prop} {x : S54} {cs : List Value} (h : Kd.FK k54 W ok x cs) : ∃ A4 c4, cs = [.string x.f0, .int .i64 x.f1.f0, .int .i64 x.f1.f1, .string x.f1.f2, .slice A4 x.f1.f3.length c4] ∧ x.f1.f3.length ≤ c4 ∧ Kd.F k52 W ok A4 x.f1.f3.length x.f1.f3 := by
  obtain ⟨A4, c4, rfl, l4, _⟩ := k54_open (Kd.FK_now h)
  exact ⟨A4, c4, rfl, l4, (fun W' hW => by obtain ⟨A4_, c4_, he, l4_, g4_⟩ := k54_open (h W' hW); injection (Option.some.inj (show some (Value.slice A4 x.f1.f3.length c4) = some (Value.slice A4_ x.f1.f3.length c4_) from congrArg (fun l => l[4]?) he)) with ha_ _ _; rw [ha_]; exact g4_)⟩
theorem k54_mkF (W : World) (ok : Nat → Prop) (x : S54) {A4 : Option Addr} {c4 : Nat} (l4 : x.f1.f3.length ≤ c4) (g4 : Kd.F k52 W ok A4 x.f1.f3.length x.f1.f3) : Kd.FK k54 W ok x [.string x.f0, .int .i64 x.f1.f0, .int .i64 x.f1.f1, .string x.f1.f2, .slice A4 x.f1.f3.length c4] := fun W2 hW => k54_mk W2 x l4 (g4 W2 hW)
def rd_T54 (xs : List S54) (i : Int) : S54 := xs.getD i.toNat z54
theorem at_T54 {w : World} {A : Option Addr} {n : Nat} {xs : List S54} (h : Kd.C k54 w A n xs) (i : Int) (h0 : 0 ≤ i) (h1 : i < n) : ∃ ad A4 c4, A = some ad ∧ w.cell? (ad.add (i.toNat * 5)) = some (.string (rd_T54 xs i).f0) ∧ w.cell? ⟨(ad.add (i.toNat * 5)).block, (ad.add (i.toNat * 5)).off + 1, none⟩ = some (.int .i64 (rd_T54 xs i).f1.f0) ∧ w.cell? ⟨(ad.add (i.toNat * 5)).block, (ad.add (i.toNat * 5)).off + 2, none⟩ = some (.int .i64 (rd_T54 xs i).f1.f1) ∧ w.cell? ⟨(ad.add (i.toNat * 5)).block, (ad.add (i.toNat * 5)).off + 3, none⟩ = some (.string (rd_T54 xs i).f1.f2) ∧ w.cell? ⟨(ad.add (i.toNat * 5)).block, (ad.add (i.toNat * 5)).off + 4, none⟩ = some (.slice A4 (rd_T54 xs i).f1.f3.length c4) ∧ (rd_T54 xs i).f1.f3.length ≤ c4 ∧ k52.C w A4 (rd_T54 xs i).f1.f3.length (rd_T54 xs i).f1.f3 := by
  obtain ⟨ad, c, e, _, hK, hc0⟩ := Kd.C_get h z54 i h0 h1
  have hc : ∀ j u, c[j]? = some u → w.cell? (ad.add (i.toNat * 5 + j)) = some u := hc0
  obtain ⟨A4, c4, rfl, l4, g4⟩ := k54_open hK
  exact ⟨ad, A4, c4, e, hc 0 _ rfl, by rw [← add_field _ _ 1 (by omega)]; exact hc 1 _ rfl, by rw [← add_field _ _ 2 (by omega)]; exact hc 2 _ rfl, by rw [← add_field _ _ 3 (by omega)]; exact hc 3 _ rfl, by rw [← add_field _ _ 4 (by omega)]; exact hc 4 _ rfl, l4, g4⟩

/-! #### struct type 72 -/
structure S72 where
  f0 : Bool
  f1 : ByteArray
def z72 : S72 := ⟨false, (⟨#[]⟩ : ByteArray)⟩
def k72 : Kd S72 := Kd.iso (Kd.pair Kd.bool Kd.string) (fun x : S72 => (x.f0, x.f1))
theorem k72_open {w : World} {x : S72} {cs : List Value} (h : k72.K w x cs) : cs = [.bool x.f0, .string x.f1] := by
  obtain ⟨_, _, rfl, rfl, rfl⟩ := h
  exact rfl
theorem k72_mkM (w : World) (base : Nat) (ok : Nat → Prop) (x : S72)  : k72.M w base ok x [.bool x.f0, .string x.f1] := ⟨[.bool x.f0], [.string x.f1], rfl, rfl, rfl⟩
def rd_T72 (xs : List S72) (i : Int) : S72 := xs.getD i.toNat z72
theorem at_T72 {w : World} {A : Option Addr} {n : Nat} {xs : List S72} (h : Kd.C k72 w A n xs) (i : Int) (h0 : 0 ≤ i) (h1 : i < n) : ∃ ad , A = some ad ∧ w.cell? (ad.add (i.toNat * 2)) = some (.bool (rd_T72 xs i).f0) ∧ w.cell? ⟨(ad.add (i.toNat * 2)).block, (ad.add (i.toNat * 2)).off + 1, none⟩ = some (.string (rd_T72 xs i).f1) := by
  obtain ⟨ad, c, e, _, hK, hc0⟩ := Kd.C_get h z72 i h0 h1
  have hc : ∀ j u, c[j]? = some u → w.cell? (ad.add (i.toNat * 2 + j)) = some u := hc0
  obtain rfl := k72_open hK
  exact ⟨ad, e, hc 0 _ rfl, by rw [← add_field _ _ 1 (by omega)]; exact hc 1 _ rfl⟩

def rd_L7 (xs : List (List S54)) (i : Int) : (List S54) := xs.getD i.toNat ([] : List S54)
def rd_L8 (xs : List (List S52)) (i : Int) : (List S52) := xs.getD i.toNat ([] : List S52)
def rd_L9 (xs : List (List (List S54))) (i : Int) : (List (List S54)) := xs.getD i.toNat ([] : List (List S54))
end Go.Proofs.YtnmhoghmhglimaaDoor.QN
-- WRITTEN BY A PROGRAM OF THIS SESSION (wip/print2.py): the print, with contracts of this session's own let in. Not trusted: Lean checks it.
namespace Go.Proofs.YtnmhoghmhglimaaDoor.QN
open Go.RowKit Go.Proofs.YtnmhoghmhglimaaDoorW.PrintWords Go.Proofs.YtnmhoghmhglimaaDoorW.PrintLast Go.Proofs.YtnmhoghmhglimaaDoorW.PrintMore
attribute [local go_sem] max2_int min2_int max_two min_two max_three min_three max_four min_four   -- for this text's walks alone
set_option linter.unusedVariables false
set_option linter.unusedSimpArgs false

/-! ### laws_kind9: function 24 -/
def laws_kind9.f (a0 : Int) : Option (Int) := some (wrap64 (0 + (Int.tmod (wrap64 (a0)) 5)))
/-! ### spec_flat: function 67 -/
def spec_flat.f (a0_0 : Int) (a0_1 : Int) (a0_2 : ByteArray) (l0_3 : List (S52)) : Option (Bool) := if a0_0 ≥ 0 then (if a0_0 ≤ 4 then (if (l0_3.length : Int) = 0 then (if a0_1 = 0 then (if a0_2.toList = ([] : List UInt8) then (some (decide ((a0_2.size : Int) ≤ 200))) else (if a0_0 = 2 then (some (decide ((a0_2.size : Int) ≤ 200))) else (some false))) else (if a0_0 = 1 then (if a0_2.toList = ([] : List UInt8) then (some (decide ((a0_2.size : Int) ≤ 200))) else (if a0_0 = 2 then (some (decide ((a0_2.size : Int) ≤ 200))) else (some false))) else (some false))) else (some false)) else (some false)) else (some false)
set_option maxHeartbeats 8000000 in
set_option maxRecDepth 100000 in
theorem spec_flat.calls (a0_0 : Int) (a0_1 : Int) (a0_2 : ByteArray) (A0_3 : Option Addr) (c0_3 : Nat) (l0_3 : List (S52)) (r : Bool) (w : World) (hr0_3 : Kd.C k52 w A0_3 l0_3.length l0_3) (hc0_3 : l0_3.length ≤ c0_3) (h : spec_flat.f a0_0 a0_1 a0_2 l0_3 = some r) :
    Calls Tryd.prog 67 #[.agg #[.int .i64 a0_0, .int .i64 a0_1, .string a0_2, .slice A0_3 l0_3.length c0_3]] w fun e w' => e = .returned (.bool r) ∧ Below w.heap.size w w' := by
  have hu52 := Tryd.underlying52
  have HR0_3 := Aside0.mk hr0_3
  have HC0_3 := Aside0.mk hc0_3
  clear hr0_3 hc0_3
  have HB := Aside0.mk (Below.refl w.heap.size w)
  have H : (if a0_0 ≥ 0 then (if a0_0 ≤ 4 then (if (l0_3.length : Int) = 0 then (if a0_1 = 0 then (if a0_2.toList = ([] : List UInt8) then (some (decide ((a0_2.size : Int) ≤ 200))) else (if a0_0 = 2 then (some (decide ((a0_2.size : Int) ≤ 200))) else (some false))) else (if a0_0 = 1 then (if a0_2.toList = ([] : List UInt8) then (some (decide ((a0_2.size : Int) ≤ 200))) else (if a0_0 = 2 then (some (decide ((a0_2.size : Int) ≤ 200))) else (some false))) else (some false))) else (some false)) else (some false)) else (some false)) = some r := h
  clear h
  by_cases c2 : a0_0 ≥ 0
  · rw [if_pos c2] at H
    have c2b0 : decide (0 ≤ a0_0) = true := decide_eq_true c2
    clear c2
    by_cases c3 : a0_0 ≤ 4
    · rw [if_pos c3] at H
      have c3b0 : decide (a0_0 ≤ 4) = true := decide_eq_true c3
      clear c3
      by_cases c4 : (l0_3.length : Int) = 0
      · rw [if_pos c4] at H
        have c4b0 : ((l0_3.length : Int) == 0) = true := beq_iff_eq.mpr c4
        have c4b1 : ((l0_3.length : Int) != 0) = false := bne_eq_false_iff_eq.mpr c4
        clear c4
        by_cases c5 : a0_1 = 0
        · rw [if_pos c5] at H
          have c5b0 : (a0_1 == 0) = true := beq_iff_eq.mpr c5
          have c5b1 : (a0_1 != 0) = false := bne_eq_false_iff_eq.mpr c5
          clear c5
          by_cases c6 : a0_2.toList = ([] : List UInt8)
          · rw [if_pos c6] at H
            have c6b0 : (a0_2.toList == ([] : List UInt8)) = true := beq_iff_eq.mpr c6
            have c6b1 : (a0_2.toList != ([] : List UInt8)) = false := bne_eq_false_iff_eq.mpr c6
            clear c6
            obtain rfl := Option.some.inj H
            go_enter Tryd.func67, Tryd.ntmps67
            go_wp2_with (first | ((with_reducible refine gate_dst (N := 1) rfl ?_); (try (refine gate_guard (by rfl) ?_; dsimp only)); refine box_event ?hg (N := 1) ?hd (cs := #[.int .i64 a0_0, .int .i64 a0_1, .string a0_2, .slice A0_3 l0_3.length c0_3]) (t := 52) ?hr ?_; (case hd => rfl); (case hg => rfl); (case hr => first | (go_simp; done) | (go_simp; rfl)); intro gb101 hg w7 hbox hb; have n0_ := Aside0.mk (below_step (by repeat (first | (with_reducible first | exact HB.out | apply below_alloc | apply pw_below_drewN | apply below_drew1) | exact HB.out)) hb); have n1_ := Aside0.mk (hbox); have n2_ := Aside0.mk ((by rw [hg]; exact (below_size (by repeat (first | (with_reducible first | exact HB.out | apply below_alloc | apply pw_below_drewN | apply below_drew1) | exact HB.out))) : w.heap.size ≤ gb101)); have n3_ := Aside0.mk ((by rw [hg]; exact (below_size (by repeat (first | (with_reducible first | exact HB.out | apply below_alloc | apply pw_below_drewN | apply below_drew1) | exact HB.out))) : w.heap.size ≤ gb101)); clear HB; have HB := n0_; have BK101 := n1_; have GW101 := n2_; have GE101 := n3_; clear n0_ n1_ n2_ n3_; clear hb hbox hg; have hcz8_0 : w7.cell? ⟨gb101, 0, none⟩ = some (.int .i64 a0_0) := (blk_cell BK101.out 0).trans rfl; have hcz8_1 : w7.cell? ⟨gb101, 1, none⟩ = some (.int .i64 a0_1) := (blk_cell BK101.out 1).trans rfl; have hcz8_2 : w7.cell? ⟨gb101, 2, none⟩ = some (.string a0_2) := (blk_cell BK101.out 2).trans rfl; have hcz8_3 : w7.cell? ⟨gb101, 3, none⟩ = some (.slice A0_3 l0_3.length c0_3) := (blk_cell BK101.out 3).trans rfl; have hfz8_0 := blk_frozen BK101.out 0; have hfz8_1 := blk_frozen BK101.out 1; have hfz8_2 := blk_frozen BK101.out 2; have hfz8_3 := blk_frozen BK101.out 3))
            go_ret
            exact ⟨by first | rfl | (simp [errW_none, errW_some] <;> rfl) | (simp [*, errW_none, errW_some] <;> rfl), by repeat (first | (with_reducible first | exact HB.out | apply below_alloc | apply pw_below_drewN | apply below_drew1 | refine below_set ?_ GE101.out) | exact HB.out)⟩
          · rw [if_neg c6] at H
            have c6b0 : (a0_2.toList == ([] : List UInt8)) = false := beq_eq_false_iff_ne.mpr c6
            have c6b1 : (a0_2.toList != ([] : List UInt8)) = true := bne_iff_ne.mpr c6
            by_cases c9 : a0_0 = 2
            · rw [if_pos c9] at H
              have c9b0 : (a0_0 == 2) = true := beq_iff_eq.mpr c9
              have c9b1 : (a0_0 != 2) = false := bne_eq_false_iff_eq.mpr c9
              clear c9
              obtain rfl := Option.some.inj H
              go_enter Tryd.func67, Tryd.ntmps67
              go_wp2_with (first | ((with_reducible refine gate_dst (N := 1) rfl ?_); (try (refine gate_guard (by rfl) ?_; dsimp only)); refine box_event ?hg (N := 1) ?hd (cs := #[.int .i64 a0_0, .int .i64 a0_1, .string a0_2, .slice A0_3 l0_3.length c0_3]) (t := 52) ?hr ?_; (case hd => rfl); (case hg => rfl); (case hr => first | (go_simp; done) | (go_simp; rfl)); intro gb101 hg w10 hbox hb; have n0_ := Aside0.mk (below_step (by repeat (first | (with_reducible first | exact HB.out | apply below_alloc | apply pw_below_drewN | apply below_drew1) | exact HB.out)) hb); have n1_ := Aside0.mk (hbox); have n2_ := Aside0.mk ((by rw [hg]; exact (below_size (by repeat (first | (with_reducible first | exact HB.out | apply below_alloc | apply pw_below_drewN | apply below_drew1) | exact HB.out))) : w.heap.size ≤ gb101)); have n3_ := Aside0.mk ((by rw [hg]; exact (below_size (by repeat (first | (with_reducible first | exact HB.out | apply below_alloc | apply pw_below_drewN | apply below_drew1) | exact HB.out))) : w.heap.size ≤ gb101)); clear HB; have HB := n0_; have BK101 := n1_; have GW101 := n2_; have GE101 := n3_; clear n0_ n1_ n2_ n3_; clear hb hbox hg; have hcz11_0 : w10.cell? ⟨gb101, 0, none⟩ = some (.int .i64 a0_0) := (blk_cell BK101.out 0).trans rfl; have hcz11_1 : w10.cell? ⟨gb101, 1, none⟩ = some (.int .i64 a0_1) := (blk_cell BK101.out 1).trans rfl; have hcz11_2 : w10.cell? ⟨gb101, 2, none⟩ = some (.string a0_2) := (blk_cell BK101.out 2).trans rfl; have hcz11_3 : w10.cell? ⟨gb101, 3, none⟩ = some (.slice A0_3 l0_3.length c0_3) := (blk_cell BK101.out 3).trans rfl; have hfz11_0 := blk_frozen BK101.out 0; have hfz11_1 := blk_frozen BK101.out 1; have hfz11_2 := blk_frozen BK101.out 2; have hfz11_3 := blk_frozen BK101.out 3))
              go_ret
              exact ⟨by first | rfl | (simp [errW_none, errW_some] <;> rfl) | (simp [*, errW_none, errW_some] <;> rfl), by repeat (first | (with_reducible first | exact HB.out | apply below_alloc | apply pw_below_drewN | apply below_drew1 | refine below_set ?_ GE101.out) | exact HB.out)⟩
            · rw [if_neg c9] at H
              have c9b0 : (a0_0 == 2) = false := beq_eq_false_iff_ne.mpr c9
              have c9b1 : (a0_0 != 2) = true := bne_iff_ne.mpr c9
              obtain rfl := Option.some.inj H
              go_enter Tryd.func67, Tryd.ntmps67
              go_wp2_with (first | ((with_reducible refine gate_dst (N := 1) rfl ?_); (try (refine gate_guard (by rfl) ?_; dsimp only)); refine box_event ?hg (N := 1) ?hd (cs := #[.int .i64 a0_0, .int .i64 a0_1, .string a0_2, .slice A0_3 l0_3.length c0_3]) (t := 52) ?hr ?_; (case hd => rfl); (case hg => rfl); (case hr => first | (go_simp; done) | (go_simp; rfl)); intro gb101 hg w12 hbox hb; have n0_ := Aside0.mk (below_step (by repeat (first | (with_reducible first | exact HB.out | apply below_alloc | apply pw_below_drewN | apply below_drew1) | exact HB.out)) hb); have n1_ := Aside0.mk (hbox); have n2_ := Aside0.mk ((by rw [hg]; exact (below_size (by repeat (first | (with_reducible first | exact HB.out | apply below_alloc | apply pw_below_drewN | apply below_drew1) | exact HB.out))) : w.heap.size ≤ gb101)); have n3_ := Aside0.mk ((by rw [hg]; exact (below_size (by repeat (first | (with_reducible first | exact HB.out | apply below_alloc | apply pw_below_drewN | apply below_drew1) | exact HB.out))) : w.heap.size ≤ gb101)); clear HB; have HB := n0_; have BK101 := n1_; have GW101 := n2_; have GE101 := n3_; clear n0_ n1_ n2_ n3_; clear hb hbox hg; have hcz13_0 : w12.cell? ⟨gb101, 0, none⟩ = some (.int .i64 a0_0) := (blk_cell BK101.out 0).trans rfl; have hcz13_1 : w12.cell? ⟨gb101, 1, none⟩ = some (.int .i64 a0_1) := (blk_cell BK101.out 1).trans rfl; have hcz13_2 : w12.cell? ⟨gb101, 2, none⟩ = some (.string a0_2) := (blk_cell BK101.out 2).trans rfl; have hcz13_3 : w12.cell? ⟨gb101, 3, none⟩ = some (.slice A0_3 l0_3.length c0_3) := (blk_cell BK101.out 3).trans rfl; have hfz13_0 := blk_frozen BK101.out 0; have hfz13_1 := blk_frozen BK101.out 1; have hfz13_2 := blk_frozen BK101.out 2; have hfz13_3 := blk_frozen BK101.out 3))
              go_ret
              exact ⟨by first | rfl | (simp [errW_none, errW_some] <;> rfl) | (simp [*, errW_none, errW_some] <;> rfl), by repeat (first | (with_reducible first | exact HB.out | apply below_alloc | apply pw_below_drewN | apply below_drew1 | refine below_set ?_ GE101.out) | exact HB.out)⟩
        · rw [if_neg c5] at H
          have c5b0 : (a0_1 == 0) = false := beq_eq_false_iff_ne.mpr c5
          have c5b1 : (a0_1 != 0) = true := bne_iff_ne.mpr c5
          by_cases c14 : a0_0 = 1
          · rw [if_pos c14] at H
            have c14b0 : (a0_0 == 1) = true := beq_iff_eq.mpr c14
            have c14b1 : (a0_0 != 1) = false := bne_eq_false_iff_eq.mpr c14
            clear c14
            by_cases c15 : a0_2.toList = ([] : List UInt8)
            · rw [if_pos c15] at H
              have c15b0 : (a0_2.toList == ([] : List UInt8)) = true := beq_iff_eq.mpr c15
              have c15b1 : (a0_2.toList != ([] : List UInt8)) = false := bne_eq_false_iff_eq.mpr c15
              clear c15
              obtain rfl := Option.some.inj H
              go_enter Tryd.func67, Tryd.ntmps67
              go_wp2_with (first | ((with_reducible refine gate_dst (N := 1) rfl ?_); (try (refine gate_guard (by rfl) ?_; dsimp only)); refine box_event ?hg (N := 1) ?hd (cs := #[.int .i64 a0_0, .int .i64 a0_1, .string a0_2, .slice A0_3 l0_3.length c0_3]) (t := 52) ?hr ?_; (case hd => rfl); (case hg => rfl); (case hr => first | (go_simp; done) | (go_simp; rfl)); intro gb101 hg w16 hbox hb; have n0_ := Aside0.mk (below_step (by repeat (first | (with_reducible first | exact HB.out | apply below_alloc | apply pw_below_drewN | apply below_drew1) | exact HB.out)) hb); have n1_ := Aside0.mk (hbox); have n2_ := Aside0.mk ((by rw [hg]; exact (below_size (by repeat (first | (with_reducible first | exact HB.out | apply below_alloc | apply pw_below_drewN | apply below_drew1) | exact HB.out))) : w.heap.size ≤ gb101)); have n3_ := Aside0.mk ((by rw [hg]; exact (below_size (by repeat (first | (with_reducible first | exact HB.out | apply below_alloc | apply pw_below_drewN | apply below_drew1) | exact HB.out))) : w.heap.size ≤ gb101)); clear HB; have HB := n0_; have BK101 := n1_; have GW101 := n2_; have GE101 := n3_; clear n0_ n1_ n2_ n3_; clear hb hbox hg; have hcz17_0 : w16.cell? ⟨gb101, 0, none⟩ = some (.int .i64 a0_0) := (blk_cell BK101.out 0).trans rfl; have hcz17_1 : w16.cell? ⟨gb101, 1, none⟩ = some (.int .i64 a0_1) := (blk_cell BK101.out 1).trans rfl; have hcz17_2 : w16.cell? ⟨gb101, 2, none⟩ = some (.string a0_2) := (blk_cell BK101.out 2).trans rfl; have hcz17_3 : w16.cell? ⟨gb101, 3, none⟩ = some (.slice A0_3 l0_3.length c0_3) := (blk_cell BK101.out 3).trans rfl; have hfz17_0 := blk_frozen BK101.out 0; have hfz17_1 := blk_frozen BK101.out 1; have hfz17_2 := blk_frozen BK101.out 2; have hfz17_3 := blk_frozen BK101.out 3))
              go_ret
              exact ⟨by first | rfl | (simp [errW_none, errW_some] <;> rfl) | (simp [*, errW_none, errW_some] <;> rfl), by repeat (first | (with_reducible first | exact HB.out | apply below_alloc | apply pw_below_drewN | apply below_drew1 | refine below_set ?_ GE101.out) | exact HB.out)⟩
            · rw [if_neg c15] at H
              have c15b0 : (a0_2.toList == ([] : List UInt8)) = false := beq_eq_false_iff_ne.mpr c15
              have c15b1 : (a0_2.toList != ([] : List UInt8)) = true := bne_iff_ne.mpr c15
              by_cases c18 : a0_0 = 2
              · rw [if_pos c18] at H
                have c18b0 : (a0_0 == 2) = true := beq_iff_eq.mpr c18
                have c18b1 : (a0_0 != 2) = false := bne_eq_false_iff_eq.mpr c18
                clear c18
                obtain rfl := Option.some.inj H
                go_enter Tryd.func67, Tryd.ntmps67
                go_wp2_with (first | ((with_reducible refine gate_dst (N := 1) rfl ?_); (try (refine gate_guard (by rfl) ?_; dsimp only)); refine box_event ?hg (N := 1) ?hd (cs := #[.int .i64 a0_0, .int .i64 a0_1, .string a0_2, .slice A0_3 l0_3.length c0_3]) (t := 52) ?hr ?_; (case hd => rfl); (case hg => rfl); (case hr => first | (go_simp; done) | (go_simp; rfl)); intro gb101 hg w19 hbox hb; have n0_ := Aside0.mk (below_step (by repeat (first | (with_reducible first | exact HB.out | apply below_alloc | apply pw_below_drewN | apply below_drew1) | exact HB.out)) hb); have n1_ := Aside0.mk (hbox); have n2_ := Aside0.mk ((by rw [hg]; exact (below_size (by repeat (first | (with_reducible first | exact HB.out | apply below_alloc | apply pw_below_drewN | apply below_drew1) | exact HB.out))) : w.heap.size ≤ gb101)); have n3_ := Aside0.mk ((by rw [hg]; exact (below_size (by repeat (first | (with_reducible first | exact HB.out | apply below_alloc | apply pw_below_drewN | apply below_drew1) | exact HB.out))) : w.heap.size ≤ gb101)); clear HB; have HB := n0_; have BK101 := n1_; have GW101 := n2_; have GE101 := n3_; clear n0_ n1_ n2_ n3_; clear hb hbox hg; have hcz20_0 : w19.cell? ⟨gb101, 0, none⟩ = some (.int .i64 a0_0) := (blk_cell BK101.out 0).trans rfl; have hcz20_1 : w19.cell? ⟨gb101, 1, none⟩ = some (.int .i64 a0_1) := (blk_cell BK101.out 1).trans rfl; have hcz20_2 : w19.cell? ⟨gb101, 2, none⟩ = some (.string a0_2) := (blk_cell BK101.out 2).trans rfl; have hcz20_3 : w19.cell? ⟨gb101, 3, none⟩ = some (.slice A0_3 l0_3.length c0_3) := (blk_cell BK101.out 3).trans rfl; have hfz20_0 := blk_frozen BK101.out 0; have hfz20_1 := blk_frozen BK101.out 1; have hfz20_2 := blk_frozen BK101.out 2; have hfz20_3 := blk_frozen BK101.out 3))
                go_ret
                exact ⟨by first | rfl | (simp [errW_none, errW_some] <;> rfl) | (simp [*, errW_none, errW_some] <;> rfl), by repeat (first | (with_reducible first | exact HB.out | apply below_alloc | apply pw_below_drewN | apply below_drew1 | refine below_set ?_ GE101.out) | exact HB.out)⟩
              · rw [if_neg c18] at H
                have c18b0 : (a0_0 == 2) = false := beq_eq_false_iff_ne.mpr c18
                have c18b1 : (a0_0 != 2) = true := bne_iff_ne.mpr c18
                obtain rfl := Option.some.inj H
                go_enter Tryd.func67, Tryd.ntmps67
                go_wp2_with (first | ((with_reducible refine gate_dst (N := 1) rfl ?_); (try (refine gate_guard (by rfl) ?_; dsimp only)); refine box_event ?hg (N := 1) ?hd (cs := #[.int .i64 a0_0, .int .i64 a0_1, .string a0_2, .slice A0_3 l0_3.length c0_3]) (t := 52) ?hr ?_; (case hd => rfl); (case hg => rfl); (case hr => first | (go_simp; done) | (go_simp; rfl)); intro gb101 hg w21 hbox hb; have n0_ := Aside0.mk (below_step (by repeat (first | (with_reducible first | exact HB.out | apply below_alloc | apply pw_below_drewN | apply below_drew1) | exact HB.out)) hb); have n1_ := Aside0.mk (hbox); have n2_ := Aside0.mk ((by rw [hg]; exact (below_size (by repeat (first | (with_reducible first | exact HB.out | apply below_alloc | apply pw_below_drewN | apply below_drew1) | exact HB.out))) : w.heap.size ≤ gb101)); have n3_ := Aside0.mk ((by rw [hg]; exact (below_size (by repeat (first | (with_reducible first | exact HB.out | apply below_alloc | apply pw_below_drewN | apply below_drew1) | exact HB.out))) : w.heap.size ≤ gb101)); clear HB; have HB := n0_; have BK101 := n1_; have GW101 := n2_; have GE101 := n3_; clear n0_ n1_ n2_ n3_; clear hb hbox hg; have hcz22_0 : w21.cell? ⟨gb101, 0, none⟩ = some (.int .i64 a0_0) := (blk_cell BK101.out 0).trans rfl; have hcz22_1 : w21.cell? ⟨gb101, 1, none⟩ = some (.int .i64 a0_1) := (blk_cell BK101.out 1).trans rfl; have hcz22_2 : w21.cell? ⟨gb101, 2, none⟩ = some (.string a0_2) := (blk_cell BK101.out 2).trans rfl; have hcz22_3 : w21.cell? ⟨gb101, 3, none⟩ = some (.slice A0_3 l0_3.length c0_3) := (blk_cell BK101.out 3).trans rfl; have hfz22_0 := blk_frozen BK101.out 0; have hfz22_1 := blk_frozen BK101.out 1; have hfz22_2 := blk_frozen BK101.out 2; have hfz22_3 := blk_frozen BK101.out 3))
                go_ret
                exact ⟨by first | rfl | (simp [errW_none, errW_some] <;> rfl) | (simp [*, errW_none, errW_some] <;> rfl), by repeat (first | (with_reducible first | exact HB.out | apply below_alloc | apply pw_below_drewN | apply below_drew1 | refine below_set ?_ GE101.out) | exact HB.out)⟩
          · rw [if_neg c14] at H
            have c14b0 : (a0_0 == 1) = false := beq_eq_false_iff_ne.mpr c14
            have c14b1 : (a0_0 != 1) = true := bne_iff_ne.mpr c14
            obtain rfl := Option.some.inj H
            go_enter Tryd.func67, Tryd.ntmps67
            go_wp2_with (first | ((with_reducible refine gate_dst (N := 1) rfl ?_); (try (refine gate_guard (by rfl) ?_; dsimp only)); refine box_event ?hg (N := 1) ?hd (cs := #[.int .i64 a0_0, .int .i64 a0_1, .string a0_2, .slice A0_3 l0_3.length c0_3]) (t := 52) ?hr ?_; (case hd => rfl); (case hg => rfl); (case hr => first | (go_simp; done) | (go_simp; rfl)); intro gb101 hg w23 hbox hb; have n0_ := Aside0.mk (below_step (by repeat (first | (with_reducible first | exact HB.out | apply below_alloc | apply pw_below_drewN | apply below_drew1) | exact HB.out)) hb); have n1_ := Aside0.mk (hbox); have n2_ := Aside0.mk ((by rw [hg]; exact (below_size (by repeat (first | (with_reducible first | exact HB.out | apply below_alloc | apply pw_below_drewN | apply below_drew1) | exact HB.out))) : w.heap.size ≤ gb101)); have n3_ := Aside0.mk ((by rw [hg]; exact (below_size (by repeat (first | (with_reducible first | exact HB.out | apply below_alloc | apply pw_below_drewN | apply below_drew1) | exact HB.out))) : w.heap.size ≤ gb101)); clear HB; have HB := n0_; have BK101 := n1_; have GW101 := n2_; have GE101 := n3_; clear n0_ n1_ n2_ n3_; clear hb hbox hg; have hcz24_0 : w23.cell? ⟨gb101, 0, none⟩ = some (.int .i64 a0_0) := (blk_cell BK101.out 0).trans rfl; have hcz24_1 : w23.cell? ⟨gb101, 1, none⟩ = some (.int .i64 a0_1) := (blk_cell BK101.out 1).trans rfl; have hcz24_2 : w23.cell? ⟨gb101, 2, none⟩ = some (.string a0_2) := (blk_cell BK101.out 2).trans rfl; have hcz24_3 : w23.cell? ⟨gb101, 3, none⟩ = some (.slice A0_3 l0_3.length c0_3) := (blk_cell BK101.out 3).trans rfl; have hfz24_0 := blk_frozen BK101.out 0; have hfz24_1 := blk_frozen BK101.out 1; have hfz24_2 := blk_frozen BK101.out 2; have hfz24_3 := blk_frozen BK101.out 3))
            go_ret
            exact ⟨by first | rfl | (simp [errW_none, errW_some] <;> rfl) | (simp [*, errW_none, errW_some] <;> rfl), by repeat (first | (with_reducible first | exact HB.out | apply below_alloc | apply pw_below_drewN | apply below_drew1 | refine below_set ?_ GE101.out) | exact HB.out)⟩
      · rw [if_neg c4] at H
        have c4b0 : ((l0_3.length : Int) == 0) = false := beq_eq_false_iff_ne.mpr c4
        have c4b1 : ((l0_3.length : Int) != 0) = true := bne_iff_ne.mpr c4
        have c4b2 : ¬ (l0_3 = []) := fun h_ => c4 (by rw [h_]; rfl)
        obtain rfl := Option.some.inj H
        go_enter Tryd.func67, Tryd.ntmps67
        go_wp2_with (first | ((with_reducible refine gate_dst (N := 1) rfl ?_); (try (refine gate_guard (by rfl) ?_; dsimp only)); refine box_event ?hg (N := 1) ?hd (cs := #[.int .i64 a0_0, .int .i64 a0_1, .string a0_2, .slice A0_3 l0_3.length c0_3]) (t := 52) ?hr ?_; (case hd => rfl); (case hg => rfl); (case hr => first | (go_simp; done) | (go_simp; rfl)); intro gb101 hg w25 hbox hb; have n0_ := Aside0.mk (below_step (by repeat (first | (with_reducible first | exact HB.out | apply below_alloc | apply pw_below_drewN | apply below_drew1) | exact HB.out)) hb); have n1_ := Aside0.mk (hbox); have n2_ := Aside0.mk ((by rw [hg]; exact (below_size (by repeat (first | (with_reducible first | exact HB.out | apply below_alloc | apply pw_below_drewN | apply below_drew1) | exact HB.out))) : w.heap.size ≤ gb101)); have n3_ := Aside0.mk ((by rw [hg]; exact (below_size (by repeat (first | (with_reducible first | exact HB.out | apply below_alloc | apply pw_below_drewN | apply below_drew1) | exact HB.out))) : w.heap.size ≤ gb101)); clear HB; have HB := n0_; have BK101 := n1_; have GW101 := n2_; have GE101 := n3_; clear n0_ n1_ n2_ n3_; clear hb hbox hg; have hcz26_0 : w25.cell? ⟨gb101, 0, none⟩ = some (.int .i64 a0_0) := (blk_cell BK101.out 0).trans rfl; have hcz26_1 : w25.cell? ⟨gb101, 1, none⟩ = some (.int .i64 a0_1) := (blk_cell BK101.out 1).trans rfl; have hcz26_2 : w25.cell? ⟨gb101, 2, none⟩ = some (.string a0_2) := (blk_cell BK101.out 2).trans rfl; have hcz26_3 : w25.cell? ⟨gb101, 3, none⟩ = some (.slice A0_3 l0_3.length c0_3) := (blk_cell BK101.out 3).trans rfl; have hfz26_0 := blk_frozen BK101.out 0; have hfz26_1 := blk_frozen BK101.out 1; have hfz26_2 := blk_frozen BK101.out 2; have hfz26_3 := blk_frozen BK101.out 3))
        go_ret
        exact ⟨by first | rfl | (simp [errW_none, errW_some] <;> rfl) | (simp [*, errW_none, errW_some] <;> rfl), by repeat (first | (with_reducible first | exact HB.out | apply below_alloc | apply pw_below_drewN | apply below_drew1 | refine below_set ?_ GE101.out) | exact HB.out)⟩
    · rw [if_neg c3] at H
      have c3b0 : decide (a0_0 ≤ 4) = false := decide_eq_false c3
      clear c3
      obtain rfl := Option.some.inj H
      go_enter Tryd.func67, Tryd.ntmps67
      go_wp2_with (first | ((with_reducible refine gate_dst (N := 1) rfl ?_); (try (refine gate_guard (by rfl) ?_; dsimp only)); refine box_event ?hg (N := 1) ?hd (cs := #[.int .i64 a0_0, .int .i64 a0_1, .string a0_2, .slice A0_3 l0_3.length c0_3]) (t := 52) ?hr ?_; (case hd => rfl); (case hg => rfl); (case hr => first | (go_simp; done) | (go_simp; rfl)); intro gb101 hg w27 hbox hb; have n0_ := Aside0.mk (below_step (by repeat (first | (with_reducible first | exact HB.out | apply below_alloc | apply pw_below_drewN | apply below_drew1) | exact HB.out)) hb); have n1_ := Aside0.mk (hbox); have n2_ := Aside0.mk ((by rw [hg]; exact (below_size (by repeat (first | (with_reducible first | exact HB.out | apply below_alloc | apply pw_below_drewN | apply below_drew1) | exact HB.out))) : w.heap.size ≤ gb101)); have n3_ := Aside0.mk ((by rw [hg]; exact (below_size (by repeat (first | (with_reducible first | exact HB.out | apply below_alloc | apply pw_below_drewN | apply below_drew1) | exact HB.out))) : w.heap.size ≤ gb101)); clear HB; have HB := n0_; have BK101 := n1_; have GW101 := n2_; have GE101 := n3_; clear n0_ n1_ n2_ n3_; clear hb hbox hg; have hcz28_0 : w27.cell? ⟨gb101, 0, none⟩ = some (.int .i64 a0_0) := (blk_cell BK101.out 0).trans rfl; have hcz28_1 : w27.cell? ⟨gb101, 1, none⟩ = some (.int .i64 a0_1) := (blk_cell BK101.out 1).trans rfl; have hcz28_2 : w27.cell? ⟨gb101, 2, none⟩ = some (.string a0_2) := (blk_cell BK101.out 2).trans rfl; have hcz28_3 : w27.cell? ⟨gb101, 3, none⟩ = some (.slice A0_3 l0_3.length c0_3) := (blk_cell BK101.out 3).trans rfl; have hfz28_0 := blk_frozen BK101.out 0; have hfz28_1 := blk_frozen BK101.out 1; have hfz28_2 := blk_frozen BK101.out 2; have hfz28_3 := blk_frozen BK101.out 3))
      go_ret
      exact ⟨by first | rfl | (simp [errW_none, errW_some] <;> rfl) | (simp [*, errW_none, errW_some] <;> rfl), by repeat (first | (with_reducible first | exact HB.out | apply below_alloc | apply pw_below_drewN | apply below_drew1 | refine below_set ?_ GE101.out) | exact HB.out)⟩
  · rw [if_neg c2] at H
    have c2b0 : decide (0 ≤ a0_0) = false := decide_eq_false c2
    clear c2
    obtain rfl := Option.some.inj H
    go_enter Tryd.func67, Tryd.ntmps67
    go_wp2_with (first | ((with_reducible refine gate_dst (N := 1) rfl ?_); (try (refine gate_guard (by rfl) ?_; dsimp only)); refine box_event ?hg (N := 1) ?hd (cs := #[.int .i64 a0_0, .int .i64 a0_1, .string a0_2, .slice A0_3 l0_3.length c0_3]) (t := 52) ?hr ?_; (case hd => rfl); (case hg => rfl); (case hr => first | (go_simp; done) | (go_simp; rfl)); intro gb101 hg w29 hbox hb; have n0_ := Aside0.mk (below_step (by repeat (first | (with_reducible first | exact HB.out | apply below_alloc | apply pw_below_drewN | apply below_drew1) | exact HB.out)) hb); have n1_ := Aside0.mk (hbox); have n2_ := Aside0.mk ((by rw [hg]; exact (below_size (by repeat (first | (with_reducible first | exact HB.out | apply below_alloc | apply pw_below_drewN | apply below_drew1) | exact HB.out))) : w.heap.size ≤ gb101)); have n3_ := Aside0.mk ((by rw [hg]; exact (below_size (by repeat (first | (with_reducible first | exact HB.out | apply below_alloc | apply pw_below_drewN | apply below_drew1) | exact HB.out))) : w.heap.size ≤ gb101)); clear HB; have HB := n0_; have BK101 := n1_; have GW101 := n2_; have GE101 := n3_; clear n0_ n1_ n2_ n3_; clear hb hbox hg; have hcz30_0 : w29.cell? ⟨gb101, 0, none⟩ = some (.int .i64 a0_0) := (blk_cell BK101.out 0).trans rfl; have hcz30_1 : w29.cell? ⟨gb101, 1, none⟩ = some (.int .i64 a0_1) := (blk_cell BK101.out 1).trans rfl; have hcz30_2 : w29.cell? ⟨gb101, 2, none⟩ = some (.string a0_2) := (blk_cell BK101.out 2).trans rfl; have hcz30_3 : w29.cell? ⟨gb101, 3, none⟩ = some (.slice A0_3 l0_3.length c0_3) := (blk_cell BK101.out 3).trans rfl; have hfz30_0 := blk_frozen BK101.out 0; have hfz30_1 := blk_frozen BK101.out 1; have hfz30_2 := blk_frozen BK101.out 2; have hfz30_3 := blk_frozen BK101.out 3))
    go_ret
    exact ⟨by first | rfl | (simp [errW_none, errW_some] <;> rfl) | (simp [*, errW_none, errW_some] <;> rfl), by repeat (first | (with_reducible first | exact HB.out | apply below_alloc | apply pw_below_drewN | apply below_drew1 | refine below_set ?_ GE101.out) | exact HB.out)⟩

end Go.Proofs.YtnmhoghmhglimaaDoor.QN
-- WRITTEN BY A PROGRAM OF THIS SESSION (wip/print2.py): the print, with contracts of this session's own let in. Not trusted: Lean checks it.
namespace Go.Proofs.YtnmhoghmhglimaaDoor.QN
open Go.RowKit Go.Proofs.YtnmhoghmhglimaaDoorW.PrintWords Go.Proofs.YtnmhoghmhglimaaDoorW.PrintLast Go.Proofs.YtnmhoghmhglimaaDoorW.PrintMore
attribute [local go_sem] max2_int min2_int max_two min_two max_three min_three max_four min_four   -- for this text's walks alone
set_option linter.unusedVariables false
set_option linter.unusedSimpArgs false

/-! ### spec_ArgumentRight: function 54 -/
mutual
def spec_ArgumentRight.j0 : Nat → Bool → Int → Int → ByteArray → List (S52) → Option (Bool)
  | 0, _, _, _, _, _ => none
  | k + 1, x22, x103000, x103001, x103002, x103003 => if x22 = true then (some false) else (spec_ArgumentRight.l0 k 0 x103000 x103001 x103002 x103003)
def spec_ArgumentRight.l0 : Nat → Int → Int → Int → ByteArray → List (S52) → Option (Bool)
  | 0, _, _, _, _, _ => none
  | k + 1, x3, x103000, x103001, x103002, x103003 => if x3 < (x103003.length : Int) then (if 0 ≤ x3 then (if ((rd_T52 x103003 x3).f0) = 5 then (some false) else ((spec_flat.f ((rd_T52 x103003 x3).f0) ((rd_T52 x103003 x3).f1) ((rd_T52 x103003 x3).f2) ((rd_T52 x103003 x3).f3)).bind fun t106 => (if t106 = true then (spec_ArgumentRight.l0 k (wrap64 (x3 + 1)) x103000 x103001 x103002 x103003) else (some false)))) else (none)) else (some true)
end
def spec_ArgumentRight.f (k : Nat) (a0_0 : Int) (a0_1 : Int) (a0_2 : ByteArray) (l0_3 : List (S52)) : Option (Bool) := if a0_0 = 5 then (if a0_1 = 0 then (if a0_2.toList = ([] : List UInt8) then (spec_ArgumentRight.j0 k (decide ((l0_3.length : Int) > 20)) a0_0 a0_1 a0_2 l0_3) else (spec_ArgumentRight.j0 k true a0_0 a0_1 a0_2 l0_3)) else (spec_ArgumentRight.j0 k true a0_0 a0_1 a0_2 l0_3)) else ((spec_flat.f a0_0 a0_1 a0_2 l0_3).bind fun t103 => (some t103))
set_option maxHeartbeats 8000000 in
set_option maxRecDepth 100000 in
theorem spec_ArgumentRight.calls (k : Nat) (a0_0 : Int) (a0_1 : Int) (a0_2 : ByteArray) (A0_3 : Option Addr) (c0_3 : Nat) (l0_3 : List (S52)) (r : Bool) (w : World) (hr0_3 : Kd.C k52 w A0_3 l0_3.length l0_3) (hc0_3 : l0_3.length ≤ c0_3) (h : spec_ArgumentRight.f k a0_0 a0_1 a0_2 l0_3 = some r) :
    Calls Tryd.prog 54 #[.agg #[.int .i64 a0_0, .int .i64 a0_1, .string a0_2, .slice A0_3 l0_3.length c0_3]] w fun e w' => e = .returned (.bool r) ∧ Below w.heap.size w w' := by
  have hu52 := Tryd.underlying52
  have HR0_3 := Aside0.mk hr0_3
  have HC0_3 := Aside0.mk hc0_3
  clear hr0_3 hc0_3
  have HB := Aside0.mk (Below.refl w.heap.size w)
  have H : (if a0_0 = 5 then (if a0_1 = 0 then (if a0_2.toList = ([] : List UInt8) then (spec_ArgumentRight.j0 k (decide ((l0_3.length : Int) > 20)) a0_0 a0_1 a0_2 l0_3) else (spec_ArgumentRight.j0 k true a0_0 a0_1 a0_2 l0_3)) else (spec_ArgumentRight.j0 k true a0_0 a0_1 a0_2 l0_3)) else ((spec_flat.f a0_0 a0_1 a0_2 l0_3).bind fun t103 => (some t103))) = some r := h
  clear h
  by_cases c2 : a0_0 = 5
  · rw [if_pos c2] at H
    have c2b0 : (a0_0 == 5) = true := beq_iff_eq.mpr c2
    have c2b1 : (a0_0 != 5) = false := bne_eq_false_iff_eq.mpr c2
    clear c2
    have HC3 := Aside0.mk H
    clear H
    go_enter Tryd.func54, Tryd.ntmps54
    go_upto_region 3 with (first | ((with_reducible refine gate_dst (N := 1) rfl ?_); (try (refine gate_guard (by rfl) ?_; dsimp only)); refine box_event ?hg (N := 1) ?hd (cs := #[.int .i64 a0_0, .int .i64 a0_1, .string a0_2, .slice A0_3 l0_3.length c0_3]) (t := 52) ?hr ?_; (case hd => rfl); (case hg => rfl); (case hr => first | (go_simp; done) | (go_simp; rfl)); intro gb102 hg w4 hbox hb; have n0_ := Aside0.mk (below_step (by repeat (first | (with_reducible first | exact HB.out | apply below_alloc | apply pw_below_drewN | apply below_drew1) | exact HB.out)) hb); have n1_ := Aside0.mk (hbox); have n2_ := Aside0.mk ((by rw [hg]; exact (below_size (by repeat (first | (with_reducible first | exact HB.out | apply below_alloc | apply pw_below_drewN | apply below_drew1) | exact HB.out))) : w.heap.size ≤ gb102)); have n3_ := Aside0.mk ((by rw [hg]; exact (below_size (by repeat (first | (with_reducible first | exact HB.out | apply below_alloc | apply pw_below_drewN | apply below_drew1) | exact HB.out))) : w.heap.size ≤ gb102)); clear HB; have HB := n0_; have BK102 := n1_; have GW102 := n2_; have GE102 := n3_; clear n0_ n1_ n2_ n3_; clear hb hbox hg; have hcz5_0 : w4.cell? ⟨gb102, 0, none⟩ = some (.int .i64 a0_0) := (blk_cell BK102.out 0).trans rfl; have hcz5_1 : w4.cell? ⟨gb102, 1, none⟩ = some (.int .i64 a0_1) := (blk_cell BK102.out 1).trans rfl; have hcz5_2 : w4.cell? ⟨gb102, 2, none⟩ = some (.string a0_2) := (blk_cell BK102.out 2).trans rfl; have hcz5_3 : w4.cell? ⟨gb102, 3, none⟩ = some (.slice A0_3 l0_3.length c0_3) := (blk_cell BK102.out 3).trans rfl; have hfz5_0 := blk_frozen BK102.out 0; have hfz5_1 := blk_frozen BK102.out 1; have hfz5_2 := blk_frozen BK102.out 2; have hfz5_3 := blk_frozen BK102.out 3))
    (try simp only [Act.put, List.setIfInBounds_toArray, List.set_cons_zero, List.set_cons_succ])
    go_cut [22] (fun v22 wc => ∃ (kq : Nat) (x22_2 : Bool), v22 = .bool x22_2 ∧ Aside0 (spec_ArgumentRight.j0 kq x22_2 a0_0 a0_1 a0_2 l0_3 = some r) ∧ Aside0 (kq ≤ k) ∧ Aside0 (wc.heap[gb102]? = some (.cells #[.int .i64 a0_0, .int .i64 a0_1, .string a0_2, (.slice A0_3 l0_3.length c0_3)] 52 (0, 0))) ∧ Aside0 (Below w.heap.size w wc))
    case first =>
      have H := HC3.out
      clear HC3
      by_cases c6 : a0_1 = 0
      · rw [if_pos c6] at H
        have c6b0 : (a0_1 == 0) = true := beq_iff_eq.mpr c6
        have c6b1 : (a0_1 != 0) = false := bne_eq_false_iff_eq.mpr c6
        clear c6
        (first | rw [c6b0] | (simp only [i64_w, i32_w]; rw [c6b0]) | skip)
        by_cases c7 : a0_2.toList = ([] : List UInt8)
        · rw [if_pos c7] at H
          have c7b0 : (a0_2.toList == ([] : List UInt8)) = true := beq_iff_eq.mpr c7
          have c7b1 : (a0_2.toList != ([] : List UInt8)) = false := bne_eq_false_iff_eq.mpr c7
          clear c7
          have H' := Aside0.mk H
          clear H
          have hcz8_0 : w4.cell? ⟨gb102, 0, none⟩ = some (.int .i64 a0_0) := (blk_cell BK102.out 0).trans rfl
          have hcz8_1 : w4.cell? ⟨gb102, 1, none⟩ = some (.int .i64 a0_1) := (blk_cell BK102.out 1).trans rfl
          have hcz8_2 : w4.cell? ⟨gb102, 2, none⟩ = some (.string a0_2) := (blk_cell BK102.out 2).trans rfl
          have hcz8_3 : w4.cell? ⟨gb102, 3, none⟩ = some (.slice A0_3 l0_3.length c0_3) := (blk_cell BK102.out 3).trans rfl
          have hfz8_0 := blk_frozen BK102.out 0
          have hfz8_1 := blk_frozen BK102.out 1
          have hfz8_2 := blk_frozen BK102.out 2
          have hfz8_3 := blk_frozen BK102.out 3
          go_wp2
          go_meet
          case rel => exact ⟨_, (decide ((l0_3.length : Int) > 20)), (by first | rfl | (simp; done) | (simp [*]; done)), H', ⟨by first | omega | exact Nat.le_refl _⟩, ⟨by (with_reducible repeat (first | refine blk_drewN ?_ _ | refine blk_drew ?_ | refine blk_alloc ?_ _)); exact BK102.out⟩, ⟨by repeat (first | (with_reducible first | exact HB.out | apply below_alloc | apply pw_below_drewN | apply below_drew1 | refine below_set ?_ GE102.out) | exact HB.out)⟩⟩
        · rw [if_neg c7] at H
          have c7b0 : (a0_2.toList == ([] : List UInt8)) = false := beq_eq_false_iff_ne.mpr c7
          have c7b1 : (a0_2.toList != ([] : List UInt8)) = true := bne_iff_ne.mpr c7
          have H' := Aside0.mk H
          clear H
          have hcz9_0 : w4.cell? ⟨gb102, 0, none⟩ = some (.int .i64 a0_0) := (blk_cell BK102.out 0).trans rfl
          have hcz9_1 : w4.cell? ⟨gb102, 1, none⟩ = some (.int .i64 a0_1) := (blk_cell BK102.out 1).trans rfl
          have hcz9_2 : w4.cell? ⟨gb102, 2, none⟩ = some (.string a0_2) := (blk_cell BK102.out 2).trans rfl
          have hcz9_3 : w4.cell? ⟨gb102, 3, none⟩ = some (.slice A0_3 l0_3.length c0_3) := (blk_cell BK102.out 3).trans rfl
          have hfz9_0 := blk_frozen BK102.out 0
          have hfz9_1 := blk_frozen BK102.out 1
          have hfz9_2 := blk_frozen BK102.out 2
          have hfz9_3 := blk_frozen BK102.out 3
          go_wp2
          go_meet
          case rel => exact ⟨_, (true), (by first | rfl | (simp; done) | (simp [*]; done)), H', ⟨by first | omega | exact Nat.le_refl _⟩, ⟨by (with_reducible repeat (first | refine blk_drewN ?_ _ | refine blk_drew ?_ | refine blk_alloc ?_ _)); exact BK102.out⟩, ⟨by repeat (first | (with_reducible first | exact HB.out | apply below_alloc | apply pw_below_drewN | apply below_drew1 | refine below_set ?_ GE102.out) | exact HB.out)⟩⟩
      · rw [if_neg c6] at H
        have c6b0 : (a0_1 == 0) = false := beq_eq_false_iff_ne.mpr c6
        have c6b1 : (a0_1 != 0) = true := bne_iff_ne.mpr c6
        (first | rw [c6b0] | (simp only [i64_w, i32_w]; rw [c6b0]) | skip)
        have H' := Aside0.mk H
        clear H
        have hcz10_0 : w4.cell? ⟨gb102, 0, none⟩ = some (.int .i64 a0_0) := (blk_cell BK102.out 0).trans rfl
        have hcz10_1 : w4.cell? ⟨gb102, 1, none⟩ = some (.int .i64 a0_1) := (blk_cell BK102.out 1).trans rfl
        have hcz10_2 : w4.cell? ⟨gb102, 2, none⟩ = some (.string a0_2) := (blk_cell BK102.out 2).trans rfl
        have hcz10_3 : w4.cell? ⟨gb102, 3, none⟩ = some (.slice A0_3 l0_3.length c0_3) := (blk_cell BK102.out 3).trans rfl
        have hfz10_0 := blk_frozen BK102.out 0
        have hfz10_1 := blk_frozen BK102.out 1
        have hfz10_2 := blk_frozen BK102.out 2
        have hfz10_3 := blk_frozen BK102.out 3
        go_wp2
        go_meet
        case rel => exact ⟨_, (true), (by first | rfl | (simp; done) | (simp [*]; done)), H', ⟨by first | omega | exact Nat.le_refl _⟩, ⟨by (with_reducible repeat (first | refine blk_drewN ?_ _ | refine blk_drew ?_ | refine blk_alloc ?_ _)); exact BK102.out⟩, ⟨by repeat (first | (with_reducible first | exact HB.out | apply below_alloc | apply pw_below_drewN | apply below_drew1 | refine below_set ?_ GE102.out) | exact HB.out)⟩⟩
    case rest =>
      clear HC3
      try clear c2
      try clear c2b0
      try clear c2b1
      try clear p2
      try clear c5
      try clear c6
      try clear c6b0
      try clear c6b1
      try clear c7
      try clear c7b0
      try clear c7b1
      try clear hcz10_0
      try clear hcz10_1
      try clear hcz10_2
      try clear hcz10_3
      try clear hcz5_0
      try clear hcz5_1
      try clear hcz5_2
      try clear hcz5_3
      try clear hcz8_0
      try clear hcz8_1
      try clear hcz8_2
      try clear hcz8_3
      try clear hcz9_0
      try clear hcz9_1
      try clear hcz9_2
      try clear hcz9_3
      try clear hfz10_0
      try clear hfz10_1
      try clear hfz10_2
      try clear hfz10_3
      try clear hfz5_0
      try clear hfz5_1
      try clear hfz5_2
      try clear hfz5_3
      try clear hfz8_0
      try clear hfz8_1
      try clear hfz8_2
      try clear hfz8_3
      try clear hfz9_0
      try clear hfz9_1
      try clear hfz9_2
      try clear hfz9_3
      obtain ⟨kq, x22_2, rfl, HA, HJ2, BK102, HB⟩ := hcut
      cases kq with
      | zero => exact absurd HA.out (by simp [spec_ArgumentRight.j0])
      | succ kj2 =>
        have H := HA.out
        clear HA
        simp only [spec_ArgumentRight.j0] at H
        by_cases c11 : x22_2 = true
        · subst c11
          have H1 : (some false) = some r := by rw [if_pos rfl] at H; exact H
          clear H
          have H := H1
          clear H1
          obtain rfl := Option.some.inj H
          go_wp2
          go_ret
          exact ⟨by first | rfl | (simp [errW_none, errW_some] <;> rfl) | (simp [*, errW_none, errW_some] <;> rfl), by repeat (first | (with_reducible first | exact HB.out | apply below_alloc | apply pw_below_drewN | apply below_drew1 | refine below_set ?_ GE102.out) | exact HB.out)⟩
        · replace c11 := Bool.eq_false_iff.mpr c11
          subst c11
          have H1 : (spec_ArgumentRight.l0 kj2 0 a0_0 a0_1 a0_2 l0_3) = some r := by rw [if_neg (show ¬ (false = true) by decide)] at H; exact H
          clear H
          have H := H1
          clear H1
          have H' := Aside0.mk H
          clear H
          go_wp2
          go_loopg [3] kj2 (fun kq v3 w' => ∃ (x3_2 : Int), v3 = .int .i64 x3_2 ∧ Aside0 (spec_ArgumentRight.l0 kq x3_2 a0_0 a0_1 a0_2 l0_3 = some r) ∧ Aside0 (kq ≤ kj2) ∧ Aside0 (w'.heap[gb102]? = some (.cells #[.int .i64 a0_0, .int .i64 a0_1, .string a0_2, (.slice A0_3 l0_3.length c0_3)] 52 (0, 0))) ∧ Aside0 (Below w.heap.size w w'))
          case atStart => exact ⟨(0), (by first | rfl | (simp; done) | (simp [*]; done)), H', ⟨Nat.le_refl _⟩, ⟨by (with_reducible repeat (first | refine blk_drewN ?_ _ | refine blk_drew ?_ | refine blk_alloc ?_ _)); exact BK102.out⟩, ⟨by repeat (first | (with_reducible first | exact HB.out | apply below_alloc | apply pw_below_drewN | apply below_drew1 | refine below_set ?_ GE102.out) | exact HB.out)⟩⟩
          case round =>
            clear H'
            try clear c1
            try clear c2
            try clear c2b0
            try clear c2b1
            try clear p2
            try clear c5
            try clear c6
            try clear c6b0
            try clear c6b1
            try clear c7
            try clear c7b0
            try clear c7b1
            try clear c11
            try clear hcz10_0
            try clear hcz10_1
            try clear hcz10_2
            try clear hcz10_3
            try clear hcz5_0
            try clear hcz5_1
            try clear hcz5_2
            try clear hcz5_3
            try clear hcz8_0
            try clear hcz8_1
            try clear hcz8_2
            try clear hcz8_3
            try clear hcz9_0
            try clear hcz9_1
            try clear hcz9_2
            try clear hcz9_3
            try clear hfz10_0
            try clear hfz10_1
            try clear hfz10_2
            try clear hfz10_3
            try clear hfz5_0
            try clear hfz5_1
            try clear hfz5_2
            try clear hfz5_3
            try clear hfz8_0
            try clear hfz8_1
            try clear hfz8_2
            try clear hfz8_3
            try clear hfz9_0
            try clear hfz9_1
            try clear hfz9_2
            try clear hfz9_3
            try clear p2
            obtain ⟨x3_2, rfl, HA, HK2, BK102, HB⟩ := hrel
            cases gk with
            | zero => exact absurd HA.out (by simp [spec_ArgumentRight.l0])
            | succ k2 =>
              have H := HA.out
              clear HA
              simp only [spec_ArgumentRight.l0] at H
              by_cases c12 : x3_2 < (l0_3.length : Int)
              · rw [if_pos c12] at H
                have c12b0 : decide (x3_2 < (l0_3.length : Int)) = true := decide_eq_true c12
                clear c12
                by_cases c13 : 0 ≤ x3_2
                · rw [if_pos c13] at H
                  have c13b0 : decide (0 ≤ x3_2) = true := decide_eq_true c13
                  clear c13
                  by_cases c14 : ((rd_T52 l0_3 x3_2).f0) = 5
                  · rw [if_pos c14] at H
                    have c14b0 : (((rd_T52 l0_3 x3_2).f0) == 5) = true := beq_iff_eq.mpr c14
                    have c14b1 : (((rd_T52 l0_3 x3_2).f0) != 5) = false := bne_eq_false_iff_eq.mpr c14
                    clear c14
                    obtain rfl := Option.some.inj H
                    have hcz15_0 : wr.cell? ⟨gb102, 0, none⟩ = some (.int .i64 a0_0) := (blk_cell BK102.out 0).trans rfl
                    have hcz15_1 : wr.cell? ⟨gb102, 1, none⟩ = some (.int .i64 a0_1) := (blk_cell BK102.out 1).trans rfl
                    have hcz15_2 : wr.cell? ⟨gb102, 2, none⟩ = some (.string a0_2) := (blk_cell BK102.out 2).trans rfl
                    have hcz15_3 : wr.cell? ⟨gb102, 3, none⟩ = some (.slice A0_3 l0_3.length c0_3) := (blk_cell BK102.out 3).trans rfl
                    have hfz15_0 := blk_frozen BK102.out 0
                    have hfz15_1 := blk_frozen BK102.out 1
                    have hfz15_2 := blk_frozen BK102.out 2
                    have hfz15_3 := blk_frozen BK102.out 3
                    have p104 : 0 ≤ (x3_2 : Int) := of_decide_eq_true (by first | (with_reducible assumption) | assumption)
                    have q104 : x3_2 < (l0_3.length : Int) := of_decide_eq_true (by first | (with_reducible assumption) | assumption)
                    obtain ⟨ad104, A104_3, c104_3, e104, hx104_0, hx104_1, hx104_2, hx104_3, hl104_3, hi104_3⟩ := at_T52 HR0_3.out x3_2 p104 q104
                    cases e104
                    replace hx104_0 := (HB.out.cell (World.block_lt_of_cell? w _ hx104_0)).trans hx104_0
                    replace hx104_1 := (HB.out.cell (World.block_lt_of_cell? w _ hx104_1)).trans hx104_1
                    replace hx104_2 := (HB.out.cell (World.block_lt_of_cell? w _ hx104_2)).trans hx104_2
                    replace hx104_3 := (HB.out.cell (World.block_lt_of_cell? w _ hx104_3)).trans hx104_3
                    have HR104_3 := Aside0.mk hi104_3
                    have HC104_3 := Aside0.mk hl104_3
                    clear hi104_3 hl104_3
                    replace p104 := eq_true p104
                    replace q104 := eq_true q104
                    go_wp2
                    go_ret
                    exact ⟨by first | rfl | (simp [errW_none, errW_some] <;> rfl) | (simp [*, errW_none, errW_some] <;> rfl), by repeat (first | (with_reducible first | exact HB.out | apply below_alloc | apply pw_below_drewN | apply below_drew1 | refine below_set ?_ GE102.out) | exact HB.out)⟩
                  · rw [if_neg c14] at H
                    have c14b0 : (((rd_T52 l0_3 x3_2).f0) == 5) = false := beq_eq_false_iff_ne.mpr c14
                    have c14b1 : (((rd_T52 l0_3 x3_2).f0) != 5) = true := bne_iff_ne.mpr c14
                    replace H := Option.bind_eq_some_iff.mp H
                    obtain ⟨t106, A160, H⟩ := H
                    replace H : (if t106 = true then (spec_ArgumentRight.l0 k2 (wrap64 (x3_2 + 1)) a0_0 a0_1 a0_2 l0_3) else (some false)) = some r := H
                    have A16 := Aside0.mk A160
                    clear A160
                    by_cases c17 : t106 = true
                    · subst c17
                      have H1 : (spec_ArgumentRight.l0 k2 (wrap64 (x3_2 + 1)) a0_0 a0_1 a0_2 l0_3) = some r := by rw [if_pos rfl] at H; exact H
                      clear H
                      have H := H1
                      clear H1
                      have H' := Aside0.mk H
                      clear H
                      have hcz18_0 : wr.cell? ⟨gb102, 0, none⟩ = some (.int .i64 a0_0) := (blk_cell BK102.out 0).trans rfl
                      have hcz18_1 : wr.cell? ⟨gb102, 1, none⟩ = some (.int .i64 a0_1) := (blk_cell BK102.out 1).trans rfl
                      have hcz18_2 : wr.cell? ⟨gb102, 2, none⟩ = some (.string a0_2) := (blk_cell BK102.out 2).trans rfl
                      have hcz18_3 : wr.cell? ⟨gb102, 3, none⟩ = some (.slice A0_3 l0_3.length c0_3) := (blk_cell BK102.out 3).trans rfl
                      have hfz18_0 := blk_frozen BK102.out 0
                      have hfz18_1 := blk_frozen BK102.out 1
                      have hfz18_2 := blk_frozen BK102.out 2
                      have hfz18_3 := blk_frozen BK102.out 3
                      have p104 : 0 ≤ (x3_2 : Int) := of_decide_eq_true (by first | (with_reducible assumption) | assumption)
                      have q104 : x3_2 < (l0_3.length : Int) := of_decide_eq_true (by first | (with_reducible assumption) | assumption)
                      obtain ⟨ad104, A104_3, c104_3, e104, hx104_0, hx104_1, hx104_2, hx104_3, hl104_3, hi104_3⟩ := at_T52 HR0_3.out x3_2 p104 q104
                      cases e104
                      replace hx104_0 := (HB.out.cell (World.block_lt_of_cell? w _ hx104_0)).trans hx104_0
                      replace hx104_1 := (HB.out.cell (World.block_lt_of_cell? w _ hx104_1)).trans hx104_1
                      replace hx104_2 := (HB.out.cell (World.block_lt_of_cell? w _ hx104_2)).trans hx104_2
                      replace hx104_3 := (HB.out.cell (World.block_lt_of_cell? w _ hx104_3)).trans hx104_3
                      have HR104_3 := Aside0.mk hi104_3
                      have HC104_3 := Aside0.mk hl104_3
                      clear hi104_3 hl104_3
                      replace p104 := eq_true p104
                      replace q104 := eq_true q104
                      have p105 : 0 ≤ (x3_2 : Int) := of_decide_eq_true (by first | (with_reducible assumption) | assumption)
                      have q105 : x3_2 < (l0_3.length : Int) := of_decide_eq_true (by first | (with_reducible assumption) | assumption)
                      obtain ⟨ad105, A105_3, c105_3, e105, hx105_0, hx105_1, hx105_2, hx105_3, hl105_3, hi105_3⟩ := at_T52 HR0_3.out x3_2 p105 q105
                      obtain rfl : ad104 = ad105 := (by injection e105)
                      replace hx105_0 := (HB.out.cell (World.block_lt_of_cell? w _ hx105_0)).trans hx105_0
                      replace hx105_1 := (HB.out.cell (World.block_lt_of_cell? w _ hx105_1)).trans hx105_1
                      replace hx105_2 := (HB.out.cell (World.block_lt_of_cell? w _ hx105_2)).trans hx105_2
                      replace hx105_3 := (HB.out.cell (World.block_lt_of_cell? w _ hx105_3)).trans hx105_3
                      have HR105_3 := Aside0.mk hi105_3
                      have HC105_3 := Aside0.mk hl105_3
                      clear hi105_3 hl105_3
                      replace p105 := eq_true p105
                      replace q105 := eq_true q105
                      have ea_ := Option.some.inj (hx104_3.symm.trans hx105_3)
                      injection ea_ with ea_ en_ ec_
                      subst ea_
                      subst ec_
                      clear en_
                      go_wp2_with (first | (go_at_call 67; (with_reducible refine (spec_flat.calls ((rd_T52 l0_3 x3_2).f0) ((rd_T52 l0_3 x3_2).f1) ((rd_T52 l0_3 x3_2).f2) _ _ ((rd_T52 l0_3 x3_2).f3) true _ ?side1 ?side2 A16.out).mono ?_); (case side1 => repeat (first | exact (Kd.C_below HR105_3.out HB.out) | (with_reducible refine Kd.C_alloc ?_ _) | (with_reducible refine Kd.C_drewN ?_ _) | (with_reducible refine Kd.C_drew ?_))); (case side2 => exact HC105_3.out); rintro e w19 ⟨rfl, hb⟩; have n0_ := Aside0.mk (blk_below (g := gb102) (o := .cells #[.int .i64 a0_0, .int .i64 a0_1, .string a0_2, .slice (some ad104) l0_3.length c0_3] 52 (0, 0)) (by (with_reducible repeat (first | refine blk_drewN ?_ _ | refine blk_drew ?_ | refine blk_alloc ?_ _)); exact BK102.out) hb); have n1_ := Aside0.mk (below_step (by repeat (first | (with_reducible first | exact HB.out | apply below_alloc | apply pw_below_drewN | apply below_drew1 | refine below_set ?_ GE102.out) | exact HB.out)) hb); clear BK102; clear HB; have BK102 := n0_; have HB := n1_; clear n0_ n1_; (try clear hb); (try clear hb2); (try clear hk); (try clear hi)))
                      go_roundg k2
                      case measure => have := HJ2.out; have := HK2.out; omega
                      case rel => exact ⟨(wrap64 (x3_2 + 1)), (by first | rfl | (simp; done) | (simp [*]; done)), H', ⟨by have := HJ2.out; have := HK2.out; omega⟩, ⟨by (with_reducible repeat (first | refine blk_drewN ?_ _ | refine blk_drew ?_ | refine blk_alloc ?_ _)); exact BK102.out⟩, ⟨by repeat (first | (with_reducible first | exact HB.out | apply below_alloc | apply pw_below_drewN | apply below_drew1 | refine below_set ?_ GE102.out) | exact HB.out)⟩⟩
                    · replace c17 := Bool.eq_false_iff.mpr c17
                      subst c17
                      have H1 : (some false) = some r := by rw [if_neg (show ¬ (false = true) by decide)] at H; exact H
                      clear H
                      have H := H1
                      clear H1
                      obtain rfl := Option.some.inj H
                      have hcz20_0 : wr.cell? ⟨gb102, 0, none⟩ = some (.int .i64 a0_0) := (blk_cell BK102.out 0).trans rfl
                      have hcz20_1 : wr.cell? ⟨gb102, 1, none⟩ = some (.int .i64 a0_1) := (blk_cell BK102.out 1).trans rfl
                      have hcz20_2 : wr.cell? ⟨gb102, 2, none⟩ = some (.string a0_2) := (blk_cell BK102.out 2).trans rfl
                      have hcz20_3 : wr.cell? ⟨gb102, 3, none⟩ = some (.slice A0_3 l0_3.length c0_3) := (blk_cell BK102.out 3).trans rfl
                      have hfz20_0 := blk_frozen BK102.out 0
                      have hfz20_1 := blk_frozen BK102.out 1
                      have hfz20_2 := blk_frozen BK102.out 2
                      have hfz20_3 := blk_frozen BK102.out 3
                      have p104 : 0 ≤ (x3_2 : Int) := of_decide_eq_true (by first | (with_reducible assumption) | assumption)
                      have q104 : x3_2 < (l0_3.length : Int) := of_decide_eq_true (by first | (with_reducible assumption) | assumption)
                      obtain ⟨ad104, A104_3, c104_3, e104, hx104_0, hx104_1, hx104_2, hx104_3, hl104_3, hi104_3⟩ := at_T52 HR0_3.out x3_2 p104 q104
                      cases e104
                      replace hx104_0 := (HB.out.cell (World.block_lt_of_cell? w _ hx104_0)).trans hx104_0
                      replace hx104_1 := (HB.out.cell (World.block_lt_of_cell? w _ hx104_1)).trans hx104_1
                      replace hx104_2 := (HB.out.cell (World.block_lt_of_cell? w _ hx104_2)).trans hx104_2
                      replace hx104_3 := (HB.out.cell (World.block_lt_of_cell? w _ hx104_3)).trans hx104_3
                      have HR104_3 := Aside0.mk hi104_3
                      have HC104_3 := Aside0.mk hl104_3
                      clear hi104_3 hl104_3
                      replace p104 := eq_true p104
                      replace q104 := eq_true q104
                      have p105 : 0 ≤ (x3_2 : Int) := of_decide_eq_true (by first | (with_reducible assumption) | assumption)
                      have q105 : x3_2 < (l0_3.length : Int) := of_decide_eq_true (by first | (with_reducible assumption) | assumption)
                      obtain ⟨ad105, A105_3, c105_3, e105, hx105_0, hx105_1, hx105_2, hx105_3, hl105_3, hi105_3⟩ := at_T52 HR0_3.out x3_2 p105 q105
                      obtain rfl : ad104 = ad105 := (by injection e105)
                      replace hx105_0 := (HB.out.cell (World.block_lt_of_cell? w _ hx105_0)).trans hx105_0
                      replace hx105_1 := (HB.out.cell (World.block_lt_of_cell? w _ hx105_1)).trans hx105_1
                      replace hx105_2 := (HB.out.cell (World.block_lt_of_cell? w _ hx105_2)).trans hx105_2
                      replace hx105_3 := (HB.out.cell (World.block_lt_of_cell? w _ hx105_3)).trans hx105_3
                      have HR105_3 := Aside0.mk hi105_3
                      have HC105_3 := Aside0.mk hl105_3
                      clear hi105_3 hl105_3
                      replace p105 := eq_true p105
                      replace q105 := eq_true q105
                      have ea_ := Option.some.inj (hx104_3.symm.trans hx105_3)
                      injection ea_ with ea_ en_ ec_
                      subst ea_
                      subst ec_
                      clear en_
                      go_wp2_with (first | (go_at_call 67; (with_reducible refine (spec_flat.calls ((rd_T52 l0_3 x3_2).f0) ((rd_T52 l0_3 x3_2).f1) ((rd_T52 l0_3 x3_2).f2) _ _ ((rd_T52 l0_3 x3_2).f3) false _ ?side1 ?side2 A16.out).mono ?_); (case side1 => repeat (first | exact (Kd.C_below HR105_3.out HB.out) | (with_reducible refine Kd.C_alloc ?_ _) | (with_reducible refine Kd.C_drewN ?_ _) | (with_reducible refine Kd.C_drew ?_))); (case side2 => exact HC105_3.out); rintro e w21 ⟨rfl, hb⟩; have n0_ := Aside0.mk (blk_below (g := gb102) (o := .cells #[.int .i64 a0_0, .int .i64 a0_1, .string a0_2, .slice (some ad104) l0_3.length c0_3] 52 (0, 0)) (by (with_reducible repeat (first | refine blk_drewN ?_ _ | refine blk_drew ?_ | refine blk_alloc ?_ _)); exact BK102.out) hb); have n1_ := Aside0.mk (below_step (by repeat (first | (with_reducible first | exact HB.out | apply below_alloc | apply pw_below_drewN | apply below_drew1 | refine below_set ?_ GE102.out) | exact HB.out)) hb); clear BK102; clear HB; have BK102 := n0_; have HB := n1_; clear n0_ n1_; (try clear hb); (try clear hb2); (try clear hk); (try clear hi)))
                      go_ret
                      exact ⟨by first | rfl | (simp [errW_none, errW_some] <;> rfl) | (simp [*, errW_none, errW_some] <;> rfl), by repeat (first | (with_reducible first | exact HB.out | apply below_alloc | apply pw_below_drewN | apply below_drew1 | refine below_set ?_ GE102.out) | exact HB.out)⟩
                · rw [if_neg c13] at H
                  exact absurd H (by simp)
              · rw [if_neg c12] at H
                have c12b0 : decide (x3_2 < (l0_3.length : Int)) = false := decide_eq_false c12
                clear c12
                obtain rfl := Option.some.inj H
                have hcz22_0 : wr.cell? ⟨gb102, 0, none⟩ = some (.int .i64 a0_0) := (blk_cell BK102.out 0).trans rfl
                have hcz22_1 : wr.cell? ⟨gb102, 1, none⟩ = some (.int .i64 a0_1) := (blk_cell BK102.out 1).trans rfl
                have hcz22_2 : wr.cell? ⟨gb102, 2, none⟩ = some (.string a0_2) := (blk_cell BK102.out 2).trans rfl
                have hcz22_3 : wr.cell? ⟨gb102, 3, none⟩ = some (.slice A0_3 l0_3.length c0_3) := (blk_cell BK102.out 3).trans rfl
                have hfz22_0 := blk_frozen BK102.out 0
                have hfz22_1 := blk_frozen BK102.out 1
                have hfz22_2 := blk_frozen BK102.out 2
                have hfz22_3 := blk_frozen BK102.out 3
                go_wp2
                go_ret
                exact ⟨by first | rfl | (simp [errW_none, errW_some] <;> rfl) | (simp [*, errW_none, errW_some] <;> rfl), by repeat (first | (with_reducible first | exact HB.out | apply below_alloc | apply pw_below_drewN | apply below_drew1 | refine below_set ?_ GE102.out) | exact HB.out)⟩
  · rw [if_neg c2] at H
    have c2b0 : (a0_0 == 5) = false := beq_eq_false_iff_ne.mpr c2
    have c2b1 : (a0_0 != 5) = true := bne_iff_ne.mpr c2
    replace H := Option.bind_eq_some_iff.mp H
    obtain ⟨t103, A230, H⟩ := H
    replace H : (some t103) = some r := H
    have A23 := Aside0.mk A230
    clear A230
    obtain rfl := Option.some.inj H
    go_enter Tryd.func54, Tryd.ntmps54
    go_wp2_with (first | ((with_reducible refine gate_dst (N := 1) rfl ?_); (try (refine gate_guard (by rfl) ?_; dsimp only)); refine box_event ?hg (N := 1) ?hd (cs := #[.int .i64 a0_0, .int .i64 a0_1, .string a0_2, .slice A0_3 l0_3.length c0_3]) (t := 52) ?hr ?_; (case hd => rfl); (case hg => rfl); (case hr => first | (go_simp; done) | (go_simp; rfl)); intro gb102 hg w24 hbox hb; have n0_ := Aside0.mk (below_step (by repeat (first | (with_reducible first | exact HB.out | apply below_alloc | apply pw_below_drewN | apply below_drew1) | exact HB.out)) hb); have n1_ := Aside0.mk (hbox); have n2_ := Aside0.mk ((by rw [hg]; exact (below_size (by repeat (first | (with_reducible first | exact HB.out | apply below_alloc | apply pw_below_drewN | apply below_drew1) | exact HB.out))) : w.heap.size ≤ gb102)); have n3_ := Aside0.mk ((by rw [hg]; exact (below_size (by repeat (first | (with_reducible first | exact HB.out | apply below_alloc | apply pw_below_drewN | apply below_drew1) | exact HB.out))) : w.heap.size ≤ gb102)); clear HB; have HB := n0_; have BK102 := n1_; have GW102 := n2_; have GE102 := n3_; clear n0_ n1_ n2_ n3_; clear hb hbox hg; have hcz25_0 : w24.cell? ⟨gb102, 0, none⟩ = some (.int .i64 a0_0) := (blk_cell BK102.out 0).trans rfl; have hcz25_1 : w24.cell? ⟨gb102, 1, none⟩ = some (.int .i64 a0_1) := (blk_cell BK102.out 1).trans rfl; have hcz25_2 : w24.cell? ⟨gb102, 2, none⟩ = some (.string a0_2) := (blk_cell BK102.out 2).trans rfl; have hcz25_3 : w24.cell? ⟨gb102, 3, none⟩ = some (.slice A0_3 l0_3.length c0_3) := (blk_cell BK102.out 3).trans rfl; have hfz25_0 := blk_frozen BK102.out 0; have hfz25_1 := blk_frozen BK102.out 1; have hfz25_2 := blk_frozen BK102.out 2; have hfz25_3 := blk_frozen BK102.out 3) | ((with_reducible refine gate_callee (f := 67) rfl ?_); refine goesL_ (some 8) rfl rfl Tryd.func67 (by kernel_rfl) rfl #[.agg #[.int .i64 a0_0, .int .i64 a0_1, .string a0_2, .slice A0_3 l0_3.length c0_3]] rfl (by (try simp only [List.map_toArray, List.map_cons, List.map_nil]); first | done | rfl | (simp only [List.length_drop, List.length_take]; rfl)) ?_; (with_reducible refine (spec_flat.calls a0_0 a0_1 a0_2 _ _ l0_3 t103 _ ?side1 ?side2 A23.out).mono ?_); (case side1 => repeat (first | exact (Kd.C_below HR0_3.out HB.out) | (with_reducible refine Kd.C_alloc ?_ _) | (with_reducible refine Kd.C_drewN ?_ _) | (with_reducible refine Kd.C_drew ?_))); (case side2 => exact HC0_3.out); rintro e w26 ⟨rfl, hb⟩; refine ⟨_, rfl, ?_⟩; have n0_ := Aside0.mk (blk_below (g := gb102) (o := .cells #[.int .i64 a0_0, .int .i64 a0_1, .string a0_2, .slice A0_3 l0_3.length c0_3] 52 (0, 0)) (by (with_reducible repeat (first | refine blk_drewN ?_ _ | refine blk_drew ?_ | refine blk_alloc ?_ _)); exact BK102.out) hb); have n1_ := Aside0.mk (below_step (by repeat (first | (with_reducible first | exact HB.out | apply below_alloc | apply pw_below_drewN | apply below_drew1 | refine below_set ?_ GE102.out) | exact HB.out)) hb); clear BK102; clear HB; have BK102 := n0_; have HB := n1_; clear n0_ n1_; (try clear hb); (try clear hb2); (try clear hk); (try clear hi)))
    go_ret
    exact ⟨by first | rfl | (simp [errW_none, errW_some] <;> rfl) | (simp [*, errW_none, errW_some] <;> rfl), by repeat (first | (with_reducible first | exact HB.out | apply below_alloc | apply pw_below_drewN | apply below_drew1 | refine below_set ?_ GE102.out) | exact HB.out)⟩

end Go.Proofs.YtnmhoghmhglimaaDoor.QN
-- WRITTEN BY A PROGRAM OF THIS SESSION (wip/print2.py): the print, with contracts of this session's own let in. Not trusted: Lean checks it.
namespace Go.Proofs.YtnmhoghmhglimaaDoor.QN
open Go.RowKit Go.Proofs.YtnmhoghmhglimaaDoorW.PrintWords Go.Proofs.YtnmhoghmhglimaaDoorW.PrintLast Go.Proofs.YtnmhoghmhglimaaDoorW.PrintMore
attribute [local go_sem] max2_int min2_int max_two min_two max_three min_three max_four min_four   -- for this text's walks alone
set_option linter.unusedVariables false
set_option linter.unusedSimpArgs false

/-! ### spec_ArgsRight: function 34 -/
mutual
def spec_ArgsRight.l0 : Nat → List (S54) → Int → Option (Bool)
  | 0, _, _ => none
  | k + 1, x0, x3 => if x3 < (x0.length : Int) then (if 0 ≤ x3 then ((spec_ArgumentRight.f k ((rd_T54 x0 x3).f1.f0) ((rd_T54 x0 x3).f1.f1) ((rd_T54 x0 x3).f1.f2) ((rd_T54 x0 x3).f1.f3)).bind fun t108 => (if t108 = true then (spec_ArgsRight.j1 k x0 x3 (decide ((((rd_T54 x0 x3).f0).size : Int) > 100))) else (spec_ArgsRight.j1 k x0 x3 true))) else (none)) else (some (decide ((x0.length : Int) ≤ 20)))
def spec_ArgsRight.j1 : Nat → List (S54) → Int → Bool → Option (Bool)
  | 0, _, _, _ => none
  | k + 1, x0, x3, x26 => if x26 = true then (some false) else (spec_ArgsRight.l1 k x0 x3 0)
def spec_ArgsRight.l1 : Nat → List (S54) → Int → Int → Option (Bool)
  | 0, _, _, _ => none
  | k + 1, x0, x3, x4 => if x4 < x3 then (if 0 ≤ x4 then (if x4 < (x0.length : Int) then (if 0 ≤ x3 then (if x3 < (x0.length : Int) then (if ((rd_T54 x0 x4).f0).toList = ((rd_T54 x0 x3).f0).toList then (some false) else (spec_ArgsRight.l1 k x0 x3 (wrap64 (x4 + 1)))) else (none)) else (none)) else (none)) else (none)) else (spec_ArgsRight.l0 k x0 (wrap64 (x3 + 1)))
end
def spec_ArgsRight.f (k : Nat) (l0 : List (S54)) : Option (Bool) := spec_ArgsRight.l0 k l0 0
set_option maxHeartbeats 8000000 in
set_option maxRecDepth 100000 in
theorem spec_ArgsRight.calls (k : Nat) (A0 : Option Addr) (c0 : Nat) (l0 : List (S54)) (r : Bool) (w : World) (hr0 : Kd.C k54 w A0 l0.length l0) (hc0 : l0.length ≤ c0) (h : spec_ArgsRight.f k l0 = some r) :
    Calls Tryd.prog 34 #[.slice A0 l0.length c0] w fun e w' => e = .returned (.bool r) ∧ Below w.heap.size w w' := by
  have hu52 := Tryd.underlying52
  have HR0 := Aside0.mk hr0
  have HC0 := Aside0.mk hc0
  clear hr0 hc0
  have HB := Aside0.mk (Below.refl w.heap.size w)
  have H : (spec_ArgsRight.l0 k l0 0) = some r := h
  clear h
  have H' := Aside0.mk H
  clear H
  go_enter Tryd.func34, Tryd.ntmps34
  go_wp2
  repeat (go_quiet (fail); try go_wp2)
  go_loopg [3] k (fun kq v3 w' => ∃ (x3_1 : Int), v3 = .int .i64 x3_1 ∧ Aside0 (spec_ArgsRight.l0 kq l0 x3_1 = some r) ∧ Aside0 (kq ≤ k) ∧ Aside0 (Below w.heap.size w w'))
  case atStart => exact ⟨(0), (by first | rfl | (simp; done) | (simp [*]; done)), H', ⟨Nat.le_refl _⟩, ⟨by repeat (first | (with_reducible first | exact HB.out | apply below_alloc | apply pw_below_drewN | apply below_drew1) | exact HB.out)⟩⟩
  case round =>
    clear H'
    obtain ⟨x3_1, rfl, HA, HK1, HB⟩ := hrel
    cases gk with
    | zero => exact absurd HA.out (by simp [spec_ArgsRight.l0])
    | succ k1 =>
      have H := HA.out
      clear HA
      simp only [spec_ArgsRight.l0] at H
      by_cases c2 : x3_1 < (l0.length : Int)
      · rw [if_pos c2] at H
        have c2b0 : decide (x3_1 < (l0.length : Int)) = true := decide_eq_true c2
        clear c2
        have HC3 := Aside0.mk H
        clear H
        go_upto_region 4 with (fail)
        repeat (go_quiet (fail); go_upto_region 4 with (fail))
        go_cut [26] (fun v26 wc => ∃ (kq : Nat) (x26_2 : Bool), v26 = .bool x26_2 ∧ Aside0 (spec_ArgsRight.j1 kq l0 x3_1 x26_2 = some r) ∧ Aside0 (kq ≤ k1) ∧ Aside0 (Below w.heap.size w wc))
        case first =>
          have H := HC3.out
          clear HC3
          by_cases c4 : 0 ≤ x3_1
          · rw [if_pos c4] at H
            have c4b0 : decide (0 ≤ x3_1) = true := decide_eq_true c4
            clear c4
            (first | rw [c4b0] | (simp only [i64_w, i32_w]; rw [c4b0]) | skip)
            replace H := Option.bind_eq_some_iff.mp H
            obtain ⟨t108, A50, H⟩ := H
            replace H : (if t108 = true then (spec_ArgsRight.j1 k1 l0 x3_1 (decide ((((rd_T54 l0 x3_1).f0).size : Int) > 100))) else (spec_ArgsRight.j1 k1 l0 x3_1 true)) = some r := H
            have A5 := Aside0.mk A50
            clear A50
            by_cases c6 : t108 = true
            · subst c6
              have H1 : (spec_ArgsRight.j1 k1 l0 x3_1 (decide ((((rd_T54 l0 x3_1).f0).size : Int) > 100))) = some r := by rw [if_pos rfl] at H; exact H
              clear H
              have H := H1
              clear H1
              have H' := Aside0.mk H
              clear H
              have p107 : 0 ≤ (x3_1 : Int) := of_decide_eq_true (by first | (with_reducible assumption) | assumption)
              have q107 : x3_1 < (l0.length : Int) := of_decide_eq_true (by first | (with_reducible assumption) | assumption)
              obtain ⟨ad107, A107_4, c107_4, e107, hx107_0, hx107_1, hx107_2, hx107_3, hx107_4, hl107_4, hi107_4⟩ := at_T54 HR0.out x3_1 p107 q107
              cases e107
              replace hx107_0 := (HB.out.cell (World.block_lt_of_cell? w _ hx107_0)).trans hx107_0
              replace hx107_1 := (HB.out.cell (World.block_lt_of_cell? w _ hx107_1)).trans hx107_1
              replace hx107_2 := (HB.out.cell (World.block_lt_of_cell? w _ hx107_2)).trans hx107_2
              replace hx107_3 := (HB.out.cell (World.block_lt_of_cell? w _ hx107_3)).trans hx107_3
              replace hx107_4 := (HB.out.cell (World.block_lt_of_cell? w _ hx107_4)).trans hx107_4
              have HR107_4 := Aside0.mk hi107_4
              have HC107_4 := Aside0.mk hl107_4
              clear hi107_4 hl107_4
              replace p107 := eq_true p107
              replace q107 := eq_true q107
              go_wp2_with (first | (go_at_call 54; (with_reducible refine (spec_ArgumentRight.calls k1 ((rd_T54 l0 x3_1).f1.f0) ((rd_T54 l0 x3_1).f1.f1) ((rd_T54 l0 x3_1).f1.f2) _ _ ((rd_T54 l0 x3_1).f1.f3) true _ ?side1 ?side2 A5.out).mono ?_); (case side1 => repeat (first | exact (Kd.C_below HR107_4.out HB.out) | (with_reducible refine Kd.C_alloc ?_ _) | (with_reducible refine Kd.C_drewN ?_ _) | (with_reducible refine Kd.C_drew ?_))); (case side2 => exact HC107_4.out); rintro e w7 ⟨rfl, hb⟩; have n0_ := Aside0.mk (below_step (by repeat (first | (with_reducible first | exact HB.out | apply below_alloc | apply pw_below_drewN | apply below_drew1) | exact HB.out)) hb); clear HB; have HB := n0_; clear n0_; (try clear hb); (try clear hb2); (try clear hk); (try clear hi); have p109 : 0 ≤ (x3_1 : Int) := of_decide_eq_true (by first | (with_reducible assumption) | assumption); have q109 : x3_1 < (l0.length : Int) := of_decide_eq_true (by first | (with_reducible assumption) | assumption); obtain ⟨ad109, A109_4, c109_4, e109, hx109_0, hx109_1, hx109_2, hx109_3, hx109_4, hl109_4, hi109_4⟩ := at_T54 HR0.out x3_1 p109 q109; obtain rfl : ad107 = ad109 := (by injection e109); replace hx109_0 := (HB.out.cell (World.block_lt_of_cell? w _ hx109_0)).trans hx109_0; replace hx109_1 := (HB.out.cell (World.block_lt_of_cell? w _ hx109_1)).trans hx109_1; replace hx109_2 := (HB.out.cell (World.block_lt_of_cell? w _ hx109_2)).trans hx109_2; replace hx109_3 := (HB.out.cell (World.block_lt_of_cell? w _ hx109_3)).trans hx109_3; replace hx109_4 := (HB.out.cell (World.block_lt_of_cell? w _ hx109_4)).trans hx109_4; have HR109_4 := Aside0.mk hi109_4; have HC109_4 := Aside0.mk hl109_4; clear hi109_4 hl109_4; replace p109 := eq_true p109; replace q109 := eq_true q109))
              repeat (go_quiet (first | (go_at_call 54; (with_reducible refine (spec_ArgumentRight.calls k1 ((rd_T54 l0 x3_1).f1.f0) ((rd_T54 l0 x3_1).f1.f1) ((rd_T54 l0 x3_1).f1.f2) _ _ ((rd_T54 l0 x3_1).f1.f3) true _ ?side1 ?side2 A5.out).mono ?_); (case side1 => repeat (first | exact (Kd.C_below HR107_4.out HB.out) | (with_reducible refine Kd.C_alloc ?_ _) | (with_reducible refine Kd.C_drewN ?_ _) | (with_reducible refine Kd.C_drew ?_))); (case side2 => exact HC107_4.out); rintro e w7 ⟨rfl, hb⟩; have n0_ := Aside0.mk (below_step (by repeat (first | (with_reducible first | exact HB.out | apply below_alloc | apply pw_below_drewN | apply below_drew1) | exact HB.out)) hb); clear HB; have HB := n0_; clear n0_; (try clear hb); (try clear hb2); (try clear hk); (try clear hi); have p109 : 0 ≤ (x3_1 : Int) := of_decide_eq_true (by first | (with_reducible assumption) | assumption); have q109 : x3_1 < (l0.length : Int) := of_decide_eq_true (by first | (with_reducible assumption) | assumption); obtain ⟨ad109, A109_4, c109_4, e109, hx109_0, hx109_1, hx109_2, hx109_3, hx109_4, hl109_4, hi109_4⟩ := at_T54 HR0.out x3_1 p109 q109; obtain rfl : ad107 = ad109 := (by injection e109); replace hx109_0 := (HB.out.cell (World.block_lt_of_cell? w _ hx109_0)).trans hx109_0; replace hx109_1 := (HB.out.cell (World.block_lt_of_cell? w _ hx109_1)).trans hx109_1; replace hx109_2 := (HB.out.cell (World.block_lt_of_cell? w _ hx109_2)).trans hx109_2; replace hx109_3 := (HB.out.cell (World.block_lt_of_cell? w _ hx109_3)).trans hx109_3; replace hx109_4 := (HB.out.cell (World.block_lt_of_cell? w _ hx109_4)).trans hx109_4; have HR109_4 := Aside0.mk hi109_4; have HC109_4 := Aside0.mk hl109_4; clear hi109_4 hl109_4; replace p109 := eq_true p109; replace q109 := eq_true q109)); try go_wp2_with (first | (go_at_call 54; (with_reducible refine (spec_ArgumentRight.calls k1 ((rd_T54 l0 x3_1).f1.f0) ((rd_T54 l0 x3_1).f1.f1) ((rd_T54 l0 x3_1).f1.f2) _ _ ((rd_T54 l0 x3_1).f1.f3) true _ ?side1 ?side2 A5.out).mono ?_); (case side1 => repeat (first | exact (Kd.C_below HR107_4.out HB.out) | (with_reducible refine Kd.C_alloc ?_ _) | (with_reducible refine Kd.C_drewN ?_ _) | (with_reducible refine Kd.C_drew ?_))); (case side2 => exact HC107_4.out); rintro e w7 ⟨rfl, hb⟩; have n0_ := Aside0.mk (below_step (by repeat (first | (with_reducible first | exact HB.out | apply below_alloc | apply pw_below_drewN | apply below_drew1) | exact HB.out)) hb); clear HB; have HB := n0_; clear n0_; (try clear hb); (try clear hb2); (try clear hk); (try clear hi); have p109 : 0 ≤ (x3_1 : Int) := of_decide_eq_true (by first | (with_reducible assumption) | assumption); have q109 : x3_1 < (l0.length : Int) := of_decide_eq_true (by first | (with_reducible assumption) | assumption); obtain ⟨ad109, A109_4, c109_4, e109, hx109_0, hx109_1, hx109_2, hx109_3, hx109_4, hl109_4, hi109_4⟩ := at_T54 HR0.out x3_1 p109 q109; obtain rfl : ad107 = ad109 := (by injection e109); replace hx109_0 := (HB.out.cell (World.block_lt_of_cell? w _ hx109_0)).trans hx109_0; replace hx109_1 := (HB.out.cell (World.block_lt_of_cell? w _ hx109_1)).trans hx109_1; replace hx109_2 := (HB.out.cell (World.block_lt_of_cell? w _ hx109_2)).trans hx109_2; replace hx109_3 := (HB.out.cell (World.block_lt_of_cell? w _ hx109_3)).trans hx109_3; replace hx109_4 := (HB.out.cell (World.block_lt_of_cell? w _ hx109_4)).trans hx109_4; have HR109_4 := Aside0.mk hi109_4; have HC109_4 := Aside0.mk hl109_4; clear hi109_4 hl109_4; replace p109 := eq_true p109; replace q109 := eq_true q109)))
              go_meet
              case rel => exact ⟨_, (decide ((((rd_T54 l0 x3_1).f0).size : Int) > 100)), (by first | rfl | (simp; done) | (simp [*]; done)), H', ⟨by have := HK1.out; first | omega | exact Nat.le_refl _⟩, ⟨by repeat (first | (with_reducible first | exact HB.out | apply below_alloc | apply pw_below_drewN | apply below_drew1) | exact HB.out)⟩⟩
            · replace c6 := Bool.eq_false_iff.mpr c6
              subst c6
              have H1 : (spec_ArgsRight.j1 k1 l0 x3_1 true) = some r := by rw [if_neg (show ¬ (false = true) by decide)] at H; exact H
              clear H
              have H := H1
              clear H1
              have H' := Aside0.mk H
              clear H
              have p107 : 0 ≤ (x3_1 : Int) := of_decide_eq_true (by first | (with_reducible assumption) | assumption)
              have q107 : x3_1 < (l0.length : Int) := of_decide_eq_true (by first | (with_reducible assumption) | assumption)
              obtain ⟨ad107, A107_4, c107_4, e107, hx107_0, hx107_1, hx107_2, hx107_3, hx107_4, hl107_4, hi107_4⟩ := at_T54 HR0.out x3_1 p107 q107
              cases e107
              replace hx107_0 := (HB.out.cell (World.block_lt_of_cell? w _ hx107_0)).trans hx107_0
              replace hx107_1 := (HB.out.cell (World.block_lt_of_cell? w _ hx107_1)).trans hx107_1
              replace hx107_2 := (HB.out.cell (World.block_lt_of_cell? w _ hx107_2)).trans hx107_2
              replace hx107_3 := (HB.out.cell (World.block_lt_of_cell? w _ hx107_3)).trans hx107_3
              replace hx107_4 := (HB.out.cell (World.block_lt_of_cell? w _ hx107_4)).trans hx107_4
              have HR107_4 := Aside0.mk hi107_4
              have HC107_4 := Aside0.mk hl107_4
              clear hi107_4 hl107_4
              replace p107 := eq_true p107
              replace q107 := eq_true q107
              go_wp2_with (first | (go_at_call 54; (with_reducible refine (spec_ArgumentRight.calls k1 ((rd_T54 l0 x3_1).f1.f0) ((rd_T54 l0 x3_1).f1.f1) ((rd_T54 l0 x3_1).f1.f2) _ _ ((rd_T54 l0 x3_1).f1.f3) false _ ?side1 ?side2 A5.out).mono ?_); (case side1 => repeat (first | exact (Kd.C_below HR107_4.out HB.out) | (with_reducible refine Kd.C_alloc ?_ _) | (with_reducible refine Kd.C_drewN ?_ _) | (with_reducible refine Kd.C_drew ?_))); (case side2 => exact HC107_4.out); rintro e w8 ⟨rfl, hb⟩; have n0_ := Aside0.mk (below_step (by repeat (first | (with_reducible first | exact HB.out | apply below_alloc | apply pw_below_drewN | apply below_drew1) | exact HB.out)) hb); clear HB; have HB := n0_; clear n0_; (try clear hb); (try clear hb2); (try clear hk); (try clear hi)))
              repeat (go_quiet (first | (go_at_call 54; (with_reducible refine (spec_ArgumentRight.calls k1 ((rd_T54 l0 x3_1).f1.f0) ((rd_T54 l0 x3_1).f1.f1) ((rd_T54 l0 x3_1).f1.f2) _ _ ((rd_T54 l0 x3_1).f1.f3) false _ ?side1 ?side2 A5.out).mono ?_); (case side1 => repeat (first | exact (Kd.C_below HR107_4.out HB.out) | (with_reducible refine Kd.C_alloc ?_ _) | (with_reducible refine Kd.C_drewN ?_ _) | (with_reducible refine Kd.C_drew ?_))); (case side2 => exact HC107_4.out); rintro e w8 ⟨rfl, hb⟩; have n0_ := Aside0.mk (below_step (by repeat (first | (with_reducible first | exact HB.out | apply below_alloc | apply pw_below_drewN | apply below_drew1) | exact HB.out)) hb); clear HB; have HB := n0_; clear n0_; (try clear hb); (try clear hb2); (try clear hk); (try clear hi))); try go_wp2_with (first | (go_at_call 54; (with_reducible refine (spec_ArgumentRight.calls k1 ((rd_T54 l0 x3_1).f1.f0) ((rd_T54 l0 x3_1).f1.f1) ((rd_T54 l0 x3_1).f1.f2) _ _ ((rd_T54 l0 x3_1).f1.f3) false _ ?side1 ?side2 A5.out).mono ?_); (case side1 => repeat (first | exact (Kd.C_below HR107_4.out HB.out) | (with_reducible refine Kd.C_alloc ?_ _) | (with_reducible refine Kd.C_drewN ?_ _) | (with_reducible refine Kd.C_drew ?_))); (case side2 => exact HC107_4.out); rintro e w8 ⟨rfl, hb⟩; have n0_ := Aside0.mk (below_step (by repeat (first | (with_reducible first | exact HB.out | apply below_alloc | apply pw_below_drewN | apply below_drew1) | exact HB.out)) hb); clear HB; have HB := n0_; clear n0_; (try clear hb); (try clear hb2); (try clear hk); (try clear hi))))
              go_meet
              case rel => exact ⟨_, (true), (by first | rfl | (simp; done) | (simp [*]; done)), H', ⟨by have := HK1.out; first | omega | exact Nat.le_refl _⟩, ⟨by repeat (first | (with_reducible first | exact HB.out | apply below_alloc | apply pw_below_drewN | apply below_drew1) | exact HB.out)⟩⟩
          · rw [if_neg c4] at H
            exact absurd H (by simp)
        case rest =>
          clear HC3
          try clear c1
          try clear p1
          try clear q1
          try clear hx1
          try clear c2
          try clear c2b0
          try clear p2
          try clear c3
          try clear c4
          try clear c4b0
          try clear c6
          try clear hx107_0
          try clear hx107_1
          try clear hx107_2
          try clear hx107_3
          try clear hx107_4
          try clear hx109_0
          try clear hx109_1
          try clear hx109_2
          try clear hx109_3
          try clear hx109_4
          try clear p107
          try clear p109
          try clear q107
          try clear q109
          obtain ⟨kq, x26_2, rfl, HA, HJ2, HB⟩ := hcut
          cases kq with
          | zero => exact absurd HA.out (by simp [spec_ArgsRight.j1])
          | succ kj2 =>
            have H := HA.out
            clear HA
            simp only [spec_ArgsRight.j1] at H
            by_cases c9 : x26_2 = true
            · subst c9
              have H1 : (some false) = some r := by rw [if_pos rfl] at H; exact H
              clear H
              have H := H1
              clear H1
              obtain rfl := Option.some.inj H
              go_wp2
              repeat (go_quiet (fail); try go_wp2)
              go_ret
              exact ⟨by first | rfl | (simp [errW_none, errW_some] <;> rfl) | (simp [*, errW_none, errW_some] <;> rfl), by repeat (first | (with_reducible first | exact HB.out | apply below_alloc | apply pw_below_drewN | apply below_drew1) | exact HB.out)⟩
            · replace c9 := Bool.eq_false_iff.mpr c9
              subst c9
              have H1 : (spec_ArgsRight.l1 kj2 l0 x3_1 0) = some r := by rw [if_neg (show ¬ (false = true) by decide)] at H; exact H
              clear H
              have H := H1
              clear H1
              have H' := Aside0.mk H
              clear H
              go_wp2
              repeat (go_quiet (fail); try go_wp2)
              go_loopg [4] kj2 (fun kq v4 w' => ∃ (x4_3 : Int), v4 = .int .i64 x4_3 ∧ Aside0 (spec_ArgsRight.l1 kq l0 x3_1 x4_3 = some r) ∧ Aside0 (kq ≤ kj2) ∧ Aside0 (Below w.heap.size w w'))
              case atStart => exact ⟨(0), (by first | rfl | (simp; done) | (simp [*]; done)), H', ⟨Nat.le_refl _⟩, ⟨by repeat (first | (with_reducible first | exact HB.out | apply below_alloc | apply pw_below_drewN | apply below_drew1) | exact HB.out)⟩⟩
              case round =>
                clear H'
                try clear c1
                try clear p1
                try clear q1
                try clear hx1
                try clear c2
                try clear c2b0
                try clear p2
                try clear c3
                try clear c4
                try clear c4b0
                try clear c6
                try clear c9
                try clear hx107_0
                try clear hx107_1
                try clear hx107_2
                try clear hx107_3
                try clear hx107_4
                try clear hx109_0
                try clear hx109_1
                try clear hx109_2
                try clear hx109_3
                try clear hx109_4
                try clear p1
                try clear p107
                try clear p109
                try clear p2
                try clear q1
                try clear q107
                try clear q109
                obtain ⟨x4_3, rfl, HA, HK3, HB⟩ := hrel
                cases gk with
                | zero => exact absurd HA.out (by simp [spec_ArgsRight.l1])
                | succ k3 =>
                  have H := HA.out
                  clear HA
                  simp only [spec_ArgsRight.l1] at H
                  by_cases c10 : x4_3 < x3_1
                  · rw [if_pos c10] at H
                    have c10b0 : decide (x4_3 < x3_1) = true := decide_eq_true c10
                    clear c10
                    by_cases c11 : 0 ≤ x4_3
                    · rw [if_pos c11] at H
                      have c11b0 : decide (0 ≤ x4_3) = true := decide_eq_true c11
                      clear c11
                      by_cases c12 : x4_3 < (l0.length : Int)
                      · rw [if_pos c12] at H
                        have c12b0 : decide (x4_3 < (l0.length : Int)) = true := decide_eq_true c12
                        clear c12
                        by_cases c13 : 0 ≤ x3_1
                        · rw [if_pos c13] at H
                          have c13b0 : decide (0 ≤ x3_1) = true := decide_eq_true c13
                          clear c13
                          by_cases c14 : x3_1 < (l0.length : Int)
                          · rw [if_pos c14] at H
                            have c14b0 : decide (x3_1 < (l0.length : Int)) = true := decide_eq_true c14
                            clear c14
                            by_cases c15 : ((rd_T54 l0 x4_3).f0).toList = ((rd_T54 l0 x3_1).f0).toList
                            · rw [if_pos c15] at H
                              have c15b0 : (((rd_T54 l0 x4_3).f0).toList == ((rd_T54 l0 x3_1).f0).toList) = true := beq_iff_eq.mpr c15
                              have c15b1 : (((rd_T54 l0 x4_3).f0).toList != ((rd_T54 l0 x3_1).f0).toList) = false := bne_eq_false_iff_eq.mpr c15
                              clear c15
                              obtain rfl := Option.some.inj H
                              have p110 : 0 ≤ (x4_3 : Int) := of_decide_eq_true (by first | (with_reducible assumption) | assumption)
                              have q110 : x4_3 < (l0.length : Int) := of_decide_eq_true (by first | (with_reducible assumption) | assumption)
                              obtain ⟨ad110, A110_4, c110_4, e110, hx110_0, hx110_1, hx110_2, hx110_3, hx110_4, hl110_4, hi110_4⟩ := at_T54 HR0.out x4_3 p110 q110
                              cases e110
                              replace hx110_0 := (HB.out.cell (World.block_lt_of_cell? w _ hx110_0)).trans hx110_0
                              replace hx110_1 := (HB.out.cell (World.block_lt_of_cell? w _ hx110_1)).trans hx110_1
                              replace hx110_2 := (HB.out.cell (World.block_lt_of_cell? w _ hx110_2)).trans hx110_2
                              replace hx110_3 := (HB.out.cell (World.block_lt_of_cell? w _ hx110_3)).trans hx110_3
                              replace hx110_4 := (HB.out.cell (World.block_lt_of_cell? w _ hx110_4)).trans hx110_4
                              have HR110_4 := Aside0.mk hi110_4
                              have HC110_4 := Aside0.mk hl110_4
                              clear hi110_4 hl110_4
                              replace p110 := eq_true p110
                              replace q110 := eq_true q110
                              have p111 : 0 ≤ (x3_1 : Int) := of_decide_eq_true (by first | (with_reducible assumption) | assumption)
                              have q111 : x3_1 < (l0.length : Int) := of_decide_eq_true (by first | (with_reducible assumption) | assumption)
                              obtain ⟨ad111, A111_4, c111_4, e111, hx111_0, hx111_1, hx111_2, hx111_3, hx111_4, hl111_4, hi111_4⟩ := at_T54 HR0.out x3_1 p111 q111
                              obtain rfl : ad110 = ad111 := (by injection e111)
                              replace hx111_0 := (HB.out.cell (World.block_lt_of_cell? w _ hx111_0)).trans hx111_0
                              replace hx111_1 := (HB.out.cell (World.block_lt_of_cell? w _ hx111_1)).trans hx111_1
                              replace hx111_2 := (HB.out.cell (World.block_lt_of_cell? w _ hx111_2)).trans hx111_2
                              replace hx111_3 := (HB.out.cell (World.block_lt_of_cell? w _ hx111_3)).trans hx111_3
                              replace hx111_4 := (HB.out.cell (World.block_lt_of_cell? w _ hx111_4)).trans hx111_4
                              have HR111_4 := Aside0.mk hi111_4
                              have HC111_4 := Aside0.mk hl111_4
                              clear hi111_4 hl111_4
                              replace p111 := eq_true p111
                              replace q111 := eq_true q111
                              go_wp2
                              repeat (go_quiet (fail); try go_wp2)
                              go_ret
                              exact ⟨by first | rfl | (simp [errW_none, errW_some] <;> rfl) | (simp [*, errW_none, errW_some] <;> rfl), by repeat (first | (with_reducible first | exact HB.out | apply below_alloc | apply pw_below_drewN | apply below_drew1) | exact HB.out)⟩
                            · rw [if_neg c15] at H
                              have c15b0 : (((rd_T54 l0 x4_3).f0).toList == ((rd_T54 l0 x3_1).f0).toList) = false := beq_eq_false_iff_ne.mpr c15
                              have c15b1 : (((rd_T54 l0 x4_3).f0).toList != ((rd_T54 l0 x3_1).f0).toList) = true := bne_iff_ne.mpr c15
                              have H' := Aside0.mk H
                              clear H
                              have p110 : 0 ≤ (x4_3 : Int) := of_decide_eq_true (by first | (with_reducible assumption) | assumption)
                              have q110 : x4_3 < (l0.length : Int) := of_decide_eq_true (by first | (with_reducible assumption) | assumption)
                              obtain ⟨ad110, A110_4, c110_4, e110, hx110_0, hx110_1, hx110_2, hx110_3, hx110_4, hl110_4, hi110_4⟩ := at_T54 HR0.out x4_3 p110 q110
                              cases e110
                              replace hx110_0 := (HB.out.cell (World.block_lt_of_cell? w _ hx110_0)).trans hx110_0
                              replace hx110_1 := (HB.out.cell (World.block_lt_of_cell? w _ hx110_1)).trans hx110_1
                              replace hx110_2 := (HB.out.cell (World.block_lt_of_cell? w _ hx110_2)).trans hx110_2
                              replace hx110_3 := (HB.out.cell (World.block_lt_of_cell? w _ hx110_3)).trans hx110_3
                              replace hx110_4 := (HB.out.cell (World.block_lt_of_cell? w _ hx110_4)).trans hx110_4
                              have HR110_4 := Aside0.mk hi110_4
                              have HC110_4 := Aside0.mk hl110_4
                              clear hi110_4 hl110_4
                              replace p110 := eq_true p110
                              replace q110 := eq_true q110
                              have p111 : 0 ≤ (x3_1 : Int) := of_decide_eq_true (by first | (with_reducible assumption) | assumption)
                              have q111 : x3_1 < (l0.length : Int) := of_decide_eq_true (by first | (with_reducible assumption) | assumption)
                              obtain ⟨ad111, A111_4, c111_4, e111, hx111_0, hx111_1, hx111_2, hx111_3, hx111_4, hl111_4, hi111_4⟩ := at_T54 HR0.out x3_1 p111 q111
                              obtain rfl : ad110 = ad111 := (by injection e111)
                              replace hx111_0 := (HB.out.cell (World.block_lt_of_cell? w _ hx111_0)).trans hx111_0
                              replace hx111_1 := (HB.out.cell (World.block_lt_of_cell? w _ hx111_1)).trans hx111_1
                              replace hx111_2 := (HB.out.cell (World.block_lt_of_cell? w _ hx111_2)).trans hx111_2
                              replace hx111_3 := (HB.out.cell (World.block_lt_of_cell? w _ hx111_3)).trans hx111_3
                              replace hx111_4 := (HB.out.cell (World.block_lt_of_cell? w _ hx111_4)).trans hx111_4
                              have HR111_4 := Aside0.mk hi111_4
                              have HC111_4 := Aside0.mk hl111_4
                              clear hi111_4 hl111_4
                              replace p111 := eq_true p111
                              replace q111 := eq_true q111
                              go_wp2
                              repeat (go_quiet (fail); try go_wp2)
                              go_roundg k3
                              case measure => have := HK1.out; have := HJ2.out; have := HK3.out; omega
                              case rel => exact ⟨(wrap64 (x4_3 + 1)), (by first | rfl | (simp; done) | (simp [*]; done)), H', ⟨by have := HK1.out; have := HJ2.out; have := HK3.out; omega⟩, ⟨by repeat (first | (with_reducible first | exact HB.out | apply below_alloc | apply pw_below_drewN | apply below_drew1) | exact HB.out)⟩⟩
                          · rw [if_neg c14] at H
                            exact absurd H (by simp)
                        · rw [if_neg c13] at H
                          exact absurd H (by simp)
                      · rw [if_neg c12] at H
                        exact absurd H (by simp)
                    · rw [if_neg c11] at H
                      exact absurd H (by simp)
                  · rw [if_neg c10] at H
                    have c10b0 : decide (x4_3 < x3_1) = false := decide_eq_false c10
                    clear c10
                    have H' := Aside0.mk H
                    clear H
                    go_wp2
                    repeat (go_quiet (fail); try go_wp2)
                    go_roundg k3
                    case measure => have := HK1.out; have := HJ2.out; have := HK3.out; omega
                    case rel => exact ⟨(wrap64 (x3_1 + 1)), (by first | rfl | (simp; done) | (simp [*]; done)), H', ⟨by have := HK1.out; have := HJ2.out; have := HK3.out; omega⟩, ⟨by repeat (first | (with_reducible first | exact HB.out | apply below_alloc | apply pw_below_drewN | apply below_drew1) | exact HB.out)⟩⟩
      · rw [if_neg c2] at H
        have c2b0 : decide (x3_1 < (l0.length : Int)) = false := decide_eq_false c2
        clear c2
        obtain rfl := Option.some.inj H
        go_wp2
        repeat (go_quiet (fail); try go_wp2)
        go_ret
        exact ⟨by first | rfl | (simp [errW_none, errW_some] <;> rfl) | (simp [*, errW_none, errW_some] <;> rfl), by repeat (first | (with_reducible first | exact HB.out | apply below_alloc | apply pw_below_drewN | apply below_drew1) | exact HB.out)⟩

end Go.Proofs.YtnmhoghmhglimaaDoor.QN
-- WRITTEN BY A PROGRAM OF THIS SESSION (wip/print2.py): the print, with contracts of this session's own let in. Not trusted: Lean checks it.
namespace Go.Proofs.YtnmhoghmhglimaaDoor.QN
open Go.RowKit Go.Proofs.YtnmhoghmhglimaaDoorW.PrintWords Go.Proofs.YtnmhoghmhglimaaDoorW.PrintLast Go.Proofs.YtnmhoghmhglimaaDoorW.PrintMore
attribute [local go_sem] max2_int min2_int max_two min_two max_three min_three max_four min_four   -- for this text's walks alone
set_option linter.unusedVariables false
set_option linter.unusedSimpArgs false

/-! ### spec_decimal: function 50 -/
mutual
def spec_decimal.l0 : Nat → Int → ByteArray → Option (ByteArray)
  | 0, _, _ => none
  | k + 1, x0, x3 => if x0 > 9 then ((some (([(wrap64 (48 + (Int.tmod x0 10))) % 256] : List Int) : List Int)).bind fun y113 => (if (strOfNums y113).size + x3.size ≤ 9223372036854775807 then (spec_decimal.l0 k (wrap64 (Int.tdiv x0 10)) ((strOfNums y113) ++ x3)) else (none))) else ((some (([(wrap64 (48 + x0)) % 256] : List Int) : List Int)).bind fun y116 => (if (strOfNums y116).size + x3.size ≤ 9223372036854775807 then (some ((strOfNums y116) ++ x3)) else (none)))
def spec_decimal.f : Nat → Int → Option (ByteArray)
  | 0, _ => none
  | k + 1, a0 => if a0 < 0 then (if a0 = (wrap64 (-a0)) then (some (⟨#[45, 57, 50, 50, 51, 51, 55, 50, 48, 51, 54, 56, 53, 52, 55, 55, 53, 56, 48, 56]⟩ : ByteArray)) else ((spec_decimal.f k (wrap64 (-a0))).bind fun t112 => (if 1 + t112.size ≤ 9223372036854775807 then (some ((⟨#[45]⟩ : ByteArray) ++ t112)) else (none)))) else (spec_decimal.l0 k a0 (⟨#[]⟩ : ByteArray))
end
set_option maxHeartbeats 8000000 in
set_option maxRecDepth 100000 in
theorem spec_decimal.calls (k : Nat) : ∀ (a0 : Int) (r : ByteArray) (w : World) (h : spec_decimal.f k a0 = some r),
    Calls Tryd.prog 50 #[.int .i64 a0] w fun e w' => e = .returned (.string r) ∧ Below w.heap.size w w' := by
  induction k using Nat.strongRecOn with
  | _ k ih =>
  intro a0 r w h
  cases k with
  | zero => exact absurd h (by simp [spec_decimal.f])
  | succ k =>
  simp only [spec_decimal.f] at h
  have HB := Aside0.mk (Below.refl w.heap.size w)
  have H : (if a0 < 0 then (if a0 = (wrap64 (-a0)) then (some (⟨#[45, 57, 50, 50, 51, 51, 55, 50, 48, 51, 54, 56, 53, 52, 55, 55, 53, 56, 48, 56]⟩ : ByteArray)) else ((spec_decimal.f k (wrap64 (-a0))).bind fun t112 => (if 1 + t112.size ≤ 9223372036854775807 then (some ((⟨#[45]⟩ : ByteArray) ++ t112)) else (none)))) else (spec_decimal.l0 k a0 (⟨#[]⟩ : ByteArray))) = some r := h
  clear h
  by_cases c2 : a0 < 0
  · rw [if_pos c2] at H
    have c2b0 : decide (a0 < 0) = true := decide_eq_true c2
    clear c2
    by_cases c3 : a0 = (wrap64 (-a0))
    · rw [if_pos c3] at H
      have c3b0 : (a0 == (wrap64 (-a0))) = true := beq_iff_eq.mpr c3
      have c3b1 : (a0 != (wrap64 (-a0))) = false := bne_eq_false_iff_eq.mpr c3
      clear c3
      obtain rfl := Option.some.inj H
      go_enter Tryd.func50, Tryd.ntmps50
      go_wp2
      go_ret
      exact ⟨by first | rfl | (simp [errW_none, errW_some] <;> rfl) | (simp [*, errW_none, errW_some] <;> rfl), by repeat (first | (with_reducible first | exact HB.out | apply below_alloc | apply pw_below_drewN | apply below_drew1) | exact HB.out)⟩
    · rw [if_neg c3] at H
      have c3b0 : (a0 == (wrap64 (-a0))) = false := beq_eq_false_iff_ne.mpr c3
      have c3b1 : (a0 != (wrap64 (-a0))) = true := bne_iff_ne.mpr c3
      replace H := Option.bind_eq_some_iff.mp H
      obtain ⟨t112, A40, H⟩ := H
      replace H : (if 1 + t112.size ≤ 9223372036854775807 then (some ((⟨#[45]⟩ : ByteArray) ++ t112)) else (none)) = some r := H
      have A4 := Aside0.mk A40
      clear A40
      by_cases c5 : 1 + t112.size ≤ 9223372036854775807
      · rw [if_pos c5] at H
        have c5b0 := eq_true c5
        have c5b1 : decide (1 + t112.size ≤ 9223372036854775807) = true := decide_eq_true c5
        try have c5b2 : (9223372036854775807 < 1 + t112.size) = False := eq_false (Nat.not_lt.2 c5)
        obtain rfl := Option.some.inj H
        go_enter Tryd.func50, Tryd.ntmps50
        go_wp2_with (first | ((with_reducible refine gate_callee (f := 50) rfl ?_); refine goesL_ (some 12) rfl rfl Tryd.func50 (by kernel_rfl) rfl #[.int .i64 (wrap64 (-a0))] rfl (by (try simp only [List.map_toArray, List.map_cons, List.map_nil]); first | done | rfl | (simp only [List.length_drop, List.length_take]; rfl)) ?_; (with_reducible refine (ih k (by omega) (wrap64 (-a0)) t112 _ A4.out).mono ?_); rintro e w6 ⟨rfl, hb⟩; refine ⟨_, rfl, ?_⟩; have n0_ := Aside0.mk (below_step (by repeat (first | (with_reducible first | exact HB.out | apply below_alloc | apply pw_below_drewN | apply below_drew1) | exact HB.out)) hb); clear HB; have HB := n0_; clear n0_; (try clear hb); (try clear hb2); (try clear hk); (try clear hi)))
        go_ret
        exact ⟨by first | rfl | (simp [errW_none, errW_some] <;> rfl) | (simp [*, errW_none, errW_some] <;> rfl), by repeat (first | (with_reducible first | exact HB.out | apply below_alloc | apply pw_below_drewN | apply below_drew1) | exact HB.out)⟩
      · rw [if_neg c5] at H
        exact absurd H (by simp)
  · rw [if_neg c2] at H
    have c2b0 : decide (a0 < 0) = false := decide_eq_false c2
    clear c2
    have H' := Aside0.mk H
    clear H
    go_enter Tryd.func50, Tryd.ntmps50
    go_wp2
    go_loopg [0, 3] k (fun kq v0 v3 w' => ∃ (x0_1 : Int) (x3_1 : ByteArray), v0 = .int .i64 x0_1 ∧ v3 = .string x3_1 ∧ Aside0 (spec_decimal.l0 kq x0_1 x3_1 = some r) ∧ Aside0 (kq ≤ k) ∧ Aside0 (Below w.heap.size w w'))
    case atStart => exact ⟨(a0), ((⟨#[]⟩ : ByteArray)), (by first | rfl | (simp; done) | (simp [*]; done)), (by first | rfl | (simp; done) | (simp [*]; done)), H', ⟨Nat.le_refl _⟩, ⟨by repeat (first | (with_reducible first | exact HB.out | apply below_alloc | apply pw_below_drewN | apply below_drew1) | exact HB.out)⟩⟩
    case round =>
      clear H'
      try clear c2
      try clear c2b0
      try clear p2
      try clear c3
      try clear c3b0
      try clear c3b1
      try clear c5
      try clear c5b0
      try clear c5b1
      try clear c5b2
      try clear p6
      obtain ⟨x0_1, x3_1, rfl, rfl, HA, HK1, HB⟩ := hrel
      cases gk with
      | zero => exact absurd HA.out (by simp [spec_decimal.l0])
      | succ k1 =>
        have H := HA.out
        clear HA
        simp only [spec_decimal.l0] at H
        by_cases c7 : x0_1 > 9
        · rw [if_pos c7] at H
          have c7b0 : decide (9 < x0_1) = true := decide_eq_true c7
          clear c7
          obtain ⟨y113, hy113⟩ : ∃ y_ : List Int, y_ = (([(wrap64 (48 + (Int.tmod x0_1 10))) % 256] : List Int)) := ⟨_, rfl⟩
          replace H : (if (strOfNums y113).size + x3_1.size ≤ 9223372036854775807 then (spec_decimal.l0 k1 (wrap64 (Int.tdiv x0_1 10)) ((strOfNums y113) ++ x3_1)) else (none)) = some r := by first | (rw [hy113]; with_reducible exact H) | (have H2_ := (Option.bind_some _ _).symm.trans H; rw [hy113]; with_reducible exact H2_) | (have H2_ := (Option.bind_some _ _).symm.trans H; with_reducible exact H2_) | with_reducible exact H | (rw [hy113]; exact H) | exact H
          have Ny113 := Aside0.mk hy113
          clear hy113
          by_cases c8 : (strOfNums y113).size + x3_1.size ≤ 9223372036854775807
          · rw [if_pos c8] at H
            have c8b0 := eq_true c8
            have c8b1 : decide ((strOfNums y113).size + x3_1.size ≤ 9223372036854775807) = true := decide_eq_true c8
            try have c8b2 : (9223372036854775807 < (strOfNums y113).size + x3_1.size) = False := eq_false (Nat.not_lt.2 c8)
            have H' := Aside0.mk H
            clear H
            go_wp2_with (first | ((with_reducible refine gate_dst (N := 20) rfl ?_); refine Kd.R_lit (Kd.int .u8) _ 5 ?hg (N := 20) ?hd (xs := ([(wrap64 (48 + (Int.tmod x0_1 10))) % 256] : List Int)) (inner := [.int .u8 ((wrap64 (48 + (Int.tmod x0_1 10))) % 256)]) (ok := fun _ => True) (okp := fun _ => True) ?hr ?hp (fun _ hk => hk) trivial (Below.refl _ _) (Nat.le_refl _) (by simp) ?_; (case hd => rfl); (case hg => rfl); (case hr => first | (go_simp; done) | (go_simp; rfl)); (case hp => exact (Reps.one (show Kd.M (Kd.int .u8) _ _ _ ((wrap64 (48 + (Int.tmod x0_1 10))) % 256) [.int .u8 ((wrap64 (48 + (Int.tmod x0_1 10))) % 256)] from rfl) (Reps.none _ _))); intro v114 w9 ho10 hb hg_ hnew_; clear hg_ hnew_; (first | rw [← Ny113.out] at ho10 | (simp only [Int.reduceToNat] at ho10; rw [← Ny113.out] at ho10)); have n0_ := Aside0.mk (Kd.R_lower ho10 (below_size (by repeat (first | (with_reducible first | exact HB.out | apply below_alloc | apply pw_below_drewN | apply below_drew1) | exact HB.out)))); have n1_ := Aside0.mk (below_step (by repeat (first | (with_reducible first | exact HB.out | apply below_alloc | apply pw_below_drewN | apply below_drew1) | exact HB.out)) hb); clear HB; have HO115 := n0_; have HB := n1_; clear n0_ n1_; clear hb ho10; have hcv11 := own_string (P := Tryd.prog) Tryd.underlying92 Tryd.underlying5 Tryd.underlying9 (Kd.own_of_R HO115.out)))
            go_roundg k1
            case measure => have := HK1.out; omega
            case rel => exact ⟨(wrap64 (Int.tdiv x0_1 10)), ((strOfNums y113) ++ x3_1), (by first | rfl | (simp; done) | (simp [*]; done)), (by first | rfl | (simp; done) | (simp [*]; done)), H', ⟨by have := HK1.out; omega⟩, ⟨by repeat (first | (with_reducible first | exact HB.out | apply below_alloc | apply pw_below_drewN | apply below_drew1) | exact HB.out)⟩⟩
          · rw [if_neg c8] at H
            exact absurd H (by simp)
        · rw [if_neg c7] at H
          have c7b0 : decide (9 < x0_1) = false := decide_eq_false c7
          clear c7
          obtain ⟨y116, hy116⟩ : ∃ y_ : List Int, y_ = (([(wrap64 (48 + x0_1)) % 256] : List Int)) := ⟨_, rfl⟩
          replace H : (if (strOfNums y116).size + x3_1.size ≤ 9223372036854775807 then (some ((strOfNums y116) ++ x3_1)) else (none)) = some r := by first | (rw [hy116]; with_reducible exact H) | (have H2_ := (Option.bind_some _ _).symm.trans H; rw [hy116]; with_reducible exact H2_) | (have H2_ := (Option.bind_some _ _).symm.trans H; with_reducible exact H2_) | with_reducible exact H | (rw [hy116]; exact H) | exact H
          have Ny116 := Aside0.mk hy116
          clear hy116
          by_cases c12 : (strOfNums y116).size + x3_1.size ≤ 9223372036854775807
          · rw [if_pos c12] at H
            have c12b0 := eq_true c12
            have c12b1 : decide ((strOfNums y116).size + x3_1.size ≤ 9223372036854775807) = true := decide_eq_true c12
            try have c12b2 : (9223372036854775807 < (strOfNums y116).size + x3_1.size) = False := eq_false (Nat.not_lt.2 c12)
            obtain rfl := Option.some.inj H
            go_wp2_with (first | ((with_reducible refine gate_dst (N := 29) rfl ?_); refine Kd.R_lit (Kd.int .u8) _ 5 ?hg (N := 29) ?hd (xs := ([(wrap64 (48 + x0_1)) % 256] : List Int)) (inner := [.int .u8 ((wrap64 (48 + x0_1)) % 256)]) (ok := fun _ => True) (okp := fun _ => True) ?hr ?hp (fun _ hk => hk) trivial (Below.refl _ _) (Nat.le_refl _) (by simp) ?_; (case hd => rfl); (case hg => rfl); (case hr => first | (go_simp; done) | (go_simp; rfl)); (case hp => exact (Reps.one (show Kd.M (Kd.int .u8) _ _ _ ((wrap64 (48 + x0_1)) % 256) [.int .u8 ((wrap64 (48 + x0_1)) % 256)] from rfl) (Reps.none _ _))); intro v117 w13 ho14 hb hg_ hnew_; clear hg_ hnew_; (first | rw [← Ny116.out] at ho14 | (simp only [Int.reduceToNat] at ho14; rw [← Ny116.out] at ho14)); have n0_ := Aside0.mk (Kd.R_lower ho14 (below_size (by repeat (first | (with_reducible first | exact HB.out | apply below_alloc | apply pw_below_drewN | apply below_drew1) | exact HB.out)))); have n1_ := Aside0.mk (below_step (by repeat (first | (with_reducible first | exact HB.out | apply below_alloc | apply pw_below_drewN | apply below_drew1) | exact HB.out)) hb); clear HB; have HO118 := n0_; have HB := n1_; clear n0_ n1_; clear hb ho14; have hcv15 := own_string (P := Tryd.prog) Tryd.underlying92 Tryd.underlying5 Tryd.underlying9 (Kd.own_of_R HO118.out)))
            go_ret
            exact ⟨by first | rfl | (simp [errW_none, errW_some] <;> rfl) | (simp [*, errW_none, errW_some] <;> rfl), by repeat (first | (with_reducible first | exact HB.out | apply below_alloc | apply pw_below_drewN | apply below_drew1) | exact HB.out)⟩
          · rw [if_neg c12] at H
            exact absurd H (by simp)

/-! ### spec_Mark: function 32 -/
def spec_Mark.f (k : Nat) (a0 : Int) (a1 : Int) (a2 : ByteArray) : Option (ByteArray) := if a0 = 2 then ((spec_decimal.f k a1).bind fun t119 => (if 1 + t119.size ≤ 9223372036854775807 then (some ((⟨#[36]⟩ : ByteArray) ++ t119)) else (none))) else (if a0 = 4 then ((spec_decimal.f k a1).bind fun t120 => (if 2 + t120.size ≤ 9223372036854775807 then (some ((⟨#[64, 112]⟩ : ByteArray) ++ t120)) else (none))) else (if a0 = 3 then (if 1 + a2.size ≤ 9223372036854775807 then (some ((⟨#[58]⟩ : ByteArray) ++ a2)) else (none)) else (some (⟨#[63]⟩ : ByteArray))))
set_option maxHeartbeats 8000000 in
set_option maxRecDepth 100000 in
theorem spec_Mark.calls (k : Nat) (a0 : Int) (a1 : Int) (a2 : ByteArray) (r : ByteArray) (w : World) (h : spec_Mark.f k a0 a1 a2 = some r) :
    Calls Tryd.prog 32 #[.int .i64 a0, .int .i64 a1, .string a2] w fun e w' => e = .returned (.string r) ∧ Below w.heap.size w w' := by
  have HB := Aside0.mk (Below.refl w.heap.size w)
  have H : (if a0 = 2 then ((spec_decimal.f k a1).bind fun t119 => (if 1 + t119.size ≤ 9223372036854775807 then (some ((⟨#[36]⟩ : ByteArray) ++ t119)) else (none))) else (if a0 = 4 then ((spec_decimal.f k a1).bind fun t120 => (if 2 + t120.size ≤ 9223372036854775807 then (some ((⟨#[64, 112]⟩ : ByteArray) ++ t120)) else (none))) else (if a0 = 3 then (if 1 + a2.size ≤ 9223372036854775807 then (some ((⟨#[58]⟩ : ByteArray) ++ a2)) else (none)) else (some (⟨#[63]⟩ : ByteArray))))) = some r := h
  clear h
  by_cases c4 : a0 = 2
  · rw [if_pos c4] at H
    have c4b0 : (a0 == 2) = true := beq_iff_eq.mpr c4
    have c4b1 : (a0 != 2) = false := bne_eq_false_iff_eq.mpr c4
    clear c4
    replace H := Option.bind_eq_some_iff.mp H
    obtain ⟨t119, A50, H⟩ := H
    replace H : (if 1 + t119.size ≤ 9223372036854775807 then (some ((⟨#[36]⟩ : ByteArray) ++ t119)) else (none)) = some r := H
    have A5 := Aside0.mk A50
    clear A50
    by_cases c6 : 1 + t119.size ≤ 9223372036854775807
    · rw [if_pos c6] at H
      have c6b0 := eq_true c6
      have c6b1 : decide (1 + t119.size ≤ 9223372036854775807) = true := decide_eq_true c6
      try have c6b2 : (9223372036854775807 < 1 + t119.size) = False := eq_false (Nat.not_lt.2 c6)
      obtain rfl := Option.some.inj H
      go_enter Tryd.func32, Tryd.ntmps32
      go_wp2_with (first | ((with_reducible refine gate_callee (f := 50) rfl ?_); refine goesL_ (some 11) rfl rfl Tryd.func50 (by kernel_rfl) rfl #[.int .i64 a1] rfl (by (try simp only [List.map_toArray, List.map_cons, List.map_nil]); first | done | rfl | (simp only [List.length_drop, List.length_take]; rfl)) ?_; (with_reducible refine (spec_decimal.calls k a1 t119 _ A5.out).mono ?_); rintro e w7 ⟨rfl, hb⟩; refine ⟨_, rfl, ?_⟩; have n0_ := Aside0.mk (below_step (by repeat (first | (with_reducible first | exact HB.out | apply below_alloc | apply pw_below_drewN | apply below_drew1) | exact HB.out)) hb); clear HB; have HB := n0_; clear n0_; (try clear hb); (try clear hb2); (try clear hk); (try clear hi)))
      go_ret
      exact ⟨by first | rfl | (simp [errW_none, errW_some] <;> rfl) | (simp [*, errW_none, errW_some] <;> rfl), by repeat (first | (with_reducible first | exact HB.out | apply below_alloc | apply pw_below_drewN | apply below_drew1) | exact HB.out)⟩
    · rw [if_neg c6] at H
      exact absurd H (by simp)
  · rw [if_neg c4] at H
    have c4b0 : (a0 == 2) = false := beq_eq_false_iff_ne.mpr c4
    have c4b1 : (a0 != 2) = true := bne_iff_ne.mpr c4
    by_cases c8 : a0 = 4
    · rw [if_pos c8] at H
      have c8b0 : (a0 == 4) = true := beq_iff_eq.mpr c8
      have c8b1 : (a0 != 4) = false := bne_eq_false_iff_eq.mpr c8
      clear c8
      replace H := Option.bind_eq_some_iff.mp H
      obtain ⟨t120, A90, H⟩ := H
      replace H : (if 2 + t120.size ≤ 9223372036854775807 then (some ((⟨#[64, 112]⟩ : ByteArray) ++ t120)) else (none)) = some r := H
      have A9 := Aside0.mk A90
      clear A90
      by_cases c10 : 2 + t120.size ≤ 9223372036854775807
      · rw [if_pos c10] at H
        have c10b0 := eq_true c10
        have c10b1 : decide (2 + t120.size ≤ 9223372036854775807) = true := decide_eq_true c10
        try have c10b2 : (9223372036854775807 < 2 + t120.size) = False := eq_false (Nat.not_lt.2 c10)
        obtain rfl := Option.some.inj H
        go_enter Tryd.func32, Tryd.ntmps32
        go_wp2_with (first | ((with_reducible refine gate_callee (f := 50) rfl ?_); refine goesL_ (some 16) rfl rfl Tryd.func50 (by kernel_rfl) rfl #[.int .i64 a1] rfl (by (try simp only [List.map_toArray, List.map_cons, List.map_nil]); first | done | rfl | (simp only [List.length_drop, List.length_take]; rfl)) ?_; (with_reducible refine (spec_decimal.calls k a1 t120 _ A9.out).mono ?_); rintro e w11 ⟨rfl, hb⟩; refine ⟨_, rfl, ?_⟩; have n0_ := Aside0.mk (below_step (by repeat (first | (with_reducible first | exact HB.out | apply below_alloc | apply pw_below_drewN | apply below_drew1) | exact HB.out)) hb); clear HB; have HB := n0_; clear n0_; (try clear hb); (try clear hb2); (try clear hk); (try clear hi)))
        go_ret
        exact ⟨by first | rfl | (simp [errW_none, errW_some] <;> rfl) | (simp [*, errW_none, errW_some] <;> rfl), by repeat (first | (with_reducible first | exact HB.out | apply below_alloc | apply pw_below_drewN | apply below_drew1) | exact HB.out)⟩
      · rw [if_neg c10] at H
        exact absurd H (by simp)
    · rw [if_neg c8] at H
      have c8b0 : (a0 == 4) = false := beq_eq_false_iff_ne.mpr c8
      have c8b1 : (a0 != 4) = true := bne_iff_ne.mpr c8
      by_cases c12 : a0 = 3
      · rw [if_pos c12] at H
        have c12b0 : (a0 == 3) = true := beq_iff_eq.mpr c12
        have c12b1 : (a0 != 3) = false := bne_eq_false_iff_eq.mpr c12
        clear c12
        by_cases c13 : 1 + a2.size ≤ 9223372036854775807
        · rw [if_pos c13] at H
          have c13b0 := eq_true c13
          have c13b1 : decide (1 + a2.size ≤ 9223372036854775807) = true := decide_eq_true c13
          try have c13b2 : (9223372036854775807 < 1 + a2.size) = False := eq_false (Nat.not_lt.2 c13)
          obtain rfl := Option.some.inj H
          go_enter Tryd.func32, Tryd.ntmps32
          go_wp2
          go_ret
          exact ⟨by first | rfl | (simp [errW_none, errW_some] <;> rfl) | (simp [*, errW_none, errW_some] <;> rfl), by repeat (first | (with_reducible first | exact HB.out | apply below_alloc | apply pw_below_drewN | apply below_drew1) | exact HB.out)⟩
        · rw [if_neg c13] at H
          exact absurd H (by simp)
      · rw [if_neg c12] at H
        have c12b0 : (a0 == 3) = false := beq_eq_false_iff_ne.mpr c12
        have c12b1 : (a0 != 3) = true := bne_iff_ne.mpr c12
        obtain rfl := Option.some.inj H
        go_enter Tryd.func32, Tryd.ntmps32
        go_wp2
        go_ret
        exact ⟨by first | rfl | (simp [errW_none, errW_some] <;> rfl) | (simp [*, errW_none, errW_some] <;> rfl), by repeat (first | (with_reducible first | exact HB.out | apply below_alloc | apply pw_below_drewN | apply below_drew1) | exact HB.out)⟩

end Go.Proofs.YtnmhoghmhglimaaDoor.QN
-- WRITTEN BY A PROGRAM OF THIS SESSION (wip/print2.py): the print, with contracts of this session's own let in. Not trusted: Lean checks it.
namespace Go.Proofs.YtnmhoghmhglimaaDoor.QN
open Go.RowKit Go.Proofs.YtnmhoghmhglimaaDoorW.PrintWords Go.Proofs.YtnmhoghmhglimaaDoorW.PrintLast Go.Proofs.YtnmhoghmhglimaaDoorW.PrintMore
attribute [local go_sem] max2_int min2_int max_two min_two max_three min_three max_four min_four   -- for this text's walks alone
set_option linter.unusedVariables false
set_option linter.unusedSimpArgs false

/-! ### spec_isNameByte: function 53 -/
def spec_isNameByte.f (a0 : Int) : Option (Bool) := if a0 ≥ 97 then (if a0 ≤ 122 then (some true) else (if a0 ≥ 65 then (if a0 ≤ 90 then (some true) else (if a0 ≥ 48 then (if a0 ≤ 57 then (some true) else (if a0 = 95 then (some true) else (some (a0 == 46)))) else (if a0 = 95 then (some true) else (some (a0 == 46))))) else (if a0 ≥ 48 then (if a0 ≤ 57 then (some true) else (if a0 = 95 then (some true) else (some (a0 == 46)))) else (if a0 = 95 then (some true) else (some (a0 == 46)))))) else (if a0 ≥ 65 then (if a0 ≤ 90 then (some true) else (if a0 ≥ 48 then (if a0 ≤ 57 then (some true) else (if a0 = 95 then (some true) else (some (a0 == 46)))) else (if a0 = 95 then (some true) else (some (a0 == 46))))) else (if a0 ≥ 48 then (if a0 ≤ 57 then (some true) else (if a0 = 95 then (some true) else (some (a0 == 46)))) else (if a0 = 95 then (some true) else (some (a0 == 46)))))
set_option maxHeartbeats 8000000 in
set_option maxRecDepth 100000 in
theorem spec_isNameByte.calls (a0 : Int) (r : Bool) (w : World) (h : spec_isNameByte.f a0 = some r) :
    Calls Tryd.prog 53 #[.int .u8 a0] w fun e w' => e = .returned (.bool r) ∧ Drawn0 w w' := by
  have H : (if a0 ≥ 97 then (if a0 ≤ 122 then (some true) else (if a0 ≥ 65 then (if a0 ≤ 90 then (some true) else (if a0 ≥ 48 then (if a0 ≤ 57 then (some true) else (if a0 = 95 then (some true) else (some (a0 == 46)))) else (if a0 = 95 then (some true) else (some (a0 == 46))))) else (if a0 ≥ 48 then (if a0 ≤ 57 then (some true) else (if a0 = 95 then (some true) else (some (a0 == 46)))) else (if a0 = 95 then (some true) else (some (a0 == 46)))))) else (if a0 ≥ 65 then (if a0 ≤ 90 then (some true) else (if a0 ≥ 48 then (if a0 ≤ 57 then (some true) else (if a0 = 95 then (some true) else (some (a0 == 46)))) else (if a0 = 95 then (some true) else (some (a0 == 46))))) else (if a0 ≥ 48 then (if a0 ≤ 57 then (some true) else (if a0 = 95 then (some true) else (some (a0 == 46)))) else (if a0 = 95 then (some true) else (some (a0 == 46)))))) = some r := h
  clear h
  by_cases c2 : a0 ≥ 97
  · rw [if_pos c2] at H
    have c2b0 : decide (97 ≤ a0) = true := decide_eq_true c2
    clear c2
    by_cases c3 : a0 ≤ 122
    · rw [if_pos c3] at H
      have c3b0 : decide (a0 ≤ 122) = true := decide_eq_true c3
      clear c3
      obtain rfl := Option.some.inj H
      go_enter Tryd.func53, Tryd.ntmps53
      go_wp2
      go_ret
      exact ⟨by first | rfl | (simp; done) | (simp [*]; done), by repeat (first | exact Drawn0.refl _ | apply Drawn0.step)⟩
    · rw [if_neg c3] at H
      have c3b0 : decide (a0 ≤ 122) = false := decide_eq_false c3
      clear c3
      by_cases c4 : a0 ≥ 65
      · rw [if_pos c4] at H
        have c4b0 : decide (65 ≤ a0) = true := decide_eq_true c4
        clear c4
        by_cases c5 : a0 ≤ 90
        · rw [if_pos c5] at H
          have c5b0 : decide (a0 ≤ 90) = true := decide_eq_true c5
          clear c5
          obtain rfl := Option.some.inj H
          go_enter Tryd.func53, Tryd.ntmps53
          go_wp2
          go_ret
          exact ⟨by first | rfl | (simp; done) | (simp [*]; done), by repeat (first | exact Drawn0.refl _ | apply Drawn0.step)⟩
        · rw [if_neg c5] at H
          have c5b0 : decide (a0 ≤ 90) = false := decide_eq_false c5
          clear c5
          by_cases c6 : a0 ≥ 48
          · rw [if_pos c6] at H
            have c6b0 : decide (48 ≤ a0) = true := decide_eq_true c6
            clear c6
            by_cases c7 : a0 ≤ 57
            · rw [if_pos c7] at H
              have c7b0 : decide (a0 ≤ 57) = true := decide_eq_true c7
              clear c7
              obtain rfl := Option.some.inj H
              go_enter Tryd.func53, Tryd.ntmps53
              go_wp2
              go_ret
              exact ⟨by first | rfl | (simp; done) | (simp [*]; done), by repeat (first | exact Drawn0.refl _ | apply Drawn0.step)⟩
            · rw [if_neg c7] at H
              have c7b0 : decide (a0 ≤ 57) = false := decide_eq_false c7
              clear c7
              by_cases c8 : a0 = 95
              · rw [if_pos c8] at H
                have c8b0 : (a0 == 95) = true := beq_iff_eq.mpr c8
                have c8b1 : (a0 != 95) = false := bne_eq_false_iff_eq.mpr c8
                clear c8
                obtain rfl := Option.some.inj H
                go_enter Tryd.func53, Tryd.ntmps53
                go_wp2
                go_ret
                exact ⟨by first | rfl | (simp; done) | (simp [*]; done), by repeat (first | exact Drawn0.refl _ | apply Drawn0.step)⟩
              · rw [if_neg c8] at H
                have c8b0 : (a0 == 95) = false := beq_eq_false_iff_ne.mpr c8
                have c8b1 : (a0 != 95) = true := bne_iff_ne.mpr c8
                obtain rfl := Option.some.inj H
                go_enter Tryd.func53, Tryd.ntmps53
                go_wp2
                go_ret
                exact ⟨by first | rfl | (simp; done) | (simp [*]; done), by repeat (first | exact Drawn0.refl _ | apply Drawn0.step)⟩
          · rw [if_neg c6] at H
            have c6b0 : decide (48 ≤ a0) = false := decide_eq_false c6
            clear c6
            by_cases c9 : a0 = 95
            · rw [if_pos c9] at H
              have c9b0 : (a0 == 95) = true := beq_iff_eq.mpr c9
              have c9b1 : (a0 != 95) = false := bne_eq_false_iff_eq.mpr c9
              clear c9
              obtain rfl := Option.some.inj H
              go_enter Tryd.func53, Tryd.ntmps53
              go_wp2
              go_ret
              exact ⟨by first | rfl | (simp; done) | (simp [*]; done), by repeat (first | exact Drawn0.refl _ | apply Drawn0.step)⟩
            · rw [if_neg c9] at H
              have c9b0 : (a0 == 95) = false := beq_eq_false_iff_ne.mpr c9
              have c9b1 : (a0 != 95) = true := bne_iff_ne.mpr c9
              obtain rfl := Option.some.inj H
              go_enter Tryd.func53, Tryd.ntmps53
              go_wp2
              go_ret
              exact ⟨by first | rfl | (simp; done) | (simp [*]; done), by repeat (first | exact Drawn0.refl _ | apply Drawn0.step)⟩
      · rw [if_neg c4] at H
        have c4b0 : decide (65 ≤ a0) = false := decide_eq_false c4
        clear c4
        by_cases c10 : a0 ≥ 48
        · rw [if_pos c10] at H
          have c10b0 : decide (48 ≤ a0) = true := decide_eq_true c10
          clear c10
          by_cases c11 : a0 ≤ 57
          · rw [if_pos c11] at H
            have c11b0 : decide (a0 ≤ 57) = true := decide_eq_true c11
            clear c11
            obtain rfl := Option.some.inj H
            go_enter Tryd.func53, Tryd.ntmps53
            go_wp2
            go_ret
            exact ⟨by first | rfl | (simp; done) | (simp [*]; done), by repeat (first | exact Drawn0.refl _ | apply Drawn0.step)⟩
          · rw [if_neg c11] at H
            have c11b0 : decide (a0 ≤ 57) = false := decide_eq_false c11
            clear c11
            by_cases c12 : a0 = 95
            · rw [if_pos c12] at H
              have c12b0 : (a0 == 95) = true := beq_iff_eq.mpr c12
              have c12b1 : (a0 != 95) = false := bne_eq_false_iff_eq.mpr c12
              clear c12
              obtain rfl := Option.some.inj H
              go_enter Tryd.func53, Tryd.ntmps53
              go_wp2
              go_ret
              exact ⟨by first | rfl | (simp; done) | (simp [*]; done), by repeat (first | exact Drawn0.refl _ | apply Drawn0.step)⟩
            · rw [if_neg c12] at H
              have c12b0 : (a0 == 95) = false := beq_eq_false_iff_ne.mpr c12
              have c12b1 : (a0 != 95) = true := bne_iff_ne.mpr c12
              obtain rfl := Option.some.inj H
              go_enter Tryd.func53, Tryd.ntmps53
              go_wp2
              go_ret
              exact ⟨by first | rfl | (simp; done) | (simp [*]; done), by repeat (first | exact Drawn0.refl _ | apply Drawn0.step)⟩
        · rw [if_neg c10] at H
          have c10b0 : decide (48 ≤ a0) = false := decide_eq_false c10
          clear c10
          by_cases c13 : a0 = 95
          · rw [if_pos c13] at H
            have c13b0 : (a0 == 95) = true := beq_iff_eq.mpr c13
            have c13b1 : (a0 != 95) = false := bne_eq_false_iff_eq.mpr c13
            clear c13
            obtain rfl := Option.some.inj H
            go_enter Tryd.func53, Tryd.ntmps53
            go_wp2
            go_ret
            exact ⟨by first | rfl | (simp; done) | (simp [*]; done), by repeat (first | exact Drawn0.refl _ | apply Drawn0.step)⟩
          · rw [if_neg c13] at H
            have c13b0 : (a0 == 95) = false := beq_eq_false_iff_ne.mpr c13
            have c13b1 : (a0 != 95) = true := bne_iff_ne.mpr c13
            obtain rfl := Option.some.inj H
            go_enter Tryd.func53, Tryd.ntmps53
            go_wp2
            go_ret
            exact ⟨by first | rfl | (simp; done) | (simp [*]; done), by repeat (first | exact Drawn0.refl _ | apply Drawn0.step)⟩
  · rw [if_neg c2] at H
    have c2b0 : decide (97 ≤ a0) = false := decide_eq_false c2
    clear c2
    by_cases c14 : a0 ≥ 65
    · rw [if_pos c14] at H
      have c14b0 : decide (65 ≤ a0) = true := decide_eq_true c14
      clear c14
      by_cases c15 : a0 ≤ 90
      · rw [if_pos c15] at H
        have c15b0 : decide (a0 ≤ 90) = true := decide_eq_true c15
        clear c15
        obtain rfl := Option.some.inj H
        go_enter Tryd.func53, Tryd.ntmps53
        go_wp2
        go_ret
        exact ⟨by first | rfl | (simp; done) | (simp [*]; done), by repeat (first | exact Drawn0.refl _ | apply Drawn0.step)⟩
      · rw [if_neg c15] at H
        have c15b0 : decide (a0 ≤ 90) = false := decide_eq_false c15
        clear c15
        by_cases c16 : a0 ≥ 48
        · rw [if_pos c16] at H
          have c16b0 : decide (48 ≤ a0) = true := decide_eq_true c16
          clear c16
          by_cases c17 : a0 ≤ 57
          · rw [if_pos c17] at H
            have c17b0 : decide (a0 ≤ 57) = true := decide_eq_true c17
            clear c17
            obtain rfl := Option.some.inj H
            go_enter Tryd.func53, Tryd.ntmps53
            go_wp2
            go_ret
            exact ⟨by first | rfl | (simp; done) | (simp [*]; done), by repeat (first | exact Drawn0.refl _ | apply Drawn0.step)⟩
          · rw [if_neg c17] at H
            have c17b0 : decide (a0 ≤ 57) = false := decide_eq_false c17
            clear c17
            by_cases c18 : a0 = 95
            · rw [if_pos c18] at H
              have c18b0 : (a0 == 95) = true := beq_iff_eq.mpr c18
              have c18b1 : (a0 != 95) = false := bne_eq_false_iff_eq.mpr c18
              clear c18
              obtain rfl := Option.some.inj H
              go_enter Tryd.func53, Tryd.ntmps53
              go_wp2
              go_ret
              exact ⟨by first | rfl | (simp; done) | (simp [*]; done), by repeat (first | exact Drawn0.refl _ | apply Drawn0.step)⟩
            · rw [if_neg c18] at H
              have c18b0 : (a0 == 95) = false := beq_eq_false_iff_ne.mpr c18
              have c18b1 : (a0 != 95) = true := bne_iff_ne.mpr c18
              obtain rfl := Option.some.inj H
              go_enter Tryd.func53, Tryd.ntmps53
              go_wp2
              go_ret
              exact ⟨by first | rfl | (simp; done) | (simp [*]; done), by repeat (first | exact Drawn0.refl _ | apply Drawn0.step)⟩
        · rw [if_neg c16] at H
          have c16b0 : decide (48 ≤ a0) = false := decide_eq_false c16
          clear c16
          by_cases c19 : a0 = 95
          · rw [if_pos c19] at H
            have c19b0 : (a0 == 95) = true := beq_iff_eq.mpr c19
            have c19b1 : (a0 != 95) = false := bne_eq_false_iff_eq.mpr c19
            clear c19
            obtain rfl := Option.some.inj H
            go_enter Tryd.func53, Tryd.ntmps53
            go_wp2
            go_ret
            exact ⟨by first | rfl | (simp; done) | (simp [*]; done), by repeat (first | exact Drawn0.refl _ | apply Drawn0.step)⟩
          · rw [if_neg c19] at H
            have c19b0 : (a0 == 95) = false := beq_eq_false_iff_ne.mpr c19
            have c19b1 : (a0 != 95) = true := bne_iff_ne.mpr c19
            obtain rfl := Option.some.inj H
            go_enter Tryd.func53, Tryd.ntmps53
            go_wp2
            go_ret
            exact ⟨by first | rfl | (simp; done) | (simp [*]; done), by repeat (first | exact Drawn0.refl _ | apply Drawn0.step)⟩
    · rw [if_neg c14] at H
      have c14b0 : decide (65 ≤ a0) = false := decide_eq_false c14
      clear c14
      by_cases c20 : a0 ≥ 48
      · rw [if_pos c20] at H
        have c20b0 : decide (48 ≤ a0) = true := decide_eq_true c20
        clear c20
        by_cases c21 : a0 ≤ 57
        · rw [if_pos c21] at H
          have c21b0 : decide (a0 ≤ 57) = true := decide_eq_true c21
          clear c21
          obtain rfl := Option.some.inj H
          go_enter Tryd.func53, Tryd.ntmps53
          go_wp2
          go_ret
          exact ⟨by first | rfl | (simp; done) | (simp [*]; done), by repeat (first | exact Drawn0.refl _ | apply Drawn0.step)⟩
        · rw [if_neg c21] at H
          have c21b0 : decide (a0 ≤ 57) = false := decide_eq_false c21
          clear c21
          by_cases c22 : a0 = 95
          · rw [if_pos c22] at H
            have c22b0 : (a0 == 95) = true := beq_iff_eq.mpr c22
            have c22b1 : (a0 != 95) = false := bne_eq_false_iff_eq.mpr c22
            clear c22
            obtain rfl := Option.some.inj H
            go_enter Tryd.func53, Tryd.ntmps53
            go_wp2
            go_ret
            exact ⟨by first | rfl | (simp; done) | (simp [*]; done), by repeat (first | exact Drawn0.refl _ | apply Drawn0.step)⟩
          · rw [if_neg c22] at H
            have c22b0 : (a0 == 95) = false := beq_eq_false_iff_ne.mpr c22
            have c22b1 : (a0 != 95) = true := bne_iff_ne.mpr c22
            obtain rfl := Option.some.inj H
            go_enter Tryd.func53, Tryd.ntmps53
            go_wp2
            go_ret
            exact ⟨by first | rfl | (simp; done) | (simp [*]; done), by repeat (first | exact Drawn0.refl _ | apply Drawn0.step)⟩
      · rw [if_neg c20] at H
        have c20b0 : decide (48 ≤ a0) = false := decide_eq_false c20
        clear c20
        by_cases c23 : a0 = 95
        · rw [if_pos c23] at H
          have c23b0 : (a0 == 95) = true := beq_iff_eq.mpr c23
          have c23b1 : (a0 != 95) = false := bne_eq_false_iff_eq.mpr c23
          clear c23
          obtain rfl := Option.some.inj H
          go_enter Tryd.func53, Tryd.ntmps53
          go_wp2
          go_ret
          exact ⟨by first | rfl | (simp; done) | (simp [*]; done), by repeat (first | exact Drawn0.refl _ | apply Drawn0.step)⟩
        · rw [if_neg c23] at H
          have c23b0 : (a0 == 95) = false := beq_eq_false_iff_ne.mpr c23
          have c23b1 : (a0 != 95) = true := bne_iff_ne.mpr c23
          obtain rfl := Option.some.inj H
          go_enter Tryd.func53, Tryd.ntmps53
          go_wp2
          go_ret
          exact ⟨by first | rfl | (simp; done) | (simp [*]; done), by repeat (first | exact Drawn0.refl _ | apply Drawn0.step)⟩

end Go.Proofs.YtnmhoghmhglimaaDoor.QN
-- WRITTEN BY A PROGRAM OF THIS SESSION (wip/print2.py): the print, with contracts of this session's own let in. Not trusted: Lean checks it.
namespace Go.Proofs.YtnmhoghmhglimaaDoor.QN
open Go.RowKit Go.Proofs.YtnmhoghmhglimaaDoorW.PrintWords Go.Proofs.YtnmhoghmhglimaaDoorW.PrintLast Go.Proofs.YtnmhoghmhglimaaDoorW.PrintMore
attribute [local go_sem] max2_int min2_int max_two min_two max_three min_three max_four min_four   -- for this text's walks alone
set_option linter.unusedVariables false
set_option linter.unusedSimpArgs false

/-! ### spec_ValuesOf: function 55 -/
mutual
def spec_ValuesOf.l0 : Nat → List ByteArray → List (S54) → List (S52) → Int → Option ((List (S52)) × Bool)
  | 0, _, _, _, _ => none
  | k + 1, x0, x1, x6, x7 => if x7 < (x0.length : Int) then (spec_ValuesOf.l1 k x0 x1 x6 x7 false 0) else (some (x6, true))
def spec_ValuesOf.l1 : Nat → List ByteArray → List (S54) → List (S52) → Int → Bool → Int → Option ((List (S52)) × Bool)
  | 0, _, _, _, _, _, _ => none
  | k + 1, x0, x1, x6, x7, x8, x9 => if x9 < (x1.length : Int) then (spec_ValuesOf.j2 k x0 x1 x6 x7 x8 x9 (!x8)) else (spec_ValuesOf.j2 k x0 x1 x6 x7 x8 x9 false)
def spec_ValuesOf.j2 : Nat → List ByteArray → List (S54) → List (S52) → Int → Bool → Int → Bool → Option ((List (S52)) × Bool)
  | 0, _, _, _, _, _, _, _ => none
  | k + 1, x0, x1, x6, x7, x8, x9, x23 => if x23 = true then (if 0 ≤ x9 then (if x9 < (x1.length : Int) then (if 0 ≤ x7 then (if x7 < (x0.length : Int) then (if ((rd_T54 x1 x9).f0).toList = (rdOf ByteArray.empty x0 x7).toList then (if x6.length < 2513169434916 then (spec_ValuesOf.l1 k x0 x1 (x6 ++ [(⟨(rd_T54 x1 x9).f1.f0, (rd_T54 x1 x9).f1.f1, (rd_T54 x1 x9).f1.f2, (rd_T54 x1 x9).f1.f3⟩ : S52)]) x7 true (wrap64 (x9 + 1))) else (none)) else (spec_ValuesOf.l1 k x0 x1 x6 x7 x8 (wrap64 (x9 + 1)))) else (none)) else (none)) else (none)) else (none)) else (if x8 = true then (spec_ValuesOf.l0 k x0 x1 x6 (wrap64 (x7 + 1))) else (some (([] : List (S52)), false)))
end
def spec_ValuesOf.f (k : Nat) (l0 : List ByteArray) (l1 : List (S54)) : Option ((List (S52)) × Bool) := spec_ValuesOf.l0 k l0 l1 ([] : List (S52)) 0
end Go.Proofs.YtnmhoghmhglimaaDoor.QN
