-- WRITTEN BY A PROGRAM OF THIS SESSION (wip/print2.py): the print, with contracts of this session's own let in. Not trusted: Lean checks it.
import Derived.Test.YtlclbfhnllknkaaProg
import Derived.Below
import Derived.Deep.Draws
import Derived.Deep.AppendLies
import Derived.Maps.AppendAt
import Derived.OwnWalk
import Derived.Laws.BytesArg
import Derived.Laws.MakeOwn
import Derived.Laws.OwnMore
import Derived.Deep.OwnRows
import Derived.Tactics
import Derived.Lib.ConvBytes
import Derived.Laws.Slices
import Derived.WalkKit
import Derived.KernelRfl
import Derived.RowKit3
import Derived.Deep.LoopGhost
import Derived.Deep.QuietTactic
import Derived.BigQuiet
import Derived.WideLaws
import Derived.Deep.DeepCutAuto
import Derived.Deep.CutBlock
import Derived.Deep.RegionHeld3
import Derived.Laws.Rows
import Derived.Lib.AppendStr
import Derived.ArgAppend
import Derived.Laws.IdiomCopy
import Derived.OrdersHeld
import Derived.Laws.BitsLemmas
import Derived.RowKit
import Derived.Test.YtlclbfhnllknkaaWWords
import Derived.Test.YtlclbfhnllknkaaWLast
import Derived.Test.YtlclbfhnllknkaaWTab
import Derived.Test.YtlclbfhnllknkaaWFour
import Derived.Test.YtlclbfhnllknkaaWQPut
import Derived.Test.YtlclbfhnllknkaaWApart
import Derived.Test.YtlclbfhnllknkaaWArr
import Derived.Test.YtlclbfhnllknkaaWZeros
import Derived.Test.YtlclbfhnllknkaaWFoot
import Derived.Test.YtlclbfhnllknkaaWKept
import Derived.Test.YtlclbfhnllknkaaWShare
import Derived.Test.YtlclbfhnllknkaaWN
import Derived.Test.YtlclbfhnllknkaaWFootNe
import Derived.Test.YtlclbfhnllknkaaWAt
import Derived.Test.YtlclbfhnllknkaaWEqStruct
import Derived.Test.YtlclbfhnllknkaaWRepsOne
import Derived.Test.YtlclbfhnllknkaaWInv
import Derived.Test.YtlclbfhnllknkaaWInvWords
import Derived.Test.YtlclbfhnllknkaaWGuard
import Derived.Test.YtlclbfhnllknkaaWNEv
import Derived.Test.YtlclbfhnllknkaaWMore
namespace Go.Proofs.Ytlclbfhnllknkaa.QE
open Go.RowKit Go.Proofs.YtlclbfhnllknkaaW.PrintWords Go.Proofs.YtlclbfhnllknkaaW.PrintLast Go.Proofs.YtlclbfhnllknkaaW.PrintMore
attribute [local go_sem] max2_int min2_int max_two min_two max_three min_three max_four min_four   -- for this text's walks alone
set_option linter.unusedVariables false
set_option linter.unusedSimpArgs false



def errW : Option Int → Value
  | none => .nilIface
  | some c => .iface 0 (.int .i64 c)
theorem errW_none : errW none = .nilIface := rfl
theorem errW_some (c : Int) : errW (some c) = .iface 0 (.int .i64 c) := rfl

theorem info37 : (Try.prog.info? 37).map (fun i => (i.zero, i.size, i.bytes)) = some (some (.agg #[(.int .i64 0), (.int .i64 0), (.string ⟨#[]⟩), (.slice none 0 0)]), 4, 56) := by kernel_rfl
-- the values' own types
/-! #### struct type 37, nested in itself -/
structure S37 where
  f0 : Int
  f1 : Int
  f2 : ByteArray
  f3 : (List S37)
def z37 : S37 := ⟨(0 : Int), (0 : Int), (⟨#[]⟩ : ByteArray), ([] : List S37)⟩
def F37 (d : Kd S37) : Kd S37 := Kd.iso (Kd.pair (Kd.int .i64) (Kd.pair (Kd.int .i64) (Kd.pair Kd.string (Kd.slice 37 d)))) (fun x : S37 => (x.f0, x.f1, x.f2, x.f3))
theorem mono37 : Kd.Mono F37 := Kd.mono_iso _ (Kd.mono_pair (Kd.mono_const _) (Kd.mono_pair (Kd.mono_const _) (Kd.mono_pair (Kd.mono_const _) (Kd.mono_slice 37 Kd.mono_id))))
theorem sub37 : Kd.Sub F37 [37] := Kd.sub_iso _ (Kd.sub_pair (Kd.sub_const _ (by decide)) (Kd.sub_pair (Kd.sub_const _ (by decide)) (Kd.sub_pair (Kd.sub_const _ (by decide)) (Kd.sub_slice 37 (by decide) Kd.sub_id))))
theorem sz37 : ∀ n, (Kd.upto F37 4 [37] n).sz = 4 := Kd.upto_sz (fun _ => rfl)
def k37 : Kd S37 := Kd.fix F37 4 [37] sz37 (Kd.upto_E sub37)
theorem k37_heap : Kd.Heap k37 := Kd.heap_fix (fun _ h_ => Kd.heap_iso _ (Kd.heap_pair (Kd.heap_int .i64) (Kd.heap_pair (Kd.heap_int .i64) (Kd.heap_pair Kd.heap_string (Kd.heap_slice 37 h_)))))
theorem k37_open {w : World} {x : S37} {cs : List Value} (h : k37.K w x cs) : ∃ A3 c3, cs = [.int .i64 x.f0, .int .i64 x.f1, .string x.f2, .slice A3 x.f3.length c3] ∧ x.f3.length ≤ c3 ∧ k37.C w A3 x.f3.length x.f3 := by
  obtain ⟨n, h⟩ := h
  cases n with
  | zero => exact h.elim
  | succ n =>
    obtain ⟨_, _, rfl, rfl, ⟨_, _, rfl, rfl, ⟨_, _, rfl, rfl, ⟨A3, c3, rfl, l3, g3⟩⟩⟩⟩ := h
    exact ⟨A3, c3, rfl, l3, Kd.fix_C g3⟩
theorem k37_openM {w : World} {base : Nat} {ok : Nat → Prop} {x : S37} {cs : List Value} (h : k37.M w base ok x cs) : ∃ v3, cs = [.int .i64 x.f0, .int .i64 x.f1, .string x.f2, v3] ∧ k37.R 37 w base ok v3 x.f3 := by
  obtain ⟨n, h⟩ := h
  cases n with
  | zero => exact h.elim
  | succ n =>
    obtain ⟨_, _, rfl, rfl, ⟨_, _, rfl, rfl, ⟨_, _, rfl, rfl, ⟨v3, rfl, g3⟩⟩⟩⟩ := h
    exact ⟨v3, rfl, Kd.fix_R g3⟩
theorem k37_mk (w : World) (x : S37) {A3 : Option Addr} {c3 : Nat} (l3 : x.f3.length ≤ c3) (g3 : k37.C w A3 x.f3.length x.f3) : k37.K w x [.int .i64 x.f0, .int .i64 x.f1, .string x.f2, .slice A3 x.f3.length c3] := by
  obtain ⟨n3, q3⟩ := Kd.fix_C_back mono37 g3
  have r3 := Kd.upto_C_le mono37 sz37 (show n3 ≤ n3 by omega) q3
  exact ⟨n3 + 1, ⟨[.int .i64 x.f0], [.int .i64 x.f1, .string x.f2, .slice A3 x.f3.length c3], rfl, rfl, ⟨[.int .i64 x.f1], [.string x.f2, .slice A3 x.f3.length c3], rfl, rfl, ⟨[.string x.f2], [.slice A3 x.f3.length c3], rfl, rfl, ⟨A3, c3, rfl, l3, r3⟩⟩⟩⟩⟩
theorem k37_mkM (w : World) (base : Nat) (ok : Nat → Prop) (x : S37) {v3 : Value} (g3 : k37.R 37 w base ok v3 x.f3) : k37.M w base ok x [.int .i64 x.f0, .int .i64 x.f1, .string x.f2, v3] := by
  obtain ⟨n3, q3⟩ := Kd.fix_R_back mono37 g3
  have r3 := Kd.upto_R_le mono37 sz37 (show n3 ≤ n3 by omega) q3
  exact ⟨n3 + 1, ⟨[.int .i64 x.f0], [.int .i64 x.f1, .string x.f2, v3], rfl, rfl, ⟨[.int .i64 x.f1], [.string x.f2, v3], rfl, rfl, ⟨[.string x.f2], [v3], rfl, rfl, ⟨v3, rfl, r3⟩⟩⟩⟩⟩
theorem k37_openF {W : World} {ok : Nat → Prop} {x : S37} {cs : List Value} (h : Kd.FK k37 W ok x cs) : ∃ A3 c3, cs = [.int .i64 x.f0, .int .i64 x.f1, .string x.f2, .slice A3 x.f3.length c3] ∧ x.f3.length ≤ c3 ∧ Kd.F k37 W ok A3 x.f3.length x.f3 := by
  obtain ⟨A3, c3, rfl, l3, _⟩ := k37_open (Kd.FK_now h)
  exact ⟨A3, c3, rfl, l3, (fun W' hW => by obtain ⟨A3_, c3_, he, l3_, g3_⟩ := k37_open (h W' hW); injection (Option.some.inj (show some (Value.slice A3 x.f3.length c3) = some (Value.slice A3_ x.f3.length c3_) from congrArg (fun l => l[3]?) he)) with ha_ _ _; rw [ha_]; exact g3_)⟩
theorem k37_mkF (W : World) (ok : Nat → Prop) (x : S37) {A3 : Option Addr} {c3 : Nat} (l3 : x.f3.length ≤ c3) (g3 : Kd.F k37 W ok A3 x.f3.length x.f3) : Kd.FK k37 W ok x [.int .i64 x.f0, .int .i64 x.f1, .string x.f2, .slice A3 x.f3.length c3] := fun W2 hW => k37_mk W2 x l3 (g3 W2 hW)
def rd_T37 (xs : List S37) (i : Int) : S37 := xs.getD i.toNat z37
theorem at_T37 {w : World} {A : Option Addr} {n : Nat} {xs : List S37} (h : Kd.C k37 w A n xs) (i : Int) (h0 : 0 ≤ i) (h1 : i < n) : ∃ ad A3 c3, A = some ad ∧ w.cell? (ad.add (i.toNat * 4)) = some (.int .i64 (rd_T37 xs i).f0) ∧ w.cell? ⟨(ad.add (i.toNat * 4)).block, (ad.add (i.toNat * 4)).off + 1, none⟩ = some (.int .i64 (rd_T37 xs i).f1) ∧ w.cell? ⟨(ad.add (i.toNat * 4)).block, (ad.add (i.toNat * 4)).off + 2, none⟩ = some (.string (rd_T37 xs i).f2) ∧ w.cell? ⟨(ad.add (i.toNat * 4)).block, (ad.add (i.toNat * 4)).off + 3, none⟩ = some (.slice A3 (rd_T37 xs i).f3.length c3) ∧ (rd_T37 xs i).f3.length ≤ c3 ∧ k37.C w A3 (rd_T37 xs i).f3.length (rd_T37 xs i).f3 := by
  obtain ⟨ad, c, e, _, hK, hc0⟩ := Kd.C_get h z37 i h0 h1
  have hc : ∀ j u, c[j]? = some u → w.cell? (ad.add (i.toNat * 4 + j)) = some u := hc0
  obtain ⟨A3, c3, rfl, l3, g3⟩ := k37_open hK
  exact ⟨ad, A3, c3, e, hc 0 _ rfl, by rw [← add_field _ _ 1 (by omega)]; exact hc 1 _ rfl, by rw [← add_field _ _ 2 (by omega)]; exact hc 2 _ rfl, by rw [← add_field _ _ 3 (by omega)]; exact hc 3 _ rfl, l3, g3⟩

/-! #### struct type 41 -/
structure S41 where
  f0 : ByteArray
  f1 : S37
def z41 : S41 := ⟨(⟨#[]⟩ : ByteArray), z37⟩
def k41 : Kd S41 := Kd.iso (Kd.pair Kd.string k37) (fun x : S41 => (x.f0, x.f1))
theorem k41_heap : Kd.Heap k41 := Kd.heap_iso _ (Kd.heap_pair Kd.heap_string k37_heap)
theorem k41_open {w : World} {x : S41} {cs : List Value} (h : k41.K w x cs) : ∃ A4 c4, cs = [.string x.f0, .int .i64 x.f1.f0, .int .i64 x.f1.f1, .string x.f1.f2, .slice A4 x.f1.f3.length c4] ∧ x.f1.f3.length ≤ c4 ∧ k37.C w A4 x.f1.f3.length x.f1.f3 := by
  obtain ⟨_, _, rfl, rfl, s1⟩ := h
  obtain ⟨A4, c4, rfl, l4, g4⟩ := k37_open s1
  exact ⟨A4, c4, rfl, l4, g4⟩
theorem k41_openM {w : World} {base : Nat} {ok : Nat → Prop} {x : S41} {cs : List Value} (h : k41.M w base ok x cs) : ∃ v4, cs = [.string x.f0, .int .i64 x.f1.f0, .int .i64 x.f1.f1, .string x.f1.f2, v4] ∧ k37.R 37 w base ok v4 x.f1.f3 := by
  obtain ⟨_, _, rfl, rfl, s1⟩ := h
  obtain ⟨v4, rfl, g4⟩ := k37_openM s1
  exact ⟨v4, rfl, g4⟩
theorem k41_mk (w : World) (x : S41) {A4 : Option Addr} {c4 : Nat} (l4 : x.f1.f3.length ≤ c4) (g4 : k37.C w A4 x.f1.f3.length x.f1.f3) : k41.K w x [.string x.f0, .int .i64 x.f1.f0, .int .i64 x.f1.f1, .string x.f1.f2, .slice A4 x.f1.f3.length c4] := ⟨[.string x.f0], [.int .i64 x.f1.f0, .int .i64 x.f1.f1, .string x.f1.f2, .slice A4 x.f1.f3.length c4], rfl, rfl, (k37_mk w x.f1 l4 g4)⟩
theorem k41_mkM (w : World) (base : Nat) (ok : Nat → Prop) (x : S41) {v4 : Value} (g4 : k37.R 37 w base ok v4 x.f1.f3) : k41.M w base ok x [.string x.f0, .int .i64 x.f1.f0, .int .i64 x.f1.f1, .string x.f1.f2, v4] := ⟨[.string x.f0], [.int .i64 x.f1.f0, .int .i64 x.f1.f1, .string x.f1.f2, v4], rfl, rfl, (k37_mkM w base ok x.f1 g4)⟩
theorem k41_openF {W : World} {ok : Nat → Prop} {x : S41} {cs : List Value} (h : Kd.FK k41 W ok x cs) : ∃ A4 c4, cs = [.string x.f0, .int .i64 x.f1.f0, .int .i64 x.f1.f1, .string x.f1.f2, .slice A4 x.f1.f3.length c4] ∧ x.f1.f3.length ≤ c4 ∧ Kd.F k37 W ok A4 x.f1.f3.length x.f1.f3 := by
  obtain ⟨A4, c4, rfl, l4, _⟩ := k41_open (Kd.FK_now h)
  exact ⟨A4, c4, rfl, l4, (fun W' hW => by obtain ⟨A4_, c4_, he, l4_, g4_⟩ := k41_open (h W' hW); injection (Option.some.inj (show some (Value.slice A4 x.f1.f3.length c4) = some (Value.slice A4_ x.f1.f3.length c4_) from congrArg (fun l => l[4]?) he)) with ha_ _ _; rw [ha_]; exact g4_)⟩
theorem k41_mkF (W : World) (ok : Nat → Prop) (x : S41) {A4 : Option Addr} {c4 : Nat} (l4 : x.f1.f3.length ≤ c4) (g4 : Kd.F k37 W ok A4 x.f1.f3.length x.f1.f3) : Kd.FK k41 W ok x [.string x.f0, .int .i64 x.f1.f0, .int .i64 x.f1.f1, .string x.f1.f2, .slice A4 x.f1.f3.length c4] := fun W2 hW => k41_mk W2 x l4 (g4 W2 hW)
def rd_T41 (xs : List S41) (i : Int) : S41 := xs.getD i.toNat z41
theorem at_T41 {w : World} {A : Option Addr} {n : Nat} {xs : List S41} (h : Kd.C k41 w A n xs) (i : Int) (h0 : 0 ≤ i) (h1 : i < n) : ∃ ad A4 c4, A = some ad ∧ w.cell? (ad.add (i.toNat * 5)) = some (.string (rd_T41 xs i).f0) ∧ w.cell? ⟨(ad.add (i.toNat * 5)).block, (ad.add (i.toNat * 5)).off + 1, none⟩ = some (.int .i64 (rd_T41 xs i).f1.f0) ∧ w.cell? ⟨(ad.add (i.toNat * 5)).block, (ad.add (i.toNat * 5)).off + 2, none⟩ = some (.int .i64 (rd_T41 xs i).f1.f1) ∧ w.cell? ⟨(ad.add (i.toNat * 5)).block, (ad.add (i.toNat * 5)).off + 3, none⟩ = some (.string (rd_T41 xs i).f1.f2) ∧ w.cell? ⟨(ad.add (i.toNat * 5)).block, (ad.add (i.toNat * 5)).off + 4, none⟩ = some (.slice A4 (rd_T41 xs i).f1.f3.length c4) ∧ (rd_T41 xs i).f1.f3.length ≤ c4 ∧ k37.C w A4 (rd_T41 xs i).f1.f3.length (rd_T41 xs i).f1.f3 := by
  obtain ⟨ad, c, e, _, hK, hc0⟩ := Kd.C_get h z41 i h0 h1
  have hc : ∀ j u, c[j]? = some u → w.cell? (ad.add (i.toNat * 5 + j)) = some u := hc0
  obtain ⟨A4, c4, rfl, l4, g4⟩ := k41_open hK
  exact ⟨ad, A4, c4, e, hc 0 _ rfl, by rw [← add_field _ _ 1 (by omega)]; exact hc 1 _ rfl, by rw [← add_field _ _ 2 (by omega)]; exact hc 2 _ rfl, by rw [← add_field _ _ 3 (by omega)]; exact hc 3 _ rfl, by rw [← add_field _ _ 4 (by omega)]; exact hc 4 _ rfl, l4, g4⟩

def rd_L4 (xs : List (List ByteArray)) (i : Int) : (List ByteArray) := xs.getD i.toNat ([] : List ByteArray)
theorem at_L4 {w : World} {A : Option Addr} {n : Nat} {xs : List (List ByteArray)} (h : Kd.C (Kd.slice 9 Kd.string) w A n xs) (i : Int) (h0 : 0 ≤ i) (h1 : i < n) : ∃ ad A0 c0, A = some ad ∧ w.cell? (ad.add i.toNat) = some (.slice A0 (rd_L4 xs i).length c0) ∧ (rd_L4 xs i).length ≤ c0 ∧ Kd.string.C w A0 (rd_L4 xs i).length (rd_L4 xs i) := by
  obtain ⟨ad, c, e, _, hK, hc0⟩ := Kd.C_get h ([] : List ByteArray) i h0 h1
  have hc : ∀ j u, c[j]? = some u → w.cell? (ad.add (i.toNat * 1 + j)) = some u := hc0
  obtain ⟨A0, c0, rfl, l0, g0⟩ := hK
  exact ⟨ad, A0, c0, e, by have hq := hc 0 _ rfl; rwa [Nat.mul_one, Nat.add_zero] at hq, l0, g0⟩

def rd_L5 (xs : List (List S41)) (i : Int) : (List S41) := xs.getD i.toNat ([] : List S41)
theorem at_L5 {w : World} {A : Option Addr} {n : Nat} {xs : List (List S41)} (h : Kd.C (Kd.slice 41 k41) w A n xs) (i : Int) (h0 : 0 ≤ i) (h1 : i < n) : ∃ ad A0 c0, A = some ad ∧ w.cell? (ad.add i.toNat) = some (.slice A0 (rd_L5 xs i).length c0) ∧ (rd_L5 xs i).length ≤ c0 ∧ k41.C w A0 (rd_L5 xs i).length (rd_L5 xs i) := by
  obtain ⟨ad, c, e, _, hK, hc0⟩ := Kd.C_get h ([] : List S41) i h0 h1
  have hc : ∀ j u, c[j]? = some u → w.cell? (ad.add (i.toNat * 1 + j)) = some u := hc0
  obtain ⟨A0, c0, rfl, l0, g0⟩ := hK
  exact ⟨ad, A0, c0, e, by have hq := hc 0 _ rfl; rwa [Nat.mul_one, Nat.add_zero] at hq, l0, g0⟩

def rd_L6 (xs : List (List S37)) (i : Int) : (List S37) := xs.getD i.toNat ([] : List S37)
theorem at_L6 {w : World} {A : Option Addr} {n : Nat} {xs : List (List S37)} (h : Kd.C (Kd.slice 37 k37) w A n xs) (i : Int) (h0 : 0 ≤ i) (h1 : i < n) : ∃ ad A0 c0, A = some ad ∧ w.cell? (ad.add i.toNat) = some (.slice A0 (rd_L6 xs i).length c0) ∧ (rd_L6 xs i).length ≤ c0 ∧ k37.C w A0 (rd_L6 xs i).length (rd_L6 xs i) := by
  obtain ⟨ad, c, e, _, hK, hc0⟩ := Kd.C_get h ([] : List S37) i h0 h1
  have hc : ∀ j u, c[j]? = some u → w.cell? (ad.add (i.toNat * 1 + j)) = some u := hc0
  obtain ⟨A0, c0, rfl, l0, g0⟩ := hK
  exact ⟨ad, A0, c0, e, by have hq := hc 0 _ rfl; rwa [Nat.mul_one, Nat.add_zero] at hq, l0, g0⟩

end Go.Proofs.Ytlclbfhnllknkaa.QE
