/-
  A CONTRACT: impl.NotEqOf of one name and one right value (a name of at most 2^20 bytes, a list of at most 2^20).
-/
import Derived.Test.YtmiggjncmeomlaaHEqI
namespace Go.Proofs.Ytmiggjncmeomlaa.H
open Go.RowKit Go.Proofs.YtmiggjncmeomlaaW.PrintWords Go.Proofs.YtmiggjncmeomlaaW.PrintLast Go.Proofs.YtmiggjncmeomlaaW.PrintMore Go.Proofs.Ytmiggjncmeomlaa.QS
set_option linter.unusedVariables false
set_option linter.unusedSimpArgs false

section
variable {ok : Nat → Prop}
set_option maxHeartbeats 1600000 in
set_option maxRecDepth 100000 in
theorem noteq_sql (s : ByteArray) (v : S24) (hv : rightR v) (hl : v.f3.length ≤ 1048576) (hs : s.size ≤ 1048576) (w : World) (b : Nat) (hM : MapIs ok w b [⟨s, v⟩]) :
    Calls Try.prog 16 #[.map (some b)] w fun e w' => SqlPost (eqTxt true s v) (eqVals v) e w' ∧ Below w.heap.size w w' := by
  have HQ := Lib.hid (sql_walk true s v hv hl hs w b hM)
  clear hv hM
  go_enter Try.func16, Try.ntmps16
  go_wp2_with fail
  refine HQ.out.mono ?_
  rintro e w1 ⟨⟨A, c, rfl, hl1, hC⟩, hb⟩
  have HC := Lib.hid hC
  have HB := Lib.hid hb
  clear hC hb HQ
  go_wp2_with fail
  go_ret3
  exact ⟨⟨A, c, rfl, hl1, HC.out⟩, HB.out⟩
end
def impl_NotEqOf.f (l0 : List ByteArray) (l1 : List S24) : Option (ByteArray × List S24 × Bool) := eqF true l0 l1
set_option maxHeartbeats 1600000 in
set_option maxRecDepth 100000 in
theorem impl_NotEqOf.calls (A0 : Option Addr) (c0 : Nat) (l0 : List ByteArray) (A1 : Option Addr) (c1 : Nat) (l1 : List S24) (r1 : ByteArray) (r2 : List S24) (r3 : Bool) (w : World) (hr0 : Kd.C Kd.string w A0 l0.length l0) (hc0 : l0.length ≤ c0) (hr1 : Kd.C k24 w A1 l1.length l1) (hc1 : l1.length ≤ c1) (h : impl_NotEqOf.f l0 l1 = some (r1, r2, r3)) :
    Calls Try.prog 9 #[.slice A0 l0.length c0, .slice A1 l1.length c1] w fun e w' => ∃ v1_ : Value, e = .returned (.tuple #[.string r1, v1_, .bool r3]) ∧ Kd.R k24 24 w' w.heap.size (fun _ => True) v1_ r2 ∧ Below w.heap.size w w' := by
  obtain ⟨s, v, rfl, rfl, hs, hv, hl, hr⟩ := eqF_some h
  simp only [Prod.mk.injEq] at hr
  obtain ⟨rfl, rfl, rfl⟩ := hr
  have HT := Lib.hid (table_one s v hv hl (by simp only [maxLen]; omega) A0 A1 c0 c1 w hr0 hr1)
  have HV := Lib.hid hv
  clear hr0 hr1 hc0 hc1 h hv
  go_enter Try.func9, Try.ntmps9
  go_wp2_with fail
  refine HT.out.mono ?_
  rintro e w1 ⟨b, rfl, hM, hB⟩
  have HM := Lib.hid hM
  have HB1 := Lib.hid hB
  clear hM hB HT
  go_wp2_with fail
  refine (noteq_sql s v HV.out hl hs w1 b HM.out).mono ?_
  rintro e w2 ⟨⟨A, c, rfl, hl1, hC⟩, hb⟩
  have HC := Lib.hid hC
  have HB2 := Lib.hid (HB1.out.trans (hb.mono HB1.out.size))
  have HG := Lib.hid (eqVals_good HV.out hl)
  clear hC hb
  go_wp2_with fail
  refine (answer_ok _ _ HG.out.2 HG.out.1 A c w2 HC.out).mono ?_
  rintro e w3 ⟨v3, rfl, hR, hb⟩
  have HR := Lib.hid (Kd.R_lower hR HB2.out.size)
  have HB3 := Lib.hid (HB2.out.trans (hb.mono HB2.out.size))
  clear hR hb
  go_wp2_with fail
  go_ret3
  exact ⟨_, rfl, HR.out, HB3.out⟩
end Go.Proofs.Ytmiggjncmeomlaa.H
