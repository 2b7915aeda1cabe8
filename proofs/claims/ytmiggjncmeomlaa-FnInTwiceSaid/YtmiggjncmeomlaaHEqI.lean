/-
  CONTRACTS: impl.EqOf and impl.NotEqOf of one name and one right value (a name of at most 2^20 bytes, a list of at most 2^20).
-/
import Derived.Test.YtmiggjncmeomlaaHEq
namespace Go.Proofs.Ytmiggjncmeomlaa.H
open Go.RowKit Go.Proofs.YtmiggjncmeomlaaW.PrintWords Go.Proofs.YtmiggjncmeomlaaW.PrintLast Go.Proofs.YtmiggjncmeomlaaW.PrintMore Go.Proofs.Ytmiggjncmeomlaa.QS
set_option linter.unusedVariables false
set_option linter.unusedSimpArgs false

def eqF (neg : Bool) (l0 : List ByteArray) (l1 : List S24) : Option (ByteArray × List S24 × Bool) := match l0, l1 with
  | [s], [v] => if s.size ≤ 1048576 ∧ rightB v = true ∧ v.f3.length ≤ 1048576 then some (eqTxt neg s v, eqVals v, true) else none
  | _, _ => none
theorem eqF_some {neg : Bool} {l0 : List ByteArray} {l1 : List S24} {r : ByteArray × List S24 × Bool} (h : eqF neg l0 l1 = some r) : ∃ s v, l0 = [s] ∧ l1 = [v] ∧ s.size ≤ 1048576 ∧ rightR v ∧ v.f3.length ≤ 1048576 ∧ r = (eqTxt neg s v, eqVals v, true) := by
  unfold eqF at h
  split at h
  · rename_i s v
    split at h
    · rename_i hh
      exact ⟨s, v, rfl, rfl, hh.1, (rightB_iff v).1 hh.2.1, hh.2.2, (Option.some.inj h).symm⟩
    · cases h
  · cases h
theorem eqVals_good {v : S24} (hv : rightR v) (hl : v.f3.length ≤ 1048576) : (eqVals v).length ≤ 1048576 ∧ ∀ x ∈ eqVals v, rightR x ∧ x.f3.length ≤ 1048576 := by
  unfold eqVals
  split
  · exact ⟨by simp, fun x hx => by cases hx⟩
  · split
    · rename_i h5
      refine ⟨hl, fun x hx => ?_⟩
      rcases hv with ha | ⟨_, _, _, ha⟩
      · exact absurd h5 (by have := ha.2.1; omega)
      · exact ⟨.inl (ha x hx), by rw [(ha x hx).2.2.1]; simp⟩
    · exact ⟨by simp, fun x hx => by rw [List.mem_singleton.1 hx]; exact ⟨hv, hl⟩⟩
def EqPost (t : ByteArray) (vs : List S24) (w : World) (e : Ending) (w' : World) : Prop := ∃ v1_ : Value, e = .returned (.tuple #[.string t, v1_, .bool true]) ∧ Kd.R k24 24 w' w.heap.size (fun _ => True) v1_ vs ∧ Below w.heap.size w w'
set_option maxHeartbeats 1600000 in
set_option maxRecDepth 100000 in
/-- impl's answer of a text and arguments, no error. -/
theorem answer_ok (t : ByteArray) (vs : List S24) (h : ∀ x ∈ vs, rightR x ∧ x.f3.length ≤ 1048576) (hl : vs.length ≤ 1048576) (A : Option Addr) (c : Nat) (w : World) (hC : kG.C w A vs.length vs) :
    Calls Try.prog 14 #[.string t, .slice A vs.length c, .nilIface] w (EqPost t vs w) := by
  have HV := Lib.hid (valuesOf_right vs h hl A c w hC)
  clear h hC
  go_enter Try.func14, Try.ntmps14
  go_wp2_with fail
  refine HV.out.mono ?_
  rintro e w3 ⟨v, rfl, hR, hb⟩
  have HR := Lib.hid hR
  have HB := Lib.hid hb
  clear hR hb HV
  go_wp2_with fail
  go_ret3
  exact ⟨_, rfl, HR.out, HB.out⟩
section
variable {ok : Nat → Prop}
set_option maxHeartbeats 1600000 in
set_option maxRecDepth 100000 in
theorem eq_sql (s : ByteArray) (v : S24) (hv : rightR v) (hl : v.f3.length ≤ 1048576) (hs : s.size ≤ 1048576) (w : World) (b : Nat) (hM : MapIs ok w b [⟨s, v⟩]) :
    Calls Try.prog 15 #[.map (some b)] w fun e w' => SqlPost (eqTxt false s v) (eqVals v) e w' ∧ Below w.heap.size w w' := by
  have HQ := Lib.hid (sql_walk false s v hv hl hs w b hM)
  clear hv hM
  go_enter Try.func15, Try.ntmps15
  go_wp2_with fail
  refine HQ.out.mono ?_
  rintro e w1 ⟨⟨A, c, rfl, hl1, hC⟩, hb⟩
  have HC := Lib.hid hC
  have HB := Lib.hid hb
  clear hC hb HQ
  go_wp2_with fail
  go_ret3
  exact ⟨⟨A, c, rfl, hl1, HC.out⟩, HB.out⟩
end
def impl_EqOf.f (l0 : List ByteArray) (l1 : List S24) : Option (ByteArray × List S24 × Bool) := eqF false l0 l1
set_option maxHeartbeats 1600000 in
set_option maxRecDepth 100000 in
theorem impl_EqOf.calls (A0 : Option Addr) (c0 : Nat) (l0 : List ByteArray) (A1 : Option Addr) (c1 : Nat) (l1 : List S24) (r1 : ByteArray) (r2 : List S24) (r3 : Bool) (w : World) (hr0 : Kd.C Kd.string w A0 l0.length l0) (hc0 : l0.length ≤ c0) (hr1 : Kd.C k24 w A1 l1.length l1) (hc1 : l1.length ≤ c1) (h : impl_EqOf.f l0 l1 = some (r1, r2, r3)) :
    Calls Try.prog 8 #[.slice A0 l0.length c0, .slice A1 l1.length c1] w fun e w' => ∃ v1_ : Value, e = .returned (.tuple #[.string r1, v1_, .bool r3]) ∧ Kd.R k24 24 w' w.heap.size (fun _ => True) v1_ r2 ∧ Below w.heap.size w w' := by
  obtain ⟨s, v, rfl, rfl, hs, hv, hl, hr⟩ := eqF_some h
  simp only [Prod.mk.injEq] at hr
  obtain ⟨rfl, rfl, rfl⟩ := hr
  have HT := Lib.hid (table_one s v hv hl (by simp only [maxLen]; omega) A0 A1 c0 c1 w hr0 hr1)
  have HV := Lib.hid hv
  clear hr0 hr1 hc0 hc1 h hv
  go_enter Try.func8, Try.ntmps8
  go_wp2_with fail
  refine HT.out.mono ?_
  rintro e w1 ⟨b, rfl, hM, hB⟩
  have HM := Lib.hid hM
  have HB1 := Lib.hid hB
  clear hM hB HT
  go_wp2_with fail
  refine (eq_sql s v HV.out hl hs w1 b HM.out).mono ?_
  rintro e w2 ⟨⟨A, c, rfl, hl1, hC⟩, hb⟩
  have HC := Lib.hid hC
  have HB2 := Lib.hid (HB1.out.trans (hb.mono HB1.out.size))
  have HG := Lib.hid (eqVals_good HV.out hl)
  clear hC hb
  go_wp2_with fail
  refine (answer_ok _ _ HG.out.2 HG.out.1 A c w2 HC.out).mono ?_
  rintro e w3 ⟨v3, rfl, hR, hb⟩
  have HR := Lib.hid (Kd.R_lower hR HB2.out.size)
  have HB3 := Lib.hid (HB2.out.trans (hb.mono HB2.out.size))
  clear hR hb
  go_wp2_with fail
  go_ret3
  exact ⟨_, rfl, HR.out, HB3.out⟩
end Go.Proofs.Ytmiggjncmeomlaa.H
