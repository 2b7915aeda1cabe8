/-
  A CONTRACT: impl.Bound: the values of names by right arguments with different names; not ok if one has none (at most 2^20 names).
-/
import Derived.Test.YtlclbfhnllknkaaHNamed0
import Derived.Test.YtlclbfhnllknkaaHArgsB
namespace Go.Proofs.Ytlclbfhnllknkaa.H
open Go.RowKit Go.Proofs.YtlclbfhnllknkaaW.PrintWords Go.Proofs.YtlclbfhnllknkaaW.PrintLast Go.Proofs.YtlclbfhnllknkaaW.PrintMore Go.Proofs.Ytlclbfhnllknkaa.QE
set_option linter.unusedVariables false
set_option linter.unusedSimpArgs false

def impl_Bound.f (l0 : List ByteArray) (l1 : List S41) : Option (List S37 × Bool) := if l0.length ≤ 1048576 ∧ l0.all (fun s => decide (s.size ≤ 2147483647)) = true ∧ argsB l1 = true then some (match valsOf l0 l1 with
  | some vs => (vs, true)
  | none => ([], false)) else none
set_option maxHeartbeats 1600000 in
set_option maxRecDepth 100000 in
theorem bindMapArgsX_is (names : List ByteArray) (l : List S41) (ok : Nat → Prop) (w : World) (b : Nat) (hM : MapIs ok w b l) (hn : names.length ≤ 1048576) (hs : ∀ s ∈ names, s.size ≤ maxLen) (A : Option Addr) (c : Nat) (hC : Kd.C Kd.string w A names.length names) :
    Calls Try.prog 19 #[.slice A names.length c, .map (some b)] w fun e w' => Below w.heap.size w w' ∧ BindPost w w.heap.size (valsOf names l) e w' := by
  have hcc := bindMapArgs_is names l ok w w b hM (Below.refl _ _) hn hs A c hC
  revert hcc
  generalize valsOf names l = R
  intro hcc
  have HCC := Lib.hid hcc
  clear hM hn hs hC hcc
  go_enter Try.func19, Try.ntmps19
  go_wp2_with fail
  refine HCC.out.mono ?_
  rintro e w1 ⟨b1, p1⟩
  have HB1 := Lib.hid b1
  clear HCC b1
  cases R with
  | none =>
    obtain ⟨v, t, x, rfl⟩ := p1
    go_wp2_with fail
    go_ret2
    exact ⟨HB1.out, _, _, _, rfl⟩
  | some vs =>
    obtain ⟨v, rfl, hr⟩ := p1
    have HR := Lib.hid hr
    clear hr
    go_wp2_with fail
    go_ret2
    exact ⟨HB1.out, _, rfl, HR.out⟩
set_option maxHeartbeats 3200000 in
set_option maxRecDepth 100000 in
theorem impl_Bound.calls (A0 : Option Addr) (c0 : Nat) (l0 : List ByteArray) (A1 : Option Addr) (c1 : Nat) (l1 : List S41) (r1 : List S37) (r2 : Bool) (w : World) (hr0 : Kd.C Kd.string w A0 l0.length l0) (hc0 : l0.length ≤ c0) (hr1 : Kd.C k41 w A1 l1.length l1) (hc1 : l1.length ≤ c1) (h : impl_Bound.f l0 l1 = some (r1, r2)) :
    Calls Try.prog 10 #[.slice A0 l0.length c0, .slice A1 l1.length c1] w fun e w' => ∃ v0_ : Value, e = .returned (.tuple #[v0_, .bool r2]) ∧ Kd.R k37 37 w' w.heap.size (fun _ => True) v0_ r1 ∧ Below w.heap.size w w' := by
  unfold impl_Bound.f at h
  by_cases hg : l0.length ≤ 1048576 ∧ l0.all (fun s => decide (s.size ≤ 2147483647)) = true ∧ argsB l1 = true
  · rw [if_pos hg] at h
    obtain ⟨hn, hs, hl⟩ := hg
    have H := Lib.hid (Option.some.inj h)
    have HL := Lib.hid ((argsB_iff l1).1 hl)
    have HS : Hid (∀ s ∈ l0, s.size ≤ maxLen) := Lib.hid (fun s hx => by
      have := of_decide_eq_true (List.all_eq_true.1 hs s hx)
      simp only [maxLen]
      omega)
    have HN := Lib.hid hn
    have HC := Lib.hid hr0
    have HMC := Lib.hid (mapOf_right l1 HL.out A1 c1 w hr1)
    clear h hr0 hr1 hl hs
    go_enter Try.func10, Try.ntmps10
    go_wp2_with fail
    refine HMC.out.mono ?_
    rintro e w1 ⟨b, rfl, hM, hb, hB⟩
    have HM := Lib.hid hM
    have HB1 := Lib.hid hB
    clear hM hb hB HMC
    go_wp2_with fail
    refine (bindMapArgsX_is l0 l1 _ w1 b HM.out HN.out HS.out A0 c0 (Kd.C_below HC.out HB1.out)).mono ?_
    rintro e w2 ⟨b2, p2⟩
    have HB12 := Lib.hid b2
    have HB2 := Lib.hid (HB1.out.trans (b2.mono HB1.out.size))
    have HGOOD : Hid (∀ vs, valsOf l0 l1 = some vs → vs.length ≤ 1048576 ∧ ∀ x ∈ vs, rightR x ∧ x.f3.length ≤ 1048576) := Lib.hid (fun vs hv => ⟨by rw [valsOf_len _ _ _ hv]; exact HN.out, fun x hx => by
      obtain ⟨y, hy, rfl⟩ := valsOf_mem _ _ _ hv x hx
      exact ⟨(HL.out.2.1 y hy).1, (HL.out.2.1 y hy).2.1⟩⟩)
    have h := H.out
    clear b2 H
    generalize valsOf l0 l1 = F at p2 HGOOD h
    cases F with
    | none =>
      simp only [Prod.mk.injEq] at h
      obtain ⟨rfl, rfl⟩ := h
      obtain ⟨v, t, x, rfl⟩ := p2
      go_wp2_with fail
      go_ret2
      exact ⟨_, rfl, Kd.R_nil _ _ _ _ _, HB2.out⟩
    | some vs =>
      simp only [Prod.mk.injEq] at h
      obtain ⟨rfl, rfl⟩ := h
      obtain ⟨v, rfl, hr⟩ := p2
      obtain ⟨A3, c3, e3, hl3, hr3⟩ := ARow.got hr HB12.out
      subst e3
      have HG := Lib.hid (HGOOD.out _ rfl)
      have HR3 := Lib.hid hr3
      clear hr hl3 hr3 HGOOD
      go_wp2_with fail
      refine (valuesOf_right _ HG.out.2 HG.out.1 A3 c3 _ HR3.out).mono ?_
      rintro e w3 ⟨v, rfl, hR, hb⟩
      have HR4 := Lib.hid (Kd.R_lower hR HB2.out.size)
      have HB3 := Lib.hid (HB2.out.trans (hb.mono HB2.out.size))
      clear hR hb
      go_wp2_with fail
      go_ret2
      exact ⟨_, rfl, HR4.out, HB3.out⟩
  · rw [if_neg hg] at h
    cases h
end Go.Proofs.Ytlclbfhnllknkaa.H
