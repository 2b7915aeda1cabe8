/-
  A CONTRACT: impl.Expanded: a text whose lists' marks are as many as these have elements, and the values in order; not ok if it is refused (texts of at most 2^16 bytes, at most 1024 right values, lists of at most 1024).
-/
import Derived.Test.YtmiggjncmeomlaaHIn
import Derived.Test.YtmiggjncmeomlaaHRight
namespace Go.Proofs.Ytmiggjncmeomlaa.H
open Go.RowKit Go.Proofs.YtmiggjncmeomlaaW.PrintWords Go.Proofs.YtmiggjncmeomlaaW.PrintLast Go.Proofs.YtmiggjncmeomlaaW.PrintMore Go.Proofs.Ytmiggjncmeomlaa.QS
set_option linter.unusedVariables false
set_option linter.unusedSimpArgs false

theorem expL_good : ∀ (t : List UInt8) (l : List S24) (out : List UInt8) (acc : List S24) (r : List UInt8 × List S24), expL t l out acc = some r →
    r.2.length = acc.length + cntL l ∧ ∀ y ∈ r.2, y ∈ acc ∨ (∃ x ∈ l, y = x ∧ x.f0 ≠ 5) ∨ ∃ x ∈ l, x.f0 = 5 ∧ y ∈ x.f3
  | [], l, out, acc, r, h => by
    have h' : (if l = [] then some (out, acc) else none) = some r := h
    by_cases hl : l = []
    · rw [if_pos hl] at h'
      injection h' with h'
      subst h' hl
      exact ⟨by simp [cntL], fun y hy => .inl hy⟩
    · rw [if_neg hl] at h'
      cases h'
  | c :: t, l, out, acc, r, h => by
    by_cases hc : c = 63
    · subst hc
      cases l with
      | nil =>
        rw [expL_none] at h
        cases h
      | cons x xs =>
        by_cases h5 : x.f0 = 5
        · rw [expL_list _ _ _ _ _ h5] at h
          obtain ⟨h1, h2⟩ := expL_good t xs _ _ r h
          refine ⟨by rw [h1, List.length_append, cntL, if_pos h5, Nat.add_assoc], fun y hy => ?_⟩
          rcases h2 y hy with h3 | ⟨z, hz, h3⟩ | ⟨z, hz, h3⟩
          · rcases List.mem_append.1 h3 with h4 | h4
            · exact .inl h4
            · exact .inr (.inr ⟨x, List.mem_cons_self, h5, h4⟩)
          · exact .inr (.inl ⟨z, List.mem_cons_of_mem _ hz, h3⟩)
          · exact .inr (.inr ⟨z, List.mem_cons_of_mem _ hz, h3⟩)
        · rw [expL_val _ _ _ _ _ h5] at h
          obtain ⟨h1, h2⟩ := expL_good t xs _ _ r h
          refine ⟨by rw [h1, List.length_append, List.length_singleton, cntL, if_neg h5, Nat.add_assoc], fun y hy => ?_⟩
          rcases h2 y hy with h3 | ⟨z, hz, h3⟩ | ⟨z, hz, h3⟩
          · rcases List.mem_append.1 h3 with h4 | h4
            · exact .inl h4
            · exact .inr (.inl ⟨x, List.mem_cons_self, List.mem_singleton.1 h4, h5⟩)
          · exact .inr (.inl ⟨z, List.mem_cons_of_mem _ hz, h3⟩)
          · exact .inr (.inr ⟨z, List.mem_cons_of_mem _ hz, h3⟩)
    · rw [expL_other hc] at h
      exact expL_good t l _ _ r h
theorem cntL_leM (m : Nat) (hm : 1 ≤ m) : ∀ (l : List S24), (∀ x ∈ l, x.f3.length ≤ m) → cntL l ≤ l.length * m
  | [], _ => by simp [cntL]
  | x :: xs, h => by
    have h1 := cntL_leM m hm xs (fun y hy => h y (List.mem_cons_of_mem _ hy))
    have h2 := h x List.mem_cons_self
    rw [cntL, List.length_cons, Nat.succ_mul]
    split <;> omega
theorem inF_good {s : ByteArray} {l : List S24} (hr : ∀ x ∈ l, rightR x ∧ x.f3.length ≤ 1024) (hl : l.length ≤ 1024) {r : ByteArray × List S24} (h : inF s l = some r) : r.2.length ≤ 1048576 ∧ ∀ y ∈ r.2, rightR y ∧ y.f3.length ≤ 1048576 := by
  unfold inF at h
  split at h
  · cases h
  · split at h
    · injection h with h
      subst h
      exact ⟨by show l.length ≤ _; omega, fun y hy => ⟨(hr y hy).1, by have := (hr y hy).2; omega⟩⟩
    · obtain ⟨q, h1, h2⟩ := Option.map_eq_some_iff.1 h
      subst h2
      obtain ⟨h3, h4⟩ := expL_good _ _ _ _ _ h1
      have h5 := cntL_leM 1024 (by omega) l (fun x hx => (hr x hx).2)
      have h6 := Nat.mul_le_mul hl (Nat.le_refl 1024)
      refine ⟨?_, fun y hy => ?_⟩
      · show q.2.length ≤ _
        rw [h3, List.length_nil]
        omega
      · rcases h4 y hy with h7 | ⟨x, hx, rfl, _⟩ | ⟨x, hx, h5', hyx⟩
        · cases h7
        · exact ⟨(hr _ hx).1, by have := (hr _ hx).2; omega⟩
        · rcases (hr x hx).1 with ha | ⟨_, _, _, ha⟩
          · exact absurd h5' (by have := ha.2.1; omega)
          · exact ⟨.inl (ha y hyx), by rw [(ha y hyx).2.2.1]; simp⟩
def impl_Expanded.f (a0 : ByteArray) (l1 : List S24) : Option (ByteArray × List S24 × Bool) := if a0.size ≤ 65536 ∧ l1.length ≤ 1024 ∧ l1.all (fun x => rightB x && decide (x.f3.length ≤ 1024)) = true then some (match inF a0 l1 with
  | some r => (r.1, r.2, true)
  | none => (⟨#[]⟩, [], false)) else none
set_option maxHeartbeats 3200000 in
set_option maxRecDepth 100000 in
theorem impl_Expanded.calls (a0 : ByteArray) (A1 : Option Addr) (c1 : Nat) (l1 : List S24) (r1 : ByteArray) (r2 : List S24) (r3 : Bool) (w : World) (hr1 : Kd.C k24 w A1 l1.length l1) (hc1 : l1.length ≤ c1) (h : impl_Expanded.f a0 l1 = some (r1, r2, r3)) :
    Calls Try.prog 11 #[.string a0, .slice A1 l1.length c1] w fun e w' => ∃ v1_ : Value, e = .returned (.tuple #[.string r1, v1_, .bool r3]) ∧ Kd.R k24 24 w' w.heap.size (fun _ => True) v1_ r2 ∧ Below w.heap.size w w' := by
  unfold impl_Expanded.f at h
  by_cases hg : a0.size ≤ 65536 ∧ l1.length ≤ 1024 ∧ l1.all (fun x => rightB x && decide (x.f3.length ≤ 1024)) = true
  · rw [if_pos hg] at h
    obtain ⟨hs, hl, hall⟩ := hg
    have hrr : ∀ x ∈ l1, rightR x ∧ x.f3.length ≤ 1024 := fun x hx => by
      have h1 := List.all_eq_true.1 hall x hx
      rw [Bool.and_eq_true] at h1
      exact ⟨(rightB_iff x).1 h1.1, of_decide_eq_true h1.2⟩
    have H := Lib.hid (Option.some.inj h)
    have HRR := Lib.hid hrr
    have HS := Lib.hid hs
    have HL := Lib.hid hl
    have HGL := Lib.hid (goList_of kG rfl kG_if l1 0 (fun x hx => fun A c w' hC hc => right_gives x (hrr x hx).1 (by have := (hrr x hx).2; omega) A c w' hC hc) (by omega) A1 c1 w hr1)
    clear h hr1 hall hrr hs hl
    go_enter Try.func11, Try.ntmps11
    go_wp2_with fail
    refine HGL.out.mono ?_
    rintro e w1 ⟨v, rfl, hR, hB⟩
    obtain ⟨A2, c2, e2, hl2, hC2⟩ := Kd.R_reads hR
    subst e2
    have HC2 := Lib.hid hC2
    have HB1 := Lib.hid hB
    clear hR hB hC2 HGL
    go_wp2_with fail
    refine (in_walk a0 HS.out l1 (by have := HL.out; omega) (fun x hx => ⟨(HRR.out x hx).1, by have := (HRR.out x hx).2; omega⟩) w1 A2 c2 hl2 HC2.out).mono ?_
    rintro e w2 ⟨b2, p2⟩
    have HB2 := Lib.hid (HB1.out.trans (b2.mono HB1.out.size))
    have HGOOD := Lib.hid (fun r hr => inF_good (r := r) (s := a0) HRR.out HL.out hr)
    have h := H.out
    clear b2 H
    generalize inF a0 l1 = F at p2 HGOOD h
    cases F with
    | none =>
      simp only [Prod.mk.injEq] at h
      obtain ⟨rfl, rfl, rfl⟩ := h
      obtain ⟨s2, v, t, x, rfl⟩ := p2
      go_wp2_with fail
      go_ret3
      exact ⟨_, rfl, Kd.R_nil _ _ _ _ _, HB2.out⟩
    | some r =>
      obtain ⟨out, vs⟩ := r
      simp only [Prod.mk.injEq] at h
      obtain ⟨rfl, rfl, rfl⟩ := h
      obtain ⟨A3, c3, rfl, hl3, hr3⟩ := p2
      have HG := Lib.hid (HGOOD.out _ rfl)
      have HR3 := Lib.hid hr3
      clear hl3 hr3 HGOOD
      go_wp2_with fail
      refine (valuesOf_right _ HG.out.2 HG.out.1 A3 c3 _ HR3.out).mono ?_
      rintro e w3 ⟨v, rfl, hR, hb⟩
      have HR4 := Lib.hid (Kd.R_lower hR HB2.out.size)
      have HB3 := Lib.hid (HB2.out.trans (hb.mono HB2.out.size))
      clear hR hb
      go_wp2_with fail
      go_ret3
      exact ⟨_, rfl, HR4.out, HB3.out⟩
  · rw [if_neg hg] at h
    cases h
end Go.Proofs.Ytmiggjncmeomlaa.H
