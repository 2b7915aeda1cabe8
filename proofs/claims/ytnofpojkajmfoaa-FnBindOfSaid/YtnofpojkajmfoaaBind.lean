/-
  PROVED: 'laws.FnBindOf': for every driver's name the placeholders that the package tells are those of the reference's table. No condition.
-/
import Derived.Test.YtnofpojkajmfoaaRows
import Derived.Test.YtnofpojkajmfoaaPFnBindOfx1
import Derived.WalkKit
import Derived.ProofKit
import Derived.OpenShut
import Derived.ShutString
import Derived.ChangeOld
import Derived.Below
import Derived.SizedLaws
import Derived.Handy
namespace Go.Proofs.Ytnofpojkajmfoaa.fnBindOf
open Go.ChangeShapes Go.WideShapes Go.ChangeAt Go.RowKit Go.Proofs.YtnofpojkajmfoaaW.PrintWords
open Go.ChangeMaps (open_string shut_string)
open Go.Proofs.Ytnofpojkajmfoaa.PFnBindOf
set_option linter.unusedVariables false
set_option linter.unusedSimpArgs false
theorem ret_int {k : IntKind} {a b : Int} (h : a = b) : Ending.returned (.int k a) = .returned (.int k b) := by rw [h]
def specL (l : List UInt8) : Int :=
  if ([109, 121, 115, 113, 108] == l) = true then 1 else if ([115, 113, 108, 105, 116, 101, 51] == l) = true then 1 else if ([110, 114, 109, 121, 115, 113, 108] == l) = true then 1 else if ([110, 114, 115, 113, 108, 105, 116, 101, 51] == l) = true then 1 else if ([112, 111, 115, 116, 103, 114, 101, 115] == l) = true then 2 else if ([112, 103, 120] == l) = true then 2 else if ([112, 113, 45, 116, 105, 109, 101, 111, 117, 116, 115] == l) = true then 2 else if ([99, 108, 111, 117, 100, 115, 113, 108, 112, 111, 115, 116, 103, 114, 101, 115] == l) = true then 2 else if ([113, 108] == l) = true then 2 else if ([110, 114, 112, 111, 115, 116, 103, 114, 101, 115] == l) = true then 2 else if ([99, 111, 99, 107, 114, 111, 97, 99, 104] == l) = true then 2 else if ([111, 99, 105, 56] == l) = true then 3 else if ([111, 114, 97] == l) = true then 3 else if ([103, 111, 114, 97, 99, 108, 101] == l) = true then 3 else if ([103, 111, 100, 114, 111, 114] == l) = true then 3 else if ([115, 113, 108, 115, 101, 114, 118, 101, 114] == l) = true then 4 else 0

theorem drawn_below {B : Nat} {w w1 : World} {n : Nat} (h : Below B w w1) : Below B w (w1.drewN n) := ⟨h.os, h.tape, h.output, h.size, h.block⟩
def Ans (a0 : ByteArray) (w : World) (e : Ending) (w' : World) : Prop := e = .returned (.int .i64 (specL a0.toList)) ∧ Below w.heap.size w w'
set_option maxHeartbeats 6400000 in
set_option maxRecDepth 100000 in
theorem spec_any (a0 : ByteArray) (w : World) : Calls Try.prog 12 #[.string a0] w (Ans a0 w) := by
  go_enter Try.func12, Try.ntmps12
  go_wp2
  refine wp_loop_rounds 6 ?_
  repeat any_goals (first | (rw [rounds_succ]; go_wp2) | (go_ret; done) | (refine wp_loop_rounds 8 ?_; rw [rounds_succ]; go_wp2))
  all_goals go_ret
  all_goals exact ⟨ret_int (by simp only [specL, *, if_true]; first | done | rfl | (simp; done)), by go_grown⟩
theorem impl_any (a0 : ByteArray) : impl_BindOf.f 4 a0 = some (specL a0.toList) := by
  by_cases h0 : a0.toList = [109, 121, 115, 113, 108]
  · simp [impl_BindOf.f, sqlx_BindType.f, sqlx_BindType.j0, sqlx_BindType.j1, sqlx_BindType.j2, specL, h0]
  by_cases h1 : a0.toList = [115, 113, 108, 105, 116, 101, 51]
  · simp [impl_BindOf.f, sqlx_BindType.f, sqlx_BindType.j0, sqlx_BindType.j1, sqlx_BindType.j2, specL, h1]
  by_cases h2 : a0.toList = [110, 114, 109, 121, 115, 113, 108]
  · simp [impl_BindOf.f, sqlx_BindType.f, sqlx_BindType.j0, sqlx_BindType.j1, sqlx_BindType.j2, specL, h2]
  by_cases h3 : a0.toList = [110, 114, 115, 113, 108, 105, 116, 101, 51]
  · simp [impl_BindOf.f, sqlx_BindType.f, sqlx_BindType.j0, sqlx_BindType.j1, sqlx_BindType.j2, specL, h3]
  by_cases h4 : a0.toList = [112, 111, 115, 116, 103, 114, 101, 115]
  · simp [impl_BindOf.f, sqlx_BindType.f, sqlx_BindType.j0, sqlx_BindType.j1, sqlx_BindType.j2, specL, h4]
  by_cases h5 : a0.toList = [112, 103, 120]
  · simp [impl_BindOf.f, sqlx_BindType.f, sqlx_BindType.j0, sqlx_BindType.j1, sqlx_BindType.j2, specL, h5]
  by_cases h6 : a0.toList = [112, 113, 45, 116, 105, 109, 101, 111, 117, 116, 115]
  · simp [impl_BindOf.f, sqlx_BindType.f, sqlx_BindType.j0, sqlx_BindType.j1, sqlx_BindType.j2, specL, h6]
  by_cases h7 : a0.toList = [99, 108, 111, 117, 100, 115, 113, 108, 112, 111, 115, 116, 103, 114, 101, 115]
  · simp [impl_BindOf.f, sqlx_BindType.f, sqlx_BindType.j0, sqlx_BindType.j1, sqlx_BindType.j2, specL, h7]
  by_cases h8 : a0.toList = [113, 108]
  · simp [impl_BindOf.f, sqlx_BindType.f, sqlx_BindType.j0, sqlx_BindType.j1, sqlx_BindType.j2, specL, h8]
  by_cases h9 : a0.toList = [110, 114, 112, 111, 115, 116, 103, 114, 101, 115]
  · simp [impl_BindOf.f, sqlx_BindType.f, sqlx_BindType.j0, sqlx_BindType.j1, sqlx_BindType.j2, specL, h9]
  by_cases h10 : a0.toList = [99, 111, 99, 107, 114, 111, 97, 99, 104]
  · simp [impl_BindOf.f, sqlx_BindType.f, sqlx_BindType.j0, sqlx_BindType.j1, sqlx_BindType.j2, specL, h10]
  by_cases h11 : a0.toList = [111, 99, 105, 56]
  · simp [impl_BindOf.f, sqlx_BindType.f, sqlx_BindType.j0, sqlx_BindType.j1, sqlx_BindType.j2, specL, h11]
  by_cases h12 : a0.toList = [111, 114, 97]
  · simp [impl_BindOf.f, sqlx_BindType.f, sqlx_BindType.j0, sqlx_BindType.j1, sqlx_BindType.j2, specL, h12]
  by_cases h13 : a0.toList = [103, 111, 114, 97, 99, 108, 101]
  · simp [impl_BindOf.f, sqlx_BindType.f, sqlx_BindType.j0, sqlx_BindType.j1, sqlx_BindType.j2, specL, h13]
  by_cases h14 : a0.toList = [103, 111, 100, 114, 111, 114]
  · simp [impl_BindOf.f, sqlx_BindType.f, sqlx_BindType.j0, sqlx_BindType.j1, sqlx_BindType.j2, specL, h14]
  by_cases h15 : a0.toList = [115, 113, 108, 115, 101, 114, 118, 101, 114]
  · simp [impl_BindOf.f, sqlx_BindType.f, sqlx_BindType.j0, sqlx_BindType.j1, sqlx_BindType.j2, specL, h15]
  have e : ∀ c : List UInt8, a0.toList ≠ c → (c == a0.toList) = false := fun c hc => by rw [beq_eq_false_iff_ne]; exact fun hh => hc hh.symm
  simp [impl_BindOf.f, sqlx_BindType.f, sqlx_BindType.j0, sqlx_BindType.j1, sqlx_BindType.j2, specL, h0, h1, h2, h3, h4, h5, h6, h7, h8, h9, h10, h11, h12, h13, h14, h15, e _ h0, e _ h1, e _ h2, e _ h3, e _ h4, e _ h5, e _ h6, e _ h7, e _ h8, e _ h9, e _ h10, e _ h11, e _ h12, e _ h13, e _ h14, e _ h15]
theorem mysql_one : impl_BindOf.f 4 ⟨#[109, 121, 115, 113, 108]⟩ = some 1 := by
  have h : (⟨#[109, 121, 115, 113, 108]⟩ : ByteArray).toList = [109, 121, 115, 113, 108] := by decide +kernel
  rw [impl_any, h]
  simp [specL]

theorem walk (a0 : ByteArray) (w0 : a0.size ≤ 140737488351232) (w : World) :
    Calls Try.prog 3 #[.string a0] w fun e w' => e = .returned (.bool true) ∧ Below w.heap.size w w' := by
  by_cases h1 : 2147483647 < (a0.size : Int)
  · go_enter Try.func3, Try.ntmps3
    go_wp2
    go_ret
    exact ⟨rfl, by go_grown⟩
  · have d1 : decide (2147483647 < (a0.size : Int)) = false := decide_eq_false h1
    by_cases h2 : 100 < (a0.size : Int)
    · go_enter Try.func3, Try.ntmps3
      go_wp2
      go_ret
      exact ⟨rfl, by go_grown⟩
    · have d2 : decide (100 < (a0.size : Int)) = false := decide_eq_false h2
      go_enter Try.func3, Try.ntmps3
      go_wp2_with fail
      refine (impl_BindOf.calls 4 a0 _ _ (impl_any a0)).mono ?_
      rintro e w1 ⟨rfl, ⟨n1, rfl⟩⟩
      go_wp2_with fail
      refine (spec_any a0 _).mono ?_
      rintro e w2 ⟨rfl, hb2⟩
      go_wp2_with fail
      refine (impl_BindOf.calls 4 ⟨#[109, 121, 115, 113, 108]⟩ 1 _ mysql_one).mono ?_
      rintro e w3 ⟨rfl, ⟨n3, rfl⟩⟩
      go_wp2_with fail
      go_ret
      exact ⟨rfl, drawn_below (Below.trans (drawn_below (Below.refl _ _)) hb2)⟩
theorem own : ownKnob Try.prog.godebug = none := by kernel_rfl
theorem laidOut : laidOutB Try.prog = true := by kernel_rfl
set_option maxRecDepth 100000 in
theorem lifted (os : Os) (started : os.Started) (H : Type) (enc : TypeId × Value → H) :
    ReturnsInHanded {} Try.checked os 3 .any (Rows.fnBindOfSpec.pre6 enc Try.prog Try.f3 Rows.fnBindOfRow.domain false) (Rows.fnBindOfSpec.post enc Try.prog Try.f3 false true false false) := by
  refine returnsInHanded_of_change_sized (C := Try.checked) own started (by kernel_rfl) Try.func3
    (ChangeSpec.witness6 (enc := enc) (C := Try.checked) false ⟨#[], #[.string ByteArray.empty], []⟩ 8 (by kernel_rfl) (by kernel_rfl) (by kernel_rfl) (by kernel_rfl)) ?_
  intro W base args ds gs before hval0 hW hcnd hsz0 _
  have hsz : (DataW.weightsEach Try.prog (Try.f3.params.toList ++ Rows.fnBindOfSpec.plain.varTypes Try.prog) (ds ++ gs)).all (· ≤ reachBytes) = true := hsz0
  have hval : ∀ (j : Nat) t v, Try.f3.params[j]? = some t → args[j]? = some v → Value.okWide Try.prog W .any base t v := hval0
  have hW' := hW
  obtain ⟨p, q, hA0, hV, rfl, hfz, hnd⟩ := hW
  have hA : DataW.TrodAll enc Try.prog W 0 (fun _ => true) true Try.f3.params.toList args.toList ds p := hA0
  rw [Try.params3] at hA hval hsz
  obtain ⟨v0, vs0, d0, ds0, p0, q0, hargs, rfl, rfl, h0, r0⟩ := trodAll_cons hA
  obtain ⟨rfl, rfl, rfl⟩ := trodAll_nil r0
  obtain rfl : args = #[v0] := by cases args; simp_all
  obtain ⟨rfl, rfl⟩ := trodVars_none hV
  obtain ⟨a0, rfl, rfl, rfl, y0⟩ := open_string Try.underlying9 (hval 0 9 v0 rfl rfl) h0
  have w0 : a0.size ≤ 140737488351232 := by
    have z := sized_string hsz (j := 0) (t := 9) rfl rfl
    rw [Array.length_toList] at z
    exact z
  clear hA0 hval0 hsz0 hsz
  refine (walk a0 w0 W).mono fun e W' ⟨he, bel⟩ => ?_
  subst he
  exact ⟨_, rfl, _, _, _, [], _, [], hW', trodAll_mk1 (shut_bool Try.underlying4 _), (trodAll_cons_mk (shut_string Try.underlying9 y0) trodAll_mk0), rfl, bel.frame _, fun h => by cases h⟩
theorem over : Rows.fnBindOfRow.holds Try.pinned (OpenSpec.ofChange Rows.fnBindOfSpec) :=
  OpenClaim.holds_of_wide 3 Try.f3 rfl rfl rfl rfl rfl rfl rfl ⟨rfl, rfl, rfl, rfl, rfl⟩ rfl rfl rfl rfl rfl (by kernel_rfl) Try.func3 (by kernel_rfl)
    (of_decide_eq_true (by kernel_rfl)) (by unfold Func.isWrapper; first | (rw [if_pos (by decide +kernel)]; kernel_rfl) | (rw [if_neg (by decide +kernel)]; exact ⟨rfl, rfl⟩))
    (fun os started H enc _ => lifted os started H enc)
theorem proved : Rows.FnBindOfSaid := over


end Go.Proofs.Ytnofpojkajmfoaa.fnBindOf
namespace Go.Proofs.Ytnofpojkajmfoaa
theorem fnBindOf_holds : Rows.FnBindOfSaid := fnBindOf.proved
#print axioms fnBindOf_holds
end Go.Proofs.Ytnofpojkajmfoaa
