/-
  PLAIN: what the laws on compiled statements share: the same texts twice; what impl.Compiled comes to where the reference is sure; kinds.
-/
import Derived.Test.YtnmhoghmhglimaaDoorSComp
import Derived.Test.YtnmhoghmhglimaaDoorHCompI
import Derived.Test.YtnmhoghmhglimaaDoorHRebind
import Derived.Test.YtnmhoghmhglimaaDoorQC5
import Derived.Test.YtnmhoghmhglimaaDoorQC10
namespace Go.Proofs.YtnmhoghmhglimaaDoor.SC
open Go.RowKit Go.Proofs.YtnmhoghmhglimaaDoor.QC Go.Proofs.YtnmhoghmhglimaaDoor.H Go.Proofs.YtnmhoghmhglimaaDoorW.PrintWords Go.Proofs.YtnmhoghmhglimaaDoorW.PrintLast Go.Proofs.YtnmhoghmhglimaaDoorW.PrintMore
set_option linter.unusedVariables false
set_option linter.unusedSimpArgs false

theorem same_ev (l : List ByteArray) (hl : l.length ≤ 1048576) : Ev (fun k => laws_sameTexts9.f k l l) true := by
  have key : ∀ (d i : Nat), l.length - i = d → i ≤ l.length → Ev (fun k => laws_sameTexts9.l0 k l l (i : Int)) true := by
    intro d
    induction d with
    | zero =>
      intro i hd hi
      have c1 : ¬ (i : Int) < (l.length : Int) := by omega
      exact Ev.step (f := fun _ => some true) (fun k => by simp only [laws_sameTexts9.l0]; rw [if_neg c1]) (Ev.now _)
    | succ d ih =>
      intro i hd hi
      have c1 : (i : Int) < (l.length : Int) := by omega
      have c0 : (0 : Int) ≤ (i : Int) := by omega
      have e1 : wrap64 ((i : Int) + 1) = ((i + 1 : Nat) : Int) := w64n i 1 (i + 1) (by omega) (by omega)
      exact Ev.step (fun k => by simp only [laws_sameTexts9.l0]; rw [if_pos c1, if_pos c0, if_pos c1, if_pos trivial, e1]) (ih (i + 1) (by omega) (by omega))
  exact Ev.congr (fun k => by simp only [laws_sameTexts9.f]; rw [if_pos trivial]; rfl) (key l.length 0 (by omega) (by omega))
theorem kind_is (a : Int) (h : (Lit.int .u8 a).wf = true) : ∃ kd, laws_kind9.f a = some kd ∧ 0 ≤ kd ∧ kd ≤ 4 := by
  have hr : 0 ≤ a ∧ a ≤ 255 := by
    simp [Lit.wf, IntKind.min, IntKind.max, IntKind.signed, IntKind.bits] at h
    omega
  refine ⟨_, rfl, ?_⟩
  rw [IntWalk.wrap64_in a (by omega)]
  obtain ⟨n, rfl⟩ := Int.eq_ofNat_of_zero_le hr.1
  have : Int.tmod (n : Int) 5 = ((n % 5 : Nat) : Int) := rfl
  rw [this, IntWalk.wrap64_in _ (by omega)]
  omega
theorem names_len (more : List (Bool × List UInt8)) : (nB more).length ≤ more.length := by
  induction more with
  | nil => exact Nat.le_refl _
  | cons p t ih =>
    obtain ⟨b, x⟩ := p
    cases b with
    | true =>
      show (nB t).length + 1 ≤ t.length + 1
      omega
    | false =>
      show (nB t).length ≤ t.length + 1
      omega
/-- Where the reference is sure. -/
theorem law_sure (s : ByteArray) (hs : s.size ≤ 1048576) (h : (bitsOf s).2.2 = true) :
    (∃ more : List (Bool × List UInt8), (bitsOf s).1 = more ∧ more.length ≤ s.size ∧ (∀ p ∈ more, p.2.length ≤ s.size + 1) ∧ (∀ p ∈ more, ∀ c ∈ p.2, c ∈ s.data.toList) ∧ (one58 s.data.toList = true → flatB more = s.data.toList) ∧ ∀ kind : Int, 0 ≤ kind → kind ≤ 4 →
      compOf kind s = (⟨(tB kind more 0).toArray⟩, bytesL (nB more), true, true) ∧ impl_Compiled.f kind s = some (⟨(tB kind more 0).toArray⟩, bytesL (nB more), true)) ∨
    (∀ kind : Int, 0 ≤ kind → kind ≤ 4 → compOf kind s = (⟨#[]⟩, [], false, true) ∧ impl_Compiled.f kind s = some (⟨#[]⟩, [], false)) := by
  have hl : s.data.toList.length = s.size := Array.length_toList
  rcases comp_sure 0 s h with ⟨more, hok, hmore, hrun⟩ | ⟨hok, hrun⟩
  · refine .inl ⟨more, hmore, ?_⟩
    obtain ⟨h1, h2⟩ := bits_len s.size s.data.toList true [] (by omega)
    change (bitsOf s).1.length ≤ _ at h1
    change ∀ p ∈ (bitsOf s).1, _ at h2
    obtain ⟨m2, h3, h4, h5⟩ := bits_all s.size s.data.toList true [] (by omega) h hok
    change (bitsOf s).1 = _ at h3
    rw [List.nil_append, hmore] at h3
    subst h3
    rw [hmore, hl] at h1
    rw [hmore, hl] at h2
    refine ⟨by simpa using h1, fun p hp => ?_, h4, h5, fun kind k0 k4 => ⟨?_, ?_⟩⟩
    · rcases h2 p hp with h | h
      · simp at h
      · exact h
    · unfold compOf
      rw [if_pos hok, hmore, foldB_is, h]
      simp
    · unfold impl_Compiled.f
      rw [if_pos ⟨hs, k0, k4⟩, hrun, foldB_is]
      simp [textsL, bytesL]
  · refine .inr fun kind k0 k4 => ⟨?_, ?_⟩
    · unfold compOf
      rw [if_neg (by rw [hok]; decide), h]
    · unfold impl_Compiled.f
      rw [if_pos ⟨hs, k0, k4⟩, hrun]
theorem names_short (more : List (Bool × List UInt8)) (n : Nat) (h : more.length ≤ n) : (bytesL (nB more)).length ≤ n := by
  have := names_len more
  simp [bytesL]
  omega
theorem comp_unsure (kind : Int) (s : ByteArray) (h : ¬ (bitsOf s).2.2 = true) : (compOf kind s).2.2.2 = false := by
  unfold compOf
  split <;> simpa using h
end Go.Proofs.YtnmhoghmhglimaaDoor.SC
