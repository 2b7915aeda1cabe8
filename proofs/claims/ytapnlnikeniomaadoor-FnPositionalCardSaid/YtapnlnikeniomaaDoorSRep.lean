/-
  PLAIN: what the laws on replaced placeholders share.
-/
import Derived.Test.YtapnlnikeniomaaDoorSNum
import Derived.Test.YtapnlnikeniomaaDoorHPosI
import Derived.Test.YtapnlnikeniomaaDoorQP3
import Derived.Test.YtapnlnikeniomaaDoorQP1
namespace Go.Proofs.YtapnlnikeniomaaDoor.S
open Go.RowKit Go.Proofs.YtapnlnikeniomaaDoor.QP Go.Proofs.YtapnlnikeniomaaDoor.H Go.Proofs.YtapnlnikeniomaaDoorW.PrintWords Go.Proofs.YtapnlnikeniomaaDoorW.PrintLast Go.Proofs.YtapnlnikeniomaaDoorW.PrintMore
set_option linter.unusedVariables false
set_option linter.unusedSimpArgs false

theorem form_is (a : Int) (h : (Lit.int .u8 a).wf = true) : ∃ fm, laws_form9.f a = some fm ∧ 1 ≤ fm ∧ fm ≤ 4 := by
  have hr : 0 ≤ a ∧ a ≤ 255 := by
    simp [Lit.wf, IntKind.min, IntKind.max, IntKind.signed, IntKind.bits] at h
    omega
  refine ⟨_, rfl, ?_⟩
  rw [IntWalk.wrap64_in a (by omega)]
  obtain ⟨n, rfl⟩ := Int.eq_ofNat_of_zero_le hr.1
  have : Int.tmod (n : Int) 4 = ((n % 4 : Nat) : Int) := rfl
  rw [this, IntWalk.wrap64_in _ (by omega)]
  omega
theorem impl_rep (fm : Int) (s : ByteArray) (hs : s.size ≤ 1048576) (h : 1 ≤ fm ∧ fm ≤ 4) : impl_Replaced.f fm s = some (repF fm s, true) := by
  unfold impl_Replaced.f
  rw [if_pos ⟨hs, h.1, h.2⟩]
theorem spec_rep (fm : Int) (s : ByteArray) (hs : s.size ≤ 1000) (h : 1 ≤ fm ∧ fm ≤ 4) : Ev (fun k => spec_Replaced.f k fm s) (repF fm s) := by
  have go : ∀ (fm : Int) (P : List UInt8), P ≠ [] → P.length ≤ 1000 → fm ≠ 1 → signB fm = P → spec_formSign.f fm = some ⟨P.toArray⟩ → Ev (fun k => spec_Replaced.f k fm s) (repF fm s) := by
    intro fm P hP hl h1 h2 h3
    have hn := numbered_is ⟨P.toArray⟩ s hs hl
    unfold repF
    rw [if_neg h1, h2]
    refine Ev.congr (f := fun k => (spec_Numbered.f k ⟨P.toArray⟩ s).bind fun t115 => some t115) (fun k => ?_) (Ev.bind hn (Ev.now _))
    simp only [spec_Replaced.f]
    rw [h3, Option.bind_some, if_neg (by rw [ByteArray.toList_eq]; exact hP)]
  have : fm = 1 ∨ fm = 2 ∨ fm = 3 ∨ fm = 4 := by omega
  rcases this with rfl | rfl | rfl | rfl
  · refine Ev.congr (f := fun _ => some s) (fun k => ?_) (Ev.now _)
    simp only [spec_Replaced.f]
    rw [show spec_formSign.f 1 = some ⟨#[]⟩ from rfl, Option.bind_some, if_pos (by rw [ByteArray.toList_eq])]
  · exact go 2 [36] (by simp) (by simp) (by decide) rfl rfl
  · exact go 3 [58] (by simp) (by simp) (by decide) rfl rfl
  · exact go 4 [64, 112] (by simp) (by simp) (by decide) rfl rfl
theorem bytes_app (a b : ByteArray) : (a ++ b).data.toList = a.data.toList ++ b.data.toList := by simp
theorem bytes_ext {a b : ByteArray} (h : a.data.toList = b.data.toList) : a = b := ByteArray.ext (Array.ext' h)
theorem rep_behind (fm : Int) (s o : ByteArray) (h : ∀ c ∈ o.data.toList, c ≠ 63) : repF fm (s ++ o) = repF fm s ++ o := by
  unfold repF
  split
  · rfl
  · apply bytes_ext
    rw [bytes_app]
    show numL (signB fm) 0 (s ++ o).data.toList = numL (signB fm) 0 s.data.toList ++ o.data.toList
    rw [bytes_app, numL_app _ _ h]
theorem rep_ahead (fm : Int) (s o : ByteArray) (h : ∀ c ∈ o.data.toList, c ≠ 63) : repF fm (o ++ s) = o ++ repF fm s := by
  unfold repF
  split
  · rfl
  · apply bytes_ext
    rw [bytes_app]
    show numL (signB fm) 0 (o ++ s).data.toList = o.data.toList ++ numL (signB fm) 0 s.data.toList
    rw [bytes_app, numL_pre _ _ _ _ h]
theorem numL_len (P : List UInt8) (hP : P.length ≤ 20) : ∀ (l : List UInt8) (n : Nat), n + l.length ≤ 1000000 → (numL P n l).length ≤ 45 * l.length
  | [], n, h => by simp [numL]
  | [c], n, h => by
    have hl := Lib.itoa_length_le ((n + 1 : Nat) : Int) (by omega) (by omega)
    rw [numL]
    split
    · rw [List.length_append]
      simp only [List.length_cons, List.length_nil]
      omega
    · simp
  | c :: d :: t, n, h => by
    simp only [List.length_cons] at h
    have hl := Lib.itoa_length_le ((n + 1 : Nat) : Int) (by omega) (by omega)
    rw [numL]
    split
    · split
      · have := numL_len P hP t n (by omega)
        simp only [List.length_cons]
        omega
      · have := numL_len P hP (d :: t) (n + 1) (by simp only [List.length_cons]; omega)
        rw [List.length_append, List.length_append]
        simp only [List.length_cons] at this ⊢
        omega
    · have := numL_len P hP (d :: t) n (by simp only [List.length_cons]; omega)
      simp only [List.length_cons] at this ⊢
      omega
theorem rep_len (fm : Int) (s : ByteArray) (hs : s.size ≤ 2000) : (repF fm s).size ≤ 90000 := by
  have hl : s.data.toList.length = s.size := Array.length_toList
  unfold repF
  split
  · omega
  · have hP : (signB fm).length ≤ 20 := by
      unfold signB
      split
      · simp
      · split
        · simp
        · split <;> simp
    have := numL_len (signB fm) hP s.data.toList 0 (by omega)
    rw [mk_size]
    omega
end Go.Proofs.YtapnlnikeniomaaDoor.S
