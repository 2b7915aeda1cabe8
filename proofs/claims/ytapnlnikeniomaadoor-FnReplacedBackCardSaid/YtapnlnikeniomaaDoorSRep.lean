/-
  PLAIN: what the laws on replaced placeholders share.
-/
import Derived.Test.YtapnlnikeniomaaDoorHNum
import Derived.Test.YtapnlnikeniomaaDoorHPosI
import Derived.Test.YtapnlnikeniomaaDoorQP1
namespace Go.Proofs.YtapnlnikeniomaaDoor.S
open Go.RowKit Go.Proofs.YtapnlnikeniomaaDoor.QP Go.Proofs.YtapnlnikeniomaaDoor.H Go.Proofs.YtapnlnikeniomaaDoorW.PrintWords Go.Proofs.YtapnlnikeniomaaDoorW.PrintLast Go.Proofs.YtapnlnikeniomaaDoorW.PrintMore
set_option linter.unusedVariables false
set_option linter.unusedSimpArgs false

theorem cat_mk (a b : List UInt8) : (⟨a.toArray⟩ : ByteArray) ++ ⟨b.toArray⟩ = ⟨(a ++ b).toArray⟩ := ByteArray.ext (by simp)
theorem mk_size (a : List UInt8) : (⟨a.toArray⟩ : ByteArray).size = a.length := rfl
theorem bt_n (s : ByteArray) (i : Nat) (h : i < s.size) : bt s (i : Int) = ((s[i]'h).toNat : Int) := by simp [bt, h]
theorem byte_eq {b c : UInt8} {k : Int} (hk : (c.toNat : Int) = k) : ((b.toNat : Int) = k) ↔ b = c := by
  rw [← hk]
  exact ⟨fun h => UInt8.toNat_inj.1 (Int.ofNat.inj h), fun h => by rw [h]⟩
theorem drop_cons (s : ByteArray) (i : Nat) (h : i < s.size) : s.data.toList.drop i = (s[i]'h) :: s.data.toList.drop (i + 1) := by
  have hl : s.data.toList.length = s.size := Array.length_toList
  rw [List.drop_eq_getElem_cons (by omega)]
  rfl
theorem drop_end (s : ByteArray) (i : Nat) (h : s.size ≤ i) : s.data.toList.drop i = [] := by
  have hl : s.data.toList.length = s.size := Array.length_toList
  exact List.drop_eq_nil_of_le (by omega)
theorem w64n (i : Nat) (k : Int) (m : Nat) (h : (i : Int) + k = (m : Int)) (hm : m ≤ 1048580) : wrap64 ((i : Int) + k) = ((m : Nat) : Int) := by
  rw [IntWalk.wrap64_in _ (by omega)]
  exact h
theorem form_is (a : Int) (h : (Lit.int .u8 a).wf = true) : ∃ fm, laws_form9.f a = some fm ∧ 1 ≤ fm ∧ fm ≤ 4 := by
  have hr : 0 ≤ a ∧ a ≤ 255 := by
    simp [Lit.wf, IntKind.min, IntKind.max, IntKind.signed, IntKind.bits] at h
    omega
  refine ⟨_, rfl, ?_⟩
  rw [IntWalk.wrap64_in a (by omega)]
  obtain ⟨n, rfl⟩ := Int.eq_ofNat_of_zero_le hr.1
  have : Int.tmod (n : Int) 4 = ((n % 4 : Nat) : Int) := rfl
  rw [this, IntWalk.wrap64_in _ (by omega)]
  omega
theorem impl_rep [Inhabited TabT] (fm : Int) (s : ByteArray) (hs : s.size ≤ 1048576) (h : 1 ≤ fm ∧ fm ≤ 4) (hmk : mkL s.data.toList ≤ 511) : impl_Replaced.f fm s = some (repF fm s, true) := by
  unfold impl_Replaced.f
  rw [if_pos ⟨hs, hmk, h.1, h.2⟩]
theorem bytes_app (a b : ByteArray) : (a ++ b).data.toList = a.data.toList ++ b.data.toList := by simp
theorem bytes_ext {a b : ByteArray} (h : a.data.toList = b.data.toList) : a = b := ByteArray.ext (Array.ext' h)
theorem rep_behind [Inhabited TabT] (fm : Int) (s o : ByteArray) (h : ∀ c ∈ o.data.toList, c ≠ 63) : repF fm (s ++ o) = repF fm s ++ o := by
  unfold repF
  split
  · rfl
  · apply bytes_ext
    rw [bytes_app]
    show numL (signB fm) 0 (s ++ o).data.toList = numL (signB fm) 0 s.data.toList ++ o.data.toList
    rw [bytes_app, numL_app _ _ h]
theorem rep_ahead [Inhabited TabT] (fm : Int) (s o : ByteArray) (h : ∀ c ∈ o.data.toList, c ≠ 63) : repF fm (o ++ s) = o ++ repF fm s := by
  unfold repF
  split
  · rfl
  · apply bytes_ext
    rw [bytes_app]
    show numL (signB fm) 0 (o ++ s).data.toList = o.data.toList ++ numL (signB fm) 0 s.data.toList
    rw [bytes_app, numL_pre _ _ _ _ h]
theorem numL_len [Inhabited TabT] (P : List UInt8) (hP : P.length ≤ 20) : ∀ (l : List UInt8) (n : Nat), n + l.length ≤ 1000000 → (numL P n l).length ≤ 45 * l.length
  | [], n, h => by simp [numL]
  | [c], n, h => by
    have hl := numD_short (n + 1) (by omega)
    rw [numL]
    split
    · rw [List.length_append]
      simp only [List.length_cons, List.length_nil]
      omega
    · simp
  | c :: d :: t, n, h => by
    simp only [List.length_cons] at h
    have hl := numD_short (n + 1) (by omega)
    rw [numL]
    split
    · split
      · have := numL_len P hP t n (by omega)
        simp only [List.length_cons]
        omega
      · have := numL_len P hP (d :: t) (n + 1) (by simp only [List.length_cons]; omega)
        rw [List.length_append, List.length_append]
        simp only [List.length_cons] at this ⊢
        omega
    · have := numL_len P hP (d :: t) n (by simp only [List.length_cons]; omega)
      simp only [List.length_cons] at this ⊢
      omega
theorem rep_len [Inhabited TabT] (fm : Int) (s : ByteArray) (hs : s.size ≤ 2000) : (repF fm s).size ≤ 90000 := by
  have hl : s.data.toList.length = s.size := Array.length_toList
  unfold repF
  split
  · omega
  · have hP : (signB fm).length ≤ 20 := by
      unfold signB
      split
      · simp
      · split
        · simp
        · split <;> simp
    have := numL_len (signB fm) hP s.data.toList 0 (by omega)
    rw [mk_size]
    omega
end Go.Proofs.YtapnlnikeniomaaDoor.S
