/-
  PLAIN: the place of the first question mark, as zzIndex finds it (texts of at most 2^20 bytes).
-/
import Derived.Test.YtapnlnikeniomaaDoorHRow
import Derived.Test.YtapnlnikeniomaaDoorQL1
namespace Go.Proofs.YtapnlnikeniomaaDoor.H
open Go.RowKit Go.Proofs.YtapnlnikeniomaaDoorW.PrintWords Go.Proofs.YtapnlnikeniomaaDoorW.PrintLast Go.Proofs.YtapnlnikeniomaaDoorW.PrintMore Go.Proofs.YtapnlnikeniomaaDoor.QL
set_option linter.unusedVariables false

def ixF : List UInt8 → Nat → Int
  | [], _ => -1
  | c :: t, i => if c = 63 then (i : Int) else ixF t (i + 1)
def ixI (q : ByteArray) : Int := ixF q.data.toList 0
theorem ixF_split : ∀ (l : List UInt8) (i : Nat), (ixF l i = -1 ∧ ∀ c ∈ l, c ≠ 63) ∨ ∃ pre post, l = pre ++ 63 :: post ∧ (∀ c ∈ pre, c ≠ 63) ∧ ixF l i = ((i + pre.length : Nat) : Int)
  | [], i => .inl ⟨rfl, by simp⟩
  | c :: t, i => by
    by_cases h : c = 63
    · subst h
      exact .inr ⟨[], t, rfl, by simp, by simp [ixF]⟩
    · rcases ixF_split t (i + 1) with ⟨h1, h2⟩ | ⟨pre, post, h1, h2, h3⟩
      · exact .inl ⟨by rw [ixF, if_neg h]; exact h1, List.forall_mem_cons.2 ⟨h, h2⟩⟩
      · refine .inr ⟨c :: pre, post, by rw [h1]; rfl, List.forall_mem_cons.2 ⟨h, h2⟩, ?_⟩
        rw [ixF, if_neg h, h3, List.length_cons]
        congr 1
        omega
theorem one_extract (q : ByteArray) (i : Nat) (h : i < q.size) : q.extract i (i + 1) = ⟨#[q[i]'h]⟩ := by
  apply ByteArray.ext
  have h' : i < q.data.size := h
  rw [ByteArray.data_extract]
  apply Array.ext'
  rw [Array.toList_extract, List.extract_eq_take_drop, List.drop_eq_getElem_cons (by simpa using h')]
  have e : i + 1 - i = 1 := by omega
  rw [e]
  rfl
theorem index_ev (q : ByteArray) (hq : q.size ≤ 1048576) : ∀ (d i : Nat), q.size - i = d → i ≤ q.size → ∃ k, squirrel_zzIndex.l0 k q ⟨#[63]⟩ (i : Int) = some (ixF (q.data.toList.drop i) i) := by
  have hl : q.data.toList.length = q.size := Array.length_toList
  have hone : (((⟨#[63]⟩ : ByteArray).size : Nat) : Int) = 1 := rfl
  intro d
  induction d with
  | zero =>
    intro i hd hi
    refine ⟨1, ?_⟩
    simp only [squirrel_zzIndex.l0]
    rw [hone, w64 _ (by omega), if_neg (by omega), List.drop_eq_nil_of_le (by omega)]
    rfl
  | succ d ih =>
    intro i hd hi
    obtain ⟨k, hk⟩ := ih (i + 1) (by omega) (by omega)
    have hlt : i < q.size := by omega
    refine ⟨k + 1, ?_⟩
    simp only [squirrel_zzIndex.l0]
    have e1 : ((i : Int) + 1).toNat = i + 1 := by omega
    have e2 : (i : Int) + 1 = ((i + 1 : Nat) : Int) := by omega
    rw [hone, w64 _ (by omega), if_pos (by omega), if_pos (by omega), if_pos (by omega), e1, Int.toNat_natCast, one_extract q i hlt, List.drop_eq_getElem_cons (by omega), ixF]
    have hg : q.data.toList[i]'(by omega) = q[i]'hlt := by rw [Array.getElem_toList]; rfl
    rw [hg]
    by_cases h : q[i]'hlt = 63
    · rw [h, if_pos rfl, if_pos rfl]
    · rw [if_neg (by simpa using h), if_neg h, e2]
      exact hk
theorem index_is (q : ByteArray) (hq : q.size ≤ 1048576) : ∃ k, squirrel_zzIndex.f k q ⟨#[63]⟩ = some (ixI q) := by
  obtain ⟨k, hk⟩ := index_ev q hq q.size 0 (by omega) (by omega)
  exact ⟨k, hk⟩
end Go.Proofs.YtapnlnikeniomaaDoor.H
