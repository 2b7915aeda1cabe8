/-
  KINDS of interface values: an argument as Go has it ('interface{}' that holds nothing, an int64, a string, a bool), or a list of such; what is read and what is made.
-/
import Derived.Test.YtabaldpjahcilaaDoorQD0
import Derived.Handy
import Derived.Lib.Hide
namespace Go.Proofs.YtabaldpjahcilaaDoor.H
open Go.RowKit Go.Proofs.YtabaldpjahcilaaDoorW.PrintWords Go.Proofs.YtabaldpjahcilaaDoorW.PrintLast Go.Proofs.YtabaldpjahcilaaDoorW.PrintMore Go.Proofs.YtabaldpjahcilaaDoor.QD
set_option linter.unusedVariables false
set_option linter.unusedSimpArgs false

/-- A value as Go's interface holds it, no list. -/
def encG (x : S27) : Value := if x.f0 = 1 then .iface 2 (.int .i64 x.f1) else if x.f0 = 2 then .iface 9 (.string x.f2) else if x.f0 = 3 then .iface 4 (.bool true) else if x.f0 = 4 then .iface 4 (.bool false) else .nilIface
theorem encG_one (x : S27) : (encG x).oneCell' = true := by
  unfold encG
  split
  · rfl
  · split
    · rfl
    · split
      · rfl
      · split <;> rfl
def kGA : Kd S27 := Kd.scalar encG encG_one
/-- .. or a list of such. -/
def kG : Kd S27 where
  sz := 1
  E := [20]
  K := fun w x cs => if x.f0 = 5 then ∃ A c, cs = [.iface 36 (.slice A x.f3.length c)] ∧ x.f3.length ≤ c ∧ kGA.C w A x.f3.length x.f3 else cs = [encG x]
  M := fun w base ok x cs => if x.f0 = 5 then ∃ v, cs = [.iface 36 v] ∧ kGA.R 20 w base ok v x.f3 else cs = [encG x]
  K_len := by
    intro w x cs h
    split at h
    · obtain ⟨A, c, rfl, _⟩ := h
      rfl
    · rw [h]
      rfl
  K_one := by
    intro w x cs h u hu
    split at h
    · obtain ⟨A, c, rfl, _⟩ := h
      rw [List.mem_singleton.1 hu]
      rfl
    · rw [h] at hu
      rw [List.mem_singleton.1 hu]
      exact encG_one x
  K_below := by
    intro w w1 x cs hb h
    split at h
    · rename_i h5
      rw [if_pos h5]
      obtain ⟨A, c, rfl, hl, hr⟩ := h
      exact ⟨A, c, rfl, hl, Kd.C_below hr hb⟩
    · rename_i h5
      rw [if_neg h5]
      exact h
  K_of_M := by
    intro w base ok x cs h
    split at h
    · rename_i h5
      rw [if_pos h5]
      obtain ⟨v, rfl, h⟩ := h
      obtain ⟨A, c, rfl, hl, hr⟩ := Kd.R_reads h
      exact ⟨A, c, rfl, hl, hr⟩
    · rename_i h5
      rw [if_neg h5]
      exact h
  M_mono := by
    intro w base ok ok' x cs hok h
    split at h
    · rename_i h5
      rw [if_pos h5]
      obtain ⟨v, rfl, h⟩ := h
      exact ⟨v, rfl, Kd.R_mono h hok⟩
    · rename_i h5
      rw [if_neg h5]
      exact h
  M_bound := by
    intro w base ok x cs h
    split at h
    · rename_i h5
      rw [if_pos h5]
      obtain ⟨v, rfl, h⟩ := h
      exact ⟨v, rfl, Kd.R_bound h⟩
    · rename_i h5
      rw [if_neg h5]
      exact h
  M_move := by
    intro w w1 base ok x cs hm h
    split at h
    · rename_i h5
      rw [if_pos h5]
      obtain ⟨v, rfl, h⟩ := h
      exact ⟨v, rfl, Kd.R_move h hm⟩
    · rename_i h5
      rw [if_neg h5]
      exact h
  M_lower := by
    intro w base base' ok x cs hb h
    split at h
    · rename_i h5
      rw [if_pos h5]
      obtain ⟨v, rfl, h⟩ := h
      exact ⟨v, rfl, Kd.R_lower h hb⟩
    · rename_i h5
      rw [if_neg h5]
      exact h
theorem info_iface : (Tryd.prog.info? 20).map (fun i => (i.zero, i.size, i.bytes)) = some (some .nilIface, 1, 16) := by kernel_rfl

/-- A value that is no list, as its kind says; such a one, or a list of such. -/
def atomR (x : S27) : Prop := 0 ≤ x.f0 ∧ x.f0 ≤ 4 ∧ x.f3 = [] ∧ (x.f1 = 0 ∨ x.f0 = 1) ∧ (x.f2 = ⟨#[]⟩ ∨ x.f0 = 2)
def rightR (x : S27) : Prop := atomR x ∨ (x.f0 = 5 ∧ x.f1 = 0 ∧ x.f2 = ⟨#[]⟩ ∧ ∀ y ∈ x.f3, atomR y)
theorem atomR.right {x : S27} (h : atomR x) : rightR x := .inl h
theorem atom_at (l : List S27) (P : S27 → Prop) (h : ∀ x ∈ l, P x) (i : Int) (h0 : 0 ≤ i) (h1 : i < l.length) : P (rd_T27 l i) := by
  unfold rd_T27
  rw [List.getD_eq_getElem?_getD, List.getElem?_eq_getElem (show i.toNat < l.length by omega)]
  exact h _ (List.getElem_mem _)
theorem take_next (l : List S27) (i : Int) (h0 : 0 ≤ i) (h1 : i < l.length) : l.take (i + 1).toNat = l.take i.toNat ++ [rd_T27 l i] := by
  unfold rd_T27
  rw [show (i + 1).toNat = i.toNat + 1 by omega, List.take_succ_eq_append_getElem (by omega), List.getD_eq_getElem?_getD, List.getElem?_eq_getElem (show i.toNat < l.length by omega)]
  rfl
end Go.Proofs.YtabaldpjahcilaaDoor.H
