/-
  MERGED BY A PROGRAM OF THIS SESSION (wip/pack.py): HEqual, HKinds, HGoOf, HValOf, HMap, HNamedA, HNamedB, HNamedI, QN10.
-/
import Derived.Test.YtnmhoghmhglimaaDoorVD
import Derived.Handy
import Derived.Lib.Hide
import Derived.Outline
import Derived.Deep.RegionWith
import Derived.StillTailTactics
import Derived.Laws.Rows
import Derived.Maps.OwnSet
import Derived.Test.YtnmhoghmhglimaaDoorVC
import Derived.Test.YtnmhoghmhglimaaDoorVB
import Derived.Test.YtnmhoghmhglimaaDoorVE
/-
  A CONTRACT: the reference's EqualValues says true of two lists of values that read the same (values that hold lists of lists at most).
-/
namespace Go.Proofs.YtnmhoghmhglimaaDoor.H
open Go.RowKit Go.Proofs.YtnmhoghmhglimaaDoorW.PrintWords Go.Proofs.YtnmhoghmhglimaaDoorW.PrintLast Go.Proofs.YtnmhoghmhglimaaDoorW.PrintMore Go.Proofs.YtnmhoghmhglimaaDoor.QN
set_option linter.unusedVariables false
set_option linter.unusedSimpArgs false

def deep : Nat → S52 → Prop
  | 0, x => x.f3 = []
  | n + 1, x => ∀ y ∈ x.f3, deep n y
theorem two_below (w : World) (o o' : Obj) : Below w.heap.size w ((w.alloc o).alloc o') := below_alloc (below_alloc (Below.refl _ _) o) o'

def EqV (n : Nat) : Prop := ∀ (x : S52) (A A' : Option Addr) (c c' : Nat) (w : World), deep n x → k52.C w A x.f3.length x.f3 → k52.C w A' x.f3.length x.f3 →
    Calls Tryd.prog 59 #[.agg #[.int .i64 x.f0, .int .i64 x.f1, .string x.f2, .slice A x.f3.length c], .agg #[.int .i64 x.f0, .int .i64 x.f1, .string x.f2, .slice A' x.f3.length c']] w fun e w' => e = .returned (.bool true) ∧ Below w.heap.size w w'
def EqL (l : List S52) : Prop := ∀ (A A' : Option Addr) (c c' : Nat) (w : World), k52.C w A l.length l → k52.C w A' l.length l →
    Calls Tryd.prog 37 #[.slice A l.length c, .slice A' l.length c'] w fun e w' => e = .returned (.bool true) ∧ Below w.heap.size w w'

set_option maxHeartbeats 1600000 in
set_option maxRecDepth 100000 in
theorem eqV_of (x : S52) (hl : EqL x.f3) (A A' : Option Addr) (c c' : Nat) (w : World) (hC : k52.C w A x.f3.length x.f3) (hC' : k52.C w A' x.f3.length x.f3) :
    Calls Tryd.prog 59 #[.agg #[.int .i64 x.f0, .int .i64 x.f1, .string x.f2, .slice A x.f3.length c], .agg #[.int .i64 x.f0, .int .i64 x.f1, .string x.f2, .slice A' x.f3.length c']] w fun e w' => e = .returned (.bool true) ∧ Below w.heap.size w w' := by
  have HL := Lib.hid hl
  have HC := Lib.hid hC
  have HC' := Lib.hid hC'
  clear hl hC hC'
  have hu := Tryd.underlying52
  go_enter Tryd.func59, Tryd.ntmps59
  go_wp2_with fail
  refine (HL.out _ _ _ _ _ (Kd.C_below HC.out (two_below _ _ _)) (Kd.C_below HC'.out (two_below _ _ _))).mono ?_
  rintro e w1 ⟨rfl, hb⟩
  go_wp2_with fail
  go_ret
  exact ⟨rfl, (two_below _ _ _).trans (hb.mono (by simp; omega))⟩

set_option maxHeartbeats 1600000 in
set_option maxRecDepth 100000 in
theorem eqL_of (l : List S52) (h : ∀ x ∈ l, ∀ (A A' : Option Addr) (c c' : Nat) (w : World), k52.C w A x.f3.length x.f3 → k52.C w A' x.f3.length x.f3 →
    Calls Tryd.prog 59 #[.agg #[.int .i64 x.f0, .int .i64 x.f1, .string x.f2, .slice A x.f3.length c], .agg #[.int .i64 x.f0, .int .i64 x.f1, .string x.f2, .slice A' x.f3.length c']] w fun e w' => e = .returned (.bool true) ∧ Below w.heap.size w w') : EqL l := by
  intro A A' c c' w hC hC'
  have H := Lib.hid h
  have hlen : l.length ≤ 9223372036854775807 := hC.2.1
  have HC := Lib.hid hC
  have HC' := Lib.hid hC'
  clear h hC hC'
  have hu := Tryd.underlying52
  go_enter Tryd.func37, Tryd.ntmps37
  go_wp2_with fail
  go_loopg [5] l.length (fun g v5 w' => ∃ (i : Int), v5 = .int .i64 i ∧ Hid (0 ≤ i ∧ i + g = l.length) ∧ Below w.heap.size w w')
  case atStart => exact ⟨0, rfl, Lib.hid ⟨by omega, by omega⟩, Below.refl _ _⟩
  case round =>
    obtain ⟨i, rfl, HI, HB⟩ := hrel
    have hi := HI.out
    cases gk with
    | zero =>
      have hge : ¬ i < (l.length : Int) := by omega
      clear hi
      go_wp2_with fail
      go_ret
      exact ⟨rfl, HB⟩
    | succ g =>
      have hlt : i < (l.length : Int) := by omega
      have h0 : 0 ≤ i := hi.1
      obtain ⟨ad, B3, b3, rfl, q0, q1, q2, q3, ql, qC⟩ := at_T52 (Kd.C_below HC.out HB) i h0 hlt
      obtain ⟨ad', B3', b3', rfl, q0', q1', q2', q3', ql', qC'⟩ := at_T52 (Kd.C_below HC'.out HB) i h0 hlt
      have hm : rd_T52 l i ∈ l := by
        unfold rd_T52
        rw [List.getD_eq_getElem?_getD, List.getElem?_eq_getElem (show i.toNat < l.length by omega)]
        exact List.getElem_mem _
      have HX := Lib.hid (H.out _ hm)
      have HQ := Lib.hid qC
      have HQ' := Lib.hid qC'
      clear hm qC qC' ql ql' hi
      generalize rd_T52 l i = x at q0 q1 q2 q3 q0' q1' q2' q3' HX HQ HQ'
      go_wp2_with fail
      go_still_tail 8, (by kernel_rfl)
      change wpList _ _ _ _ _ wr.drew
      have HBd : Below w.heap.size w wr.drew := below_drew HB
      have hbd : Below wr.heap.size wr wr.drew := below_drew (Below.refl _ _)
      have HQd := Lib.hid (Kd.C_below HQ.out hbd)
      have HQd' := Lib.hid (Kd.C_below HQ'.out hbd)
      clear hbd HQ HQ' q0 q1 q2 q3 q0' q1' q2' q3'
      generalize wr.drew = w2 at HBd HQd HQd' ⊢
      go_wp2_with fail
      refine (HX.out B3 B3' b3 b3' _ HQd.out HQd'.out).mono ?_
      rintro e w3 ⟨rfl, hb⟩
      go_wp2_with fail
      go_roundg g
      case measure => omega
      case rel => exact ⟨i + 1, rfl, Lib.hid (by have := HI.out; omega), HBd.trans (hb.mono HBd.size)⟩

theorem eqL_nil : EqL [] := eqL_of [] (fun _ h => by cases h)
theorem eqV_deep : ∀ (n : Nat) (x : S52), deep n x → EqL x.f3
  | 0, x, h => by
    have h' : x.f3 = [] := h
    rw [h']
    exact eqL_nil
  | n + 1, x, h => eqL_of x.f3 (fun y hy => eqV_of y (eqV_deep n y (h y hy)))
/-- Two lists that read the same, whose values hold lists of lists at most. -/
theorem eqL_deep (l : List S52) (h : ∀ x ∈ l, deep 2 x) : EqL l := eqL_of l (fun y hy => eqV_of y (eqV_deep 2 y (h y hy)))

/-- Two values that are the same, of a depth. -/
def eqB : Nat → S52 → S52 → Bool
  | 0, x, y => decide (x.f0 = y.f0) && (decide (x.f1 = y.f1) && (decide (x.f2 = y.f2) && (x.f3.isEmpty && y.f3.isEmpty)))
  | n + 1, x, y => decide (x.f0 = y.f0) && (decide (x.f1 = y.f1) && (decide (x.f2 = y.f2) && (decide (x.f3.length = y.f3.length) && (x.f3.zip y.f3).all fun p => eqB n p.1 p.2)))
theorem zip_eq (P : S52 → Prop) (f : S52 → S52 → Bool) (hf : ∀ x y, f x y = true → x = y ∧ P x) : ∀ (l m : List S52), l.length = m.length → ((l.zip m).all fun p => f p.1 p.2) = true → l = m ∧ ∀ x ∈ l, P x
  | [], [], _, _ => ⟨rfl, fun x hx => by cases hx⟩
  | [], b :: m, h, _ => by cases h
  | a :: l, [], h, _ => by cases h
  | a :: l, b :: m, h, h2 => by
    rw [List.zip_cons_cons, List.all_cons, Bool.and_eq_true] at h2
    obtain ⟨rfl, hp⟩ := hf a b h2.1
    obtain ⟨rfl, hq⟩ := zip_eq P f hf l m (by simpa using h) h2.2
    exact ⟨rfl, List.forall_mem_cons.2 ⟨hp, hq⟩⟩
theorem zip_self (f : S52 → S52 → Bool) : ∀ (l : List S52), (∀ x ∈ l, f x x = true) → ((l.zip l).all fun p => f p.1 p.2) = true
  | [], _ => rfl
  | a :: l, h => by
    rw [List.zip_cons_cons, List.all_cons, Bool.and_eq_true]
    exact ⟨h a List.mem_cons_self, zip_self f l (fun x hx => h x (List.mem_cons_of_mem _ hx))⟩
theorem eqB_eq : ∀ (n : Nat) (x y : S52), eqB n x y = true → x = y ∧ deep n x
  | 0, x, y, h => by
    obtain ⟨a0, a1, a2, a3⟩ := x
    obtain ⟨b0, b1, b2, b3⟩ := y
    simp only [eqB, Bool.and_eq_true, decide_eq_true_eq, List.isEmpty_iff] at h
    obtain ⟨rfl, rfl, rfl, rfl, rfl⟩ := h
    exact ⟨rfl, rfl⟩
  | n + 1, x, y, h => by
    obtain ⟨a0, a1, a2, a3⟩ := x
    obtain ⟨b0, b1, b2, b3⟩ := y
    simp only [eqB, Bool.and_eq_true, decide_eq_true_eq] at h
    obtain ⟨rfl, rfl, rfl, hl, hz⟩ := h
    obtain ⟨rfl, hd⟩ := zip_eq (deep n) (eqB n) (eqB_eq n) _ _ hl hz
    exact ⟨rfl, hd⟩
theorem eqB_self : ∀ (n : Nat) (x : S52), deep n x → eqB n x x = true
  | 0, x, h => by
    have h' : x.f3 = [] := h
    simp [eqB, h']
  | n + 1, x, h => by
    simp only [eqB, Bool.and_eq_true, decide_eq_true_eq, true_and]
    exact zip_self (eqB n) _ (fun y hy => eqB_self n y (h y hy))
def spec_EqualValues.f (l0 l1 : List S52) : Option Bool := if l0.length = l1.length ∧ ((l0.zip l1).all fun p => eqB 2 p.1 p.2) = true then some true else none
theorem equal_self (l : List S52) (h : ∀ x ∈ l, deep 2 x) : spec_EqualValues.f l l = some true := by
  rw [spec_EqualValues.f, if_pos ⟨rfl, zip_self (eqB 2) l (fun x hx => eqB_self 2 x (h x hx))⟩]
theorem spec_EqualValues.calls (A0 : Option Addr) (c0 : Nat) (l0 : List S52) (A1 : Option Addr) (c1 : Nat) (l1 : List S52) (r : Bool) (w : World) (hr0 : Kd.C k52 w A0 l0.length l0) (hc0 : l0.length ≤ c0) (hr1 : Kd.C k52 w A1 l1.length l1) (hc1 : l1.length ≤ c1) (h : spec_EqualValues.f l0 l1 = some r) :
    Calls Tryd.prog 37 #[.slice A0 l0.length c0, .slice A1 l1.length c1] w fun e w' => e = .returned (.bool r) ∧ Below w.heap.size w w' := by
  unfold spec_EqualValues.f at h
  split at h
  · rename_i hh
    obtain ⟨rfl, hd⟩ := zip_eq (deep 2) (eqB 2) (eqB_eq 2) _ _ hh.1 hh.2
    injection h with h
    subst h
    exact eqL_deep _ hd A0 A1 c0 c1 w hr0 hr1
  · cases h
end Go.Proofs.YtnmhoghmhglimaaDoor.H
/-
  KINDS of interface values: an argument as Go has it ('interface{}' that holds nothing, an int64, a string, a bool), or a list of such; what is read and what is made.
-/
namespace Go.Proofs.YtnmhoghmhglimaaDoor.H
open Go.RowKit Go.Proofs.YtnmhoghmhglimaaDoorW.PrintWords Go.Proofs.YtnmhoghmhglimaaDoorW.PrintLast Go.Proofs.YtnmhoghmhglimaaDoorW.PrintMore Go.Proofs.YtnmhoghmhglimaaDoor.QN
set_option linter.unusedVariables false
set_option linter.unusedSimpArgs false

/-- A value as Go's interface holds it, no list. -/
def encG (x : S52) : Value := if x.f0 = 1 then .iface 2 (.int .i64 x.f1) else if x.f0 = 2 then .iface 9 (.string x.f2) else if x.f0 = 3 then .iface 4 (.bool true) else if x.f0 = 4 then .iface 4 (.bool false) else .nilIface
theorem encG_one (x : S52) : (encG x).oneCell' = true := by
  unfold encG
  split
  · rfl
  · split
    · rfl
    · split
      · rfl
      · split <;> rfl
def kGA : Kd S52 := Kd.scalar encG encG_one
/-- .. or a list of such. -/
def kG : Kd S52 where
  sz := 1
  E := [20]
  K := fun w x cs => if x.f0 = 5 then ∃ A c, cs = [.iface 84 (.slice A x.f3.length c)] ∧ x.f3.length ≤ c ∧ kGA.C w A x.f3.length x.f3 else cs = [encG x]
  M := fun w base ok x cs => if x.f0 = 5 then ∃ v, cs = [.iface 84 v] ∧ kGA.R 20 w base ok v x.f3 else cs = [encG x]
  K_len := by
    intro w x cs h
    split at h
    · obtain ⟨A, c, rfl, _⟩ := h
      rfl
    · rw [h]
      rfl
  K_one := by
    intro w x cs h u hu
    split at h
    · obtain ⟨A, c, rfl, _⟩ := h
      rw [List.mem_singleton.1 hu]
      rfl
    · rw [h] at hu
      rw [List.mem_singleton.1 hu]
      exact encG_one x
  K_below := by
    intro w w1 x cs hb h
    split at h
    · rename_i h5
      rw [if_pos h5]
      obtain ⟨A, c, rfl, hl, hr⟩ := h
      exact ⟨A, c, rfl, hl, Kd.C_below hr hb⟩
    · rename_i h5
      rw [if_neg h5]
      exact h
  K_of_M := by
    intro w base ok x cs h
    split at h
    · rename_i h5
      rw [if_pos h5]
      obtain ⟨v, rfl, h⟩ := h
      obtain ⟨A, c, rfl, hl, hr⟩ := Kd.R_reads h
      exact ⟨A, c, rfl, hl, hr⟩
    · rename_i h5
      rw [if_neg h5]
      exact h
  M_mono := by
    intro w base ok ok' x cs hok h
    split at h
    · rename_i h5
      rw [if_pos h5]
      obtain ⟨v, rfl, h⟩ := h
      exact ⟨v, rfl, Kd.R_mono h hok⟩
    · rename_i h5
      rw [if_neg h5]
      exact h
  M_bound := by
    intro w base ok x cs h
    split at h
    · rename_i h5
      rw [if_pos h5]
      obtain ⟨v, rfl, h⟩ := h
      exact ⟨v, rfl, Kd.R_bound h⟩
    · rename_i h5
      rw [if_neg h5]
      exact h
  M_move := by
    intro w w1 base ok x cs hm h
    split at h
    · rename_i h5
      rw [if_pos h5]
      obtain ⟨v, rfl, h⟩ := h
      exact ⟨v, rfl, Kd.R_move h hm⟩
    · rename_i h5
      rw [if_neg h5]
      exact h
  M_lower := by
    intro w base base' ok x cs hb h
    split at h
    · rename_i h5
      rw [if_pos h5]
      obtain ⟨v, rfl, h⟩ := h
      exact ⟨v, rfl, Kd.R_lower h hb⟩
    · rename_i h5
      rw [if_neg h5]
      exact h
theorem info_iface : (Tryd.prog.info? 20).map (fun i => (i.zero, i.size, i.bytes)) = some (some .nilIface, 1, 16) := by kernel_rfl

/-- A value that is no list, as its kind says; such a one, or a list of such. -/
def atomR (x : S52) : Prop := 0 ≤ x.f0 ∧ x.f0 ≤ 4 ∧ x.f3 = [] ∧ (x.f1 = 0 ∨ x.f0 = 1) ∧ (x.f2 = ⟨#[]⟩ ∨ x.f0 = 2)
def rightR (x : S52) : Prop := atomR x ∨ (x.f0 = 5 ∧ x.f1 = 0 ∧ x.f2 = ⟨#[]⟩ ∧ ∀ y ∈ x.f3, atomR y)
theorem atomR.right {x : S52} (h : atomR x) : rightR x := .inl h
theorem atom_at (l : List S52) (P : S52 → Prop) (h : ∀ x ∈ l, P x) (i : Int) (h0 : 0 ≤ i) (h1 : i < l.length) : P (rd_T52 l i) := by
  unfold rd_T52
  rw [List.getD_eq_getElem?_getD, List.getElem?_eq_getElem (show i.toNat < l.length by omega)]
  exact h _ (List.getElem_mem _)
theorem take_next (l : List S52) (i : Int) (h0 : 0 ≤ i) (h1 : i < l.length) : l.take (i + 1).toNat = l.take i.toNat ++ [rd_T52 l i] := by
  unfold rd_T52
  rw [show (i + 1).toNat = i.toNat + 1 by omega, List.take_succ_eq_append_getElem (by omega), List.getD_eq_getElem?_getD, List.getElem?_eq_getElem (show i.toNat < l.length by omega)]
  rfl
end Go.Proofs.YtnmhoghmhglimaaDoor.H
/-
  CONTRACTS: impl's goOf and goList: values that are right, as Go has them.
-/
namespace Go.Proofs.YtnmhoghmhglimaaDoor.H
open Go.RowKit Go.Proofs.YtnmhoghmhglimaaDoorW.PrintWords Go.Proofs.YtnmhoghmhglimaaDoorW.PrintLast Go.Proofs.YtnmhoghmhglimaaDoorW.PrintMore Go.Proofs.YtnmhoghmhglimaaDoor.QN
set_option linter.unusedVariables false
set_option linter.unusedSimpArgs false

def AtomPost (x : S52) (w : World) (e : Ending) (w' : World) : Prop := e = .returned (.tuple #[encG x, .bool true]) ∧ Below w.heap.size w w'
theorem ret_tup {a b : Value} (h : a = b) : Ending.returned (.tuple #[a, .bool true]) = .returned (.tuple #[b, .bool true]) := by rw [h]
theorem one_below (w : World) (o : Obj) : Below w.heap.size w (w.alloc o) := below_alloc (Below.refl _ _) o

set_option maxHeartbeats 1600000 in
set_option maxRecDepth 100000 in
theorem goOf_atom (x : S52) (hx : atomR x) (A : Option Addr) (c : Nat) (d : Int) (w : World) :
    Calls Tryd.prog 68 #[.agg #[.int .i64 x.f0, .int .i64 x.f1, .string x.f2, .slice A x.f3.length c], .int .i64 d] w (AtomPost x w) := by
  obtain ⟨h0, h4, _⟩ := hx
  have hu := Tryd.underlying52
  have e : ∀ n : Int, x.f0 = n → encG x = (if n = 1 then .iface 2 (.int .i64 x.f1) else if n = 2 then .iface 9 (.string x.f2) else if n = 3 then .iface 4 (.bool true) else if n = 4 then .iface 4 (.bool false) else .nilIface) := fun n h => by unfold encG; rw [h]
  have e0 := Lib.hid e
  clear e
  generalize hk : x.f0 = k at h0 h4
  have : k = 0 ∨ k = 1 ∨ k = 2 ∨ k = 3 ∨ k = 4 := by omega
  rcases this with rfl | rfl | rfl | rfl | rfl
  all_goals
    have HE := Lib.hid (e0.out _ hk)
    clear hk e0 h0 h4
    go_enter Tryd.func68, Tryd.ntmps68
    go_wp2_with fail
    go_ret2
    exact ⟨ret_tup (by rw [HE.out]; simp), one_below _ _⟩

def ListPost (d : Kd S52) (l : List S52) (w : World) (e : Ending) (w' : World) : Prop := ∃ v : Value, e = .returned (.tuple #[v, .bool true]) ∧ d.R 20 w' w.heap.size (fun _ => True) v l ∧ Below w.heap.size w w'
/-- What goOf hands back of a right value. -/
def GoOfPost (x : S52) (w : World) (e : Ending) (w' : World) : Prop := ∃ u : Value, e = .returned (.tuple #[u, .bool true]) ∧ kG.M w' w.heap.size (fun _ => True) x [u] ∧ Below w.heap.size w w'

/-- What goOf owes of an element, that goList may append it. -/
def Gives (d : Kd S52) (dp : Int) (x : S52) : Prop := ∀ (A : Option Addr) (c : Nat) (w : World), k52.C w A x.f3.length x.f3 → x.f3.length ≤ c →
  Calls Tryd.prog 68 #[.agg #[.int .i64 x.f0, .int .i64 x.f1, .string x.f2, .slice A x.f3.length c], .int .i64 dp] w fun e w' => ∃ u : Value, e = .returned (.tuple #[u, .bool true]) ∧ d.M w' w.heap.size (fun _ => True) x [u] ∧ Below w.heap.size w w'

set_option maxHeartbeats 3200000 in
set_option maxRecDepth 100000 in
theorem goList_of (d : Kd S52) (hsz : d.sz = 1) (hif : ∀ w x u, d.K w x [u] → u = .nilIface ∨ ∃ t v, u = .iface t v) (l : List S52) (dp : Int) (h : ∀ x ∈ l, Gives d dp x) (hl : l.length ≤ 1048576) (A : Option Addr) (c : Nat) (w : World) (hC : k52.C w A l.length l) :
    Calls Tryd.prog 60 #[.slice A l.length c, .int .i64 dp] w (ListPost d l w) := by
  have H := Lib.hid h
  have HC := Lib.hid hC
  have HZ := Lib.hid hsz
  have HIF := Lib.hid hif
  clear h hC hsz hif
  have hu := Tryd.underlying52
  go_enter Tryd.func60, Tryd.ntmps60
  go_wp2_with fail
  go_loopg [6, 14] l.length (fun g v6 v14 w' => ∃ (i : Int), v14 = .int .i64 i ∧ Hid (0 ≤ i ∧ i + g = l.length) ∧ Hid (d.R 20 w' w.heap.size (fun _ => True) v6 (l.take i.toNat)) ∧ Below w.heap.size w w')
  case atStart => exact ⟨0, rfl, Lib.hid ⟨by omega, by omega⟩, Lib.hid ⟨fun _ _ => trivial, OwnRow.lit (inner := []) w _ (Reps.none _ _) (Nat.le_refl _) (by simp)⟩, one_below _ _⟩
  case round =>
    obtain ⟨i, rfl, HI, HO, HB⟩ := hrel
    have hi := HI.out
    cases gk with
    | zero =>
      have hge : ¬ i < (l.length : Int) := by omega
      have hall : l.take i.toNat = l := List.take_of_length_le (by omega)
      have HO2 := HO.out
      rw [hall] at HO2
      have HF := Lib.hid HO2
      clear hi hall HO2
      go_wp2_with fail
      go_ret2
      exact ⟨_, rfl, HF.out, HB⟩
    | succ g =>
      have hlt : i < (l.length : Int) := by omega
      have h0 : 0 ≤ i := hi.1
      obtain ⟨ad, B3, b3, rfl, q0, q1, q2, q3, ql, qC⟩ := at_T52 (Kd.C_below HC.out HB) i h0 hlt
      have HX := Lib.hid (atom_at l (Gives d dp) H.out i h0 hlt)
      have HT := Lib.hid (take_next l i h0 hlt)
      have HQ := Lib.hid qC
      have HQL := Lib.hid ql
      clear qC ql hi
      generalize rd_T52 l i = x at q0 q1 q2 q3 HX HQ HQL HT
      go_wp2_with fail
      refine (HX.out B3 b3 _ (Kd.C_below HQ.out (one_below _ _)) HQL.out).mono ?_
      rintro e w2 ⟨u, rfl, hM, hb⟩
      have HU := HIF.out _ _ _ (d.K_of_M hM)
      have HB2 : Below w.heap.size w w2 := (below_alloc HB _).trans (hb.mono (below_alloc HB _).size)
      have HO2 := Lib.hid (Kd.R_below (Kd.R_alloc HO.out _) hb)
      have HM2 := Lib.hid (d.M_lower (base' := w.heap.size) (below_alloc HB _).size (d.M_bound hM))
      have hlt2 := Kd.R_lt (Kd.R_alloc HO.out (.cells #[.int .i64 x.f0, .int .i64 x.f1, .string x.f2, .slice B3 x.f3.length b3] 52))
      have HLT := Lib.hid hlt2
      have hbase := HB2.size
      have hzz : (Tryd.prog.info? 20).map (fun i => (i.zero, i.size, i.bytes)) = some (some .nilIface, d.sz, 16) := by rw [HZ.out]; exact info_iface
      have HINF := Lib.hid hzz
      have hz1 : (Value.nilIface).cells.size = d.sz := by rw [HZ.out]; rfl
      have HZ1 := Lib.hid hz1
      have hz0 : 0 < d.sz := by rw [HZ.out]; omega
      clear hM hb hlt2 hzz hz1
      rcases HU with rfl | ⟨t, v, rfl⟩
      all_goals
        go_wp2_with (first | ((with_reducible refine gate_builtin (b := .append) (xs := #[.tmp 26, .tmp 28]) rfl ?_); at_builtin; refine Kd.R_append d (w0 := w) w.heap.size rfl (.tmp 26) (.tmp 28) 84 20 .nilIface 16 rfl Tryd.underlying84 HINF.out HZ1.out hz0 (by omega) u6 (l.take i.toNat) x _ (fun _ => True) _ rfl rfl HM2.out (fun k hk => ⟨trivial, fun he => absurd (HLT.out k he.symm) (Nat.not_lt.mpr hk.2.1)⟩) (fun _ _ => trivial) HO2.out HB2 hbase (by rw [List.length_take]; omega) ?_))
        intro v1 w1 hO1 hB1 _ _
        have HO3 := Lib.hid (by rw [← HT.out] at hO1; exact hO1)
        clear hO1
        go_wp2_with fail
        go_roundg g
        case measure => omega
        case rel => exact ⟨i + 1, rfl, Lib.hid (by have := HI.out; omega), HO3, hB1⟩

theorem encG_if (x : S52) : encG x = .nilIface ∨ ∃ t v, encG x = .iface t v := by
  unfold encG
  split
  · exact .inr ⟨_, _, rfl⟩
  · split
    · exact .inr ⟨_, _, rfl⟩
    · split
      · exact .inr ⟨_, _, rfl⟩
      · split
        · exact .inr ⟨_, _, rfl⟩
        · exact .inl rfl
theorem kGA_if : ∀ w x u, kGA.K w x [u] → u = .nilIface ∨ ∃ t v, u = .iface t v := fun w x u h => by
  have h' : [u] = [encG x] := h
  injection h' with h'
  rw [h']
  exact encG_if x
theorem kG_if : ∀ w x u, kG.K w x [u] → u = .nilIface ∨ ∃ t v, u = .iface t v := fun w x u h => by
  have h' : (if x.f0 = 5 then ∃ A c, [u] = [.iface 84 (.slice A x.f3.length c)] ∧ x.f3.length ≤ c ∧ kGA.C w A x.f3.length x.f3 else [u] = [encG x]) := h
  split at h'
  · obtain ⟨A, c, h', _⟩ := h'
    injection h' with h'
    exact .inr ⟨_, _, h'⟩
  · injection h' with h'
    rw [h']
    exact encG_if x
theorem atom_gives (x : S52) (hx : atomR x) (dp : Int) : Gives kGA dp x := fun A c w _ _ =>
  (goOf_atom x hx A c dp w).mono fun e w' ⟨he, hb⟩ => ⟨encG x, he, rfl, hb⟩
theorem goList_atoms (l : List S52) (h : ∀ x ∈ l, atomR x) (dp : Int) (hl : l.length ≤ 1048576) (A : Option Addr) (c : Nat) (w : World) (hC : k52.C w A l.length l) :
    Calls Tryd.prog 60 #[.slice A l.length c, .int .i64 dp] w (ListPost kGA l w) :=
  goList_of kGA rfl kGA_if l dp (fun x hx => atom_gives x (h x hx) dp) hl A c w hC

set_option maxHeartbeats 1600000 in
set_option maxRecDepth 100000 in
theorem goOf_list (x : S52) (hx : x.f0 = 5) (ha : ∀ y ∈ x.f3, atomR y) (hl : x.f3.length ≤ 1048576) : Gives kG 0 x := by
  intro A c w hC hc
  have HC := Lib.hid hC
  have HA := Lib.hid ha
  have HL := Lib.hid hl
  have hu := Tryd.underlying52
  have HX := Lib.hid hx
  rw [hx]
  clear hC ha hl hx
  go_enter Tryd.func68, Tryd.ntmps68
  go_wp2_with fail
  refine (goList_atoms x.f3 HA.out 1 HL.out A c _ (Kd.C_below HC.out (one_below _ _))).mono ?_
  rintro e w1 ⟨v, rfl, hR, hb⟩
  have HR := Lib.hid hR
  have HB := Lib.hid hb
  clear hR hb
  go_wp2_with fail
  go_ret2
  refine ⟨_, rfl, ?_, (one_below _ _).trans (HB.out.mono (by simp))⟩
  show (if x.f0 = 5 then _ else _)
  rw [if_pos HX.out]
  exact ⟨v, rfl, Kd.R_lower HR.out (by simp)⟩
theorem right_gives (x : S52) (hx : rightR x) (hl : x.f3.length ≤ 1048576) : Gives kG 0 x := by
  rcases hx with h | ⟨h5, _, _, ha⟩
  · intro A c w _ _
    refine (goOf_atom x h A c 0 w).mono fun e w' ⟨he, hb⟩ => ⟨encG x, he, ?_, hb⟩
    show (if x.f0 = 5 then _ else _)
    rw [if_neg (by have := h.2.1; omega)]
  · exact goOf_list x h5 ha hl
end Go.Proofs.YtnmhoghmhglimaaDoor.H
/-
  CONTRACTS: valueOf and valuesOf give back the values of which Go's interfaces were made (right values: none, or lists of such).
-/
namespace Go.Proofs.YtnmhoghmhglimaaDoor.H
open Go.RowKit Go.Proofs.YtnmhoghmhglimaaDoorW.PrintWords Go.Proofs.YtnmhoghmhglimaaDoorW.PrintLast Go.Proofs.YtnmhoghmhglimaaDoorW.PrintMore Go.Proofs.YtnmhoghmhglimaaDoor.QN
set_option linter.unusedVariables false
set_option linter.unusedSimpArgs false

theorem assert_yes {P : Program} {T : TypeId} {d : TypeDesc} (hu : P.underlying T = some d) (hd : ∀ ms, d ≠ .interface ms) (xT : TypeId) (v : Value) (W : World) : (Instr.typeAssert (.iface T v) xT T true).run P W = .ok (.tuple #[v, .bool true]) W := by
  unfold Instr.typeAssert
  simp only [Sem.run_bind, run_underlying hu, Result.andThen]
  cases d <;> simp_all [Sem.run_pure]
theorem assert_no {P : Program} {T t : TypeId} {d : TypeDesc} {i : TypeInfo} {z : Value} (hu : P.underlying T = some d) (hd : ∀ ms, d ≠ .interface ms) (hi : P.info? T = some i) (hz : i.zero = some z) (hne : t ≠ T) (xT : TypeId) (v : Value) (W : World) : (Instr.typeAssert (.iface t v) xT T true).run P W = .ok (.tuple #[z, .bool false]) W := by
  unfold Instr.typeAssert
  simp only [Sem.run_bind, run_underlying hu, Result.andThen]
  cases d <;> simp_all [Sem.run_pure, zeroValue, typeInfo, Result.andThen]
theorem ta_int_yes (v : Value) (W : World) : (Instr.typeAssert (.iface 2 v) 20 2 true).run Tryd.prog W = .ok (.tuple #[v, .bool true]) W := assert_yes Tryd.underlying2 (fun _ h => by cases h) _ v W
theorem ta_int_no (t : TypeId) (v : Value) (h : t ≠ 2) (W : World) : (Instr.typeAssert (.iface t v) 20 2 true).run Tryd.prog W = .ok (.tuple #[.int .i64 0, .bool false]) W := by
  obtain ⟨i, hi, hz⟩ := Option.map_eq_some_iff.1 (show (Tryd.prog.info? 2).map (·.zero) = some (some (.int .i64 0)) by kernel_rfl)
  exact assert_no Tryd.underlying2 (fun _ h => by cases h) hi hz h _ v W
theorem ta_str_yes (v : Value) (W : World) : (Instr.typeAssert (.iface 9 v) 20 9 true).run Tryd.prog W = .ok (.tuple #[v, .bool true]) W := assert_yes Tryd.underlying9 (fun _ h => by cases h) _ v W
theorem ta_str_no (t : TypeId) (v : Value) (h : t ≠ 9) (W : World) : (Instr.typeAssert (.iface t v) 20 9 true).run Tryd.prog W = .ok (.tuple #[.string ⟨#[]⟩, .bool false]) W := by
  obtain ⟨i, hi, hz⟩ := Option.map_eq_some_iff.1 (show (Tryd.prog.info? 9).map (·.zero) = some (some (.string ⟨#[]⟩)) by kernel_rfl)
  exact assert_no Tryd.underlying9 (fun _ h => by cases h) hi hz h _ v W
theorem ta_bool_yes (v : Value) (W : World) : (Instr.typeAssert (.iface 4 v) 20 4 true).run Tryd.prog W = .ok (.tuple #[v, .bool true]) W := assert_yes Tryd.underlying4 (fun _ h => by cases h) _ v W
theorem ta_bool_no (t : TypeId) (v : Value) (h : t ≠ 4) (W : World) : (Instr.typeAssert (.iface t v) 20 4 true).run Tryd.prog W = .ok (.tuple #[.bool false, .bool false]) W := by
  obtain ⟨i, hi, hz⟩ := Option.map_eq_some_iff.1 (show (Tryd.prog.info? 4).map (·.zero) = some (some (.bool false)) by kernel_rfl)
  exact assert_no Tryd.underlying4 (fun _ h => by cases h) hi hz h _ v W
theorem ta_list_yes (v : Value) (W : World) : (Instr.typeAssert (.iface 84 v) 20 84 true).run Tryd.prog W = .ok (.tuple #[v, .bool true]) W := assert_yes Tryd.underlying84 (fun _ h => by cases h) _ v W
/-- What valueOf hands back. -/
def BackPost (x : S52) (w : World) (e : Ending) (w' : World) : Prop := ∃ v : Value, e = .returned (.agg #[.int .i64 x.f0, .int .i64 x.f1, .string x.f2, v]) ∧ k52.R 52 w' w.heap.size (fun _ => True) v x.f3 ∧ Below w.heap.size w w'
set_option maxHeartbeats 3200000 in
set_option maxRecDepth 100000 in
theorem valueOf_atom (x : S52) (hx : atomR x) (w : World) : Calls Tryd.prog 70 #[encG x] w (BackPost x w) := by
  obtain ⟨h0, h4, hl, h1, h2⟩ := hx
  obtain ⟨k, n, t, l⟩ := x
  simp only [] at h0 h4 hl h1 h2
  subst hl
  have : k = 0 ∨ k = 1 ∨ k = 2 ∨ k = 3 ∨ k = 4 := by omega
  rcases this with rfl | rfl | rfl | rfl | rfl
  · obtain rfl : n = 0 := by omega
    obtain rfl : t = ⟨#[]⟩ := by simpa using h2
    show Calls _ _ #[.nilIface] _ _
    go_enter Tryd.func70, Tryd.ntmps70
    go_wp2_with fail
    (try simp only [Exit.inBlock, Exit.then])
    refine bodyPost_ret (results_cell_row (P := Tryd.prog) rfl _ _ w.heap.size 52 _ (0, 0) _ rfl (heap_alloc_new w _) Tryd.underlying52 rfl (by kernel_rfl)) rfl ?_
    exact ⟨.slice none 0 0, rfl, Kd.R_nil _ _ _ _ _, one_below _ _⟩
  · obtain rfl : t = ⟨#[]⟩ := by simpa using h2
    show Calls _ _ #[.iface 2 (.int .i64 n)] _ _
    have t1 := ta_int_yes (.int .i64 n)
    go_enter Tryd.func70, Tryd.ntmps70
    go_wp2_with fail
    (try simp only [Exit.inBlock, Exit.then])
    refine bodyPost_ret (results_cell_row (P := Tryd.prog) rfl _ _ w.heap.size 52 _ (0, 0) _ rfl (heap_alloc_new w _) Tryd.underlying52 rfl (by kernel_rfl)) rfl ?_
    exact ⟨.slice none 0 0, rfl, Kd.R_nil _ _ _ _ _, one_below _ _⟩
  · obtain rfl : n = 0 := by omega
    show Calls _ _ #[.iface 9 (.string t)] _ _
    have t1 := ta_int_no 9 (.string t) (by decide)
    have t2 := ta_str_yes (.string t)
    go_enter Tryd.func70, Tryd.ntmps70
    go_wp2_with fail
    (try simp only [Exit.inBlock, Exit.then])
    refine bodyPost_ret (results_cell_row (P := Tryd.prog) rfl _ _ w.heap.size 52 _ (0, 0) _ rfl (heap_alloc_new w _) Tryd.underlying52 rfl (by kernel_rfl)) rfl ?_
    exact ⟨.slice none 0 0, rfl, Kd.R_nil _ _ _ _ _, one_below _ _⟩
  · obtain rfl : n = 0 := by omega
    obtain rfl : t = ⟨#[]⟩ := by simpa using h2
    show Calls _ _ #[.iface 4 (.bool true)] _ _
    have t1 := ta_int_no 4 (.bool true) (by decide)
    have t2 := ta_str_no 4 (.bool true) (by decide)
    have t3 := ta_bool_yes (.bool true)
    go_enter Tryd.func70, Tryd.ntmps70
    go_wp2_with fail
    (try simp only [Exit.inBlock, Exit.then])
    refine bodyPost_ret (results_cell_row (P := Tryd.prog) rfl _ _ w.heap.size 52 _ (0, 0) _ rfl (heap_alloc_new w _) Tryd.underlying52 rfl (by kernel_rfl)) rfl ?_
    exact ⟨.slice none 0 0, rfl, Kd.R_nil _ _ _ _ _, one_below _ _⟩
  · obtain rfl : n = 0 := by omega
    obtain rfl : t = ⟨#[]⟩ := by simpa using h2
    show Calls _ _ #[.iface 4 (.bool false)] _ _
    have t1 := ta_int_no 4 (.bool false) (by decide)
    have t2 := ta_str_no 4 (.bool false) (by decide)
    have t3 := ta_bool_yes (.bool false)
    go_enter Tryd.func70, Tryd.ntmps70
    go_wp2_with fail
    (try simp only [Exit.inBlock, Exit.then])
    refine bodyPost_ret (results_cell_row (P := Tryd.prog) rfl _ _ w.heap.size 52 _ (0, 0) _ rfl (heap_alloc_new w _) Tryd.underlying52 rfl (by kernel_rfl)) rfl ?_
    exact ⟨.slice none 0 0, rfl, Kd.R_nil _ _ _ _ _, one_below _ _⟩

theorem info_val : (Tryd.prog.info? 52).map (fun i => (i.zero, i.size, i.bytes)) = some (some (.agg #[.int .i64 0, .int .i64 0, .string ⟨#[]⟩, .slice none 0 0]), 4, 56) := by kernel_rfl
/-- What valueOf owes of an element. -/
def Backs (d : Kd S52) (x : S52) : Prop := ∀ (u : Value) (w : World), d.K w x [u] → Calls Tryd.prog 70 #[u] w (BackPost x w)
theorem one_cell {d : Kd S52} (hsz : d.sz = 1) {l : List S52} {w : World} {A : Option Addr} {n : Nat} (h : d.C w A n l) (i : Int) (h0 : 0 ≤ i) (h1 : i < n) : ∃ ad u, A = some ad ∧ d.K w (rd_T52 l i) [u] ∧ w.cell? (ad.add i.toNat) = some u := by
  obtain ⟨ad, c, e, hl, hK, hc0⟩ := Kd.C_get h z52 i h0 h1
  have hlen := d.K_len hK
  rw [hsz] at hlen hc0
  obtain ⟨u, rfl⟩ : ∃ u, c = [u] := List.length_eq_one_iff.1 hlen
  refine ⟨ad, u, e, hK, ?_⟩
  have := hc0 0 u rfl
  simpa using this
set_option maxHeartbeats 3200000 in
set_option maxRecDepth 100000 in
theorem valuesOf_of (d : Kd S52) (hsz : d.sz = 1) (l : List S52) (h : ∀ x ∈ l, Backs d x) (hl : l.length ≤ 1048576) (A : Option Addr) (c : Nat) (w : World) (hC : d.C w A l.length l) :
    Calls Tryd.prog 58 #[.slice A l.length c] w fun e w' => ∃ v : Value, e = .returned v ∧ k52.R 52 w' w.heap.size (fun _ => True) v l ∧ Below w.heap.size w w' := by
  have H := Lib.hid h
  have HC := Lib.hid hC
  have HZ := Lib.hid hsz
  clear h hC hsz
  go_enter Tryd.func58, Tryd.ntmps58
  go_wp2_with fail
  go_loopg [3, 8] l.length (fun g v3 v8 w' => ∃ (i : Int), v8 = .int .i64 i ∧ Hid (0 ≤ i ∧ i + g = l.length) ∧ Hid (k52.R 52 w' w.heap.size (fun _ => True) v3 (l.take i.toNat)) ∧ Hid (Below w.heap.size w w'))
  case atStart => exact ⟨0, rfl, Lib.hid ⟨by omega, by omega⟩, Lib.hid (Kd.R_nil _ _ _ _ _), Lib.hid (Below.refl _ _)⟩
  case round =>
    obtain ⟨i, rfl, HI, HO, HB⟩ := hrel
    have hi := HI.out
    cases gk with
    | zero =>
      have hge : ¬ i < (l.length : Int) := by omega
      have hall : l.take i.toNat = l := List.take_of_length_le (by omega)
      have HO2 := HO.out
      rw [hall] at HO2
      have HF := Lib.hid HO2
      clear hi hall HO2
      go_wp2_with fail
      go_ret
      exact ⟨_, rfl, HF.out, HB.out⟩
    | succ g =>
      have hlt : i < (l.length : Int) := by omega
      have h0 : 0 ≤ i := hi.1
      obtain ⟨ad, u, rfl, hK, hcell⟩ := one_cell HZ.out (Kd.C_below HC.out HB.out) i h0 hlt
      have HX := Lib.hid (atom_at l (Backs d) H.out i h0 hlt)
      have HT := Lib.hid (take_next l i h0 hlt)
      have HK := Lib.hid hK
      clear hi hK
      generalize rd_T52 l i = x at HX HK HT
      go_wp2_with fail
      refine (HX.out u _ HK.out).mono ?_
      rintro e w2 ⟨v, rfl, hR, hb⟩
      obtain ⟨A2, c2, e2⟩ := Kd.R_slice hR
      subst e2
      have HB2 : Below w.heap.size w w2 := HB.out.trans (hb.mono HB.out.size)
      have HO2 := Lib.hid (Kd.R_below HO.out hb)
      have hM := k52_mkM w2 wr.heap.size (fun _ => True) x hR
      have HM2 := Lib.hid (k52.M_lower (base' := w.heap.size) HB.out.size (k52.M_bound hM))
      have HLT := Lib.hid (Kd.R_lt HO.out)
      have hbase := HB2.size
      clear hR hM hb HK hcell
      go_wp2_with (first | ((with_reducible refine gate_builtin (b := .append) (xs := #[.tmp 12, .tmp 15]) rfl ?_); at_builtin; refine Kd.R_append k52 (w0 := w) w.heap.size rfl (.tmp 12) (.tmp 15) 42 52 (.agg #[.int .i64 0, .int .i64 0, .string ⟨#[]⟩, .slice none 0 0]) 56 rfl Tryd.underlying42 info_val rfl (by decide) (by omega) u3 (l.take i.toNat) x _ (fun _ => True) _ rfl rfl HM2.out (fun k hk => ⟨trivial, fun he => absurd (HLT.out k he.symm) (Nat.not_lt.mpr hk.2.1)⟩) (fun _ _ => trivial) HO2.out HB2 hbase (by rw [List.length_take]; omega) ?_))
      intro v1 w1 hO1 hB1 _ _
      have HO3 := Lib.hid (by rw [← HT.out] at hO1; exact hO1)
      have HB3 := Lib.hid hB1
      clear hO1 hB1
      go_wp2_with fail
      go_roundg g
      case measure => omega
      case rel => exact ⟨i + 1, rfl, Lib.hid (by have := HI.out; omega), HO3, HB3⟩
theorem atom_backs (x : S52) (hx : atomR x) : Backs kGA x := by
  intro u w h
  have h' : [u] = [encG x] := h
  injection h' with h'
  rw [h']
  exact valueOf_atom x hx w
set_option maxHeartbeats 3200000 in
set_option maxRecDepth 100000 in
theorem valueOf_list (x : S52) (hx : x.f0 = 5) (h1 : x.f1 = 0) (h2 : x.f2 = ⟨#[]⟩) (ha : ∀ y ∈ x.f3, atomR y) (hl : x.f3.length ≤ 1048576) : Backs kG x := by
  intro u w hK
  have hK' : (if x.f0 = 5 then ∃ A c, [u] = [.iface 84 (.slice A x.f3.length c)] ∧ x.f3.length ≤ c ∧ kGA.C w A x.f3.length x.f3 else [u] = [encG x]) := hK
  rw [if_pos hx] at hK'
  obtain ⟨A, c, hu, _, hC⟩ := hK'
  injection hu with hu
  subst hu
  have HV := Lib.hid (valuesOf_of kGA rfl x.f3 (fun y hy => atom_backs y (ha y hy)) hl A c (w.alloc (.cells #[.int .i64 0, .int .i64 0, .string ⟨#[]⟩, .slice none 0 0] 52)) (Kd.C_below hC (one_below _ _)))
  unfold BackPost
  rw [hx, h1, h2]
  have t1 := ta_int_no 84 (.slice A x.f3.length c) (by decide)
  have t2 := ta_str_no 84 (.slice A x.f3.length c) (by decide)
  have t3 := ta_bool_no 84 (.slice A x.f3.length c) (by decide)
  have t4 := ta_list_yes (.slice A x.f3.length c)
  clear hK hC hx h1 h2 ha hl
  go_enter Tryd.func70, Tryd.ntmps70
  go_wp2_with fail
  refine HV.out.mono ?_
  rintro e w1 ⟨v, rfl, hR, hb⟩
  have HR := Lib.hid hR
  have HB := Lib.hid hb
  obtain ⟨A2, n2, e2⟩ := Kd.R_slice hR
  subst e2
  have hrow : w1.heap[w.heap.size]? = some (.cells #[.int .i64 0, .int .i64 0, .string ⟨#[]⟩, .slice none 0 0] 52) := by
    rw [hb.block w.heap.size (by show w.heap.size < (w.heap.push _).size; simp)]
    exact heap_alloc_new w _
  have c0 := cell_of_row w1 w.heap.size 0 _ _ _ hrow
  have c1 := cell_of_row w1 w.heap.size 1 _ _ _ hrow
  have c2 := cell_of_row w1 w.heap.size 2 _ _ _ hrow
  have c3 := cell_of_row w1 w.heap.size 3 _ _ _ hrow
  have f0 := frozen_of_row w1 w.heap.size 0 _ _ hrow
  have f1 := frozen_of_row w1 w.heap.size 1 _ _ hrow
  have f2 := frozen_of_row w1 w.heap.size 2 _ _ hrow
  have f3 := frozen_of_row w1 w.heap.size 3 _ _ hrow
  have HROW := Lib.hid hrow
  simp only [List.getElem?_toArray, List.getElem?_cons_zero, List.getElem?_cons_succ] at c0 c1 c2 c3
  clear hR hb HV t1 t2 t3 t4 hrow
  go_wp2_with fail
  (try simp only [Exit.inBlock, Exit.then])
  have r0 := heap_setCell_same w1 w.heap.size 0 _ _ (.int .i64 5) HROW.out
  have r1 := heap_setCell_same _ w.heap.size 1 _ _ (.int .i64 0) r0
  have r2 := heap_setCell_same _ w.heap.size 2 _ _ (.string ⟨#[]⟩) r1
  have r3 := heap_setCell_same _ w.heap.size 3 _ _ (.slice A2 x.f3.length n2) r2
  refine bodyPost_ret (results_cell_row (P := Tryd.prog) rfl _ _ w.heap.size 52 _ (0, 0) _ rfl r3 Tryd.underlying52 rfl (by kernel_rfl)) rfl ?_
  refine ⟨.slice A2 x.f3.length n2, rfl, ?_, below_set (below_set (below_set (below_set ((one_below _ _).trans (HB.out.mono (by simp))) (Nat.le_refl _)) (Nat.le_refl _)) (Nat.le_refl _)) (Nat.le_refl _)⟩
  have hw : w.heap.size < (w.alloc (.cells #[.int .i64 0, .int .i64 0, .string ⟨#[]⟩, .slice none 0 0] 52)).heap.size := by
    show w.heap.size < (w.heap.push _).size
    simp
  refine Kd.R_lower (Kd.R_mono (Kd.R_move (Kd.R_bound HR.out) (fun k hk => ?_)) (fun _ hk => hk.1)) (Nat.le_of_lt hw)
  have hk2 : k ≠ w.heap.size := by have := hk.2.1; omega
  rw [heap_setCell_other _ _ k _ hk2, heap_setCell_other _ _ k _ hk2, heap_setCell_other _ _ k _ hk2, heap_setCell_other _ _ k _ hk2]
/-- valueOf of what goOf made of a right value. -/
theorem right_backs (x : S52) (hx : rightR x) (hl : x.f3.length ≤ 1048576) : Backs kG x := by
  rcases hx with h | ⟨h5, h1, h2, ha⟩
  · intro u w hK
    have hK' : (if x.f0 = 5 then ∃ A c, [u] = [.iface 84 (.slice A x.f3.length c)] ∧ x.f3.length ≤ c ∧ kGA.C w A x.f3.length x.f3 else [u] = [encG x]) := hK
    rw [if_neg (by have := h.2.1; omega)] at hK'
    injection hK' with hu
    rw [hu]
    exact valueOf_atom x h w
  · exact valueOf_list x h5 h1 h2 ha hl
theorem valuesOf_right (l : List S52) (h : ∀ x ∈ l, rightR x ∧ x.f3.length ≤ 1048576) (hl : l.length ≤ 1048576) (A : Option Addr) (c : Nat) (w : World) (hC : kG.C w A l.length l) :
    Calls Tryd.prog 58 #[.slice A l.length c] w fun e w' => ∃ v : Value, e = .returned v ∧ k52.R 52 w' w.heap.size (fun _ => True) v l ∧ Below w.heap.size w w' :=
  valuesOf_of kG rfl l (fun x hx => right_backs x (h x hx).1 (h x hx).2) hl A c w hC
end Go.Proofs.YtnmhoghmhglimaaDoor.H
/-
  CONTRACTS: a map from names to interface values (as goOf makes them): made, looked up, stored; and impl's mapOf of right arguments with different names.
-/
namespace Go.Proofs.YtnmhoghmhglimaaDoor.H
open Go.RowKit Go.Proofs.YtnmhoghmhglimaaDoorW.PrintWords Go.Proofs.YtnmhoghmhglimaaDoorW.PrintLast Go.Proofs.YtnmhoghmhglimaaDoorW.PrintMore Go.Proofs.YtnmhoghmhglimaaDoor.QN
open Go.Maps (Keyed)
set_option linter.unusedVariables false
set_option linter.unusedSimpArgs false

/-- An element as it lies, held. -/
def rdv (v : Value) : Option (DataW Value × List MemPlace) := some (.held v, [])
def keyL (s : ByteArray) : Lit := .string s.data.toList
theorem keyL_inj {s t : ByteArray} (h : keyL s = keyL t) : s = t := by
  unfold keyL at h
  injection h with h
  exact ByteArray.ext (Array.toList_inj.1 h)
theorem mkeyed : Keyed Tryd.prog 9 := Maps.string_keyed Tryd.underlying9
theorem key_at (s : ByteArray) (h : s.size ≤ maxLen) : keyOf Tryd.prog 9 (.string s) = some (keyL s) := WideMaps.keyOf_string_mk Tryd.underlying9 h
theorem key_lit (s : ByteArray) (h : s.size ≤ maxLen) : WideAt.IsKeyLit (keyL s) := mkeyed.key (key_at s h)
theorem zero_iface (w : World) : (zeroValue 20).run Tryd.prog w = .ok .nilIface w := by
  obtain ⟨i, hi, hz⟩ := Option.map_eq_some_iff.1 (show (Tryd.prog.info? 20).map (·.zero) = some (some .nilIface) by kernel_rfl)
  simp [zeroValue, typeInfo, hi, hz, Result.andThen]
def mz : DataW Value := .held .nilIface
/-- Block b of w is a map that has these arguments, each as goOf made it (in blocks that are ok), and no other names. -/
structure MapIs (ok : Nat → Prop) (w : World) (b : Nat) (l : List S54) : Prop where
  own : ∃ D n, w.ownsMap Tryd.prog 9 rdv b n D ∧ n ≤ l.length ∧ (∀ x ∈ l, ∃ u, D.atKey (keyL x.f0) mz = .held u ∧ Maps.has D (keyL x.f0) = true ∧ kG.M w 0 ok x.f1 [u]) ∧ ∀ s, (∀ x ∈ l, x.f0 ≠ s) → Maps.has D (keyL s) = false
theorem MapIs.made (ok : Nat → Prop) (w : World) : MapIs ok (w.alloc (.map #[] 0)) w.heap.size [] :=
  ⟨_, 0, World.ownsMap_made w _ _ _, Nat.le_refl _, fun x hx => (by cases hx), fun s _ => rfl⟩
theorem MapIs.lt {ok : Nat → Prop} {w : World} {b : Nat} {l : List S54} (h : MapIs ok w b l) : b < w.heap.size := by
  obtain ⟨D, n, ho, _⟩ := h
  exact ho.lt
theorem MapIs.mono {ok ok' : Nat → Prop} {w : World} {b : Nat} {l : List S54} (h : MapIs ok w b l) (hk : ∀ k, ok k → k < w.heap.size → ok' k) : MapIs ok' w b l := by
  obtain ⟨D, n, ho, hn, hx, hz⟩ := h
  refine ⟨D, n, ho, hn, fun x hl => ?_, hz⟩
  obtain ⟨u, h1, h2, h3⟩ := hx x hl
  exact ⟨u, h1, h2, kG.M_mono (fun k hq => hk k hq.1 hq.2.2.1) (kG.M_bound h3)⟩
theorem MapIs.move {ok : Nat → Prop} {w w' : World} {b : Nat} {l : List S54} (h : MapIs ok w b l) (hb : w'.heap[b]? = w.heap[b]?) (hm : ∀ k, ok k → k < w.heap.size → w'.heap[k]? = w.heap[k]?) : MapIs ok w' b l := by
  obtain ⟨D, n, ho, hn, hx, hz⟩ := h
  have hlt := ho.lt
  obtain ⟨es, clock, he, F, hs, hD⟩ := ho
  refine ⟨D, n, ⟨es, clock, hb.trans he, F, hs, hD⟩, hn, fun x hl => ?_, hz⟩
  obtain ⟨u, h1, h2, h3⟩ := hx x hl
  exact ⟨u, h1, h2, Kd.M_step h3 (fun k hk hlt => hm k hk hlt)⟩
theorem MapIs.step {ok : Nat → Prop} {w w' : World} {b : Nat} {l : List S54} (h : MapIs ok w b l) (hm : ∀ k, k < w.heap.size → w'.heap[k]? = w.heap[k]?) : MapIs ok w' b l :=
  h.move (hm b h.lt) (fun k _ hk => hm k hk)
theorem MapIs.below {ok : Nat → Prop} {w w' : World} {b : Nat} {l : List S54} (h : MapIs ok w b l) (hb : Below w.heap.size w w') : MapIs ok w' b l := h.step (fun k hk => hb.block k hk)
/-- A row has grown, none of the map's. -/
theorem MapIs.grown {ok : Nat → Prop} {w w' : World} {b : Nat} {l : List S54} (h : MapIs ok w b l) {row : Option Nat} (hg : w.grownBy w' row) (hb : some b ≠ row) (hok : ∀ k, ok k → some k ≠ row) : MapIs ok w' b l :=
  h.move (hg.block b h.lt hb) (fun k hk hlt => hg.block k hlt (hok k hk))
theorem look_miss {ok : Nat → Prop} {w : World} {b : Nat} {l : List S54} (h : MapIs ok w b l) (s : ByteArray) (hx : ∀ x ∈ l, x.f0 ≠ s) (hs : s.size ≤ maxLen) :
    (Instr.lookup 81 (.map (some b)) (.string s) true).run Tryd.prog w = .ok (.tuple #[.nilIface, .bool false]) w := by
  obtain ⟨D, n, ho, hn, hl, hz⟩ := h
  obtain ⟨v, ps, hrun, hv⟩ := ho.look_ok mkeyed Tryd.underlying81 (zero_iface w) (zd := mz) (zp := []) rfl (key_at s hs)
  rw [Maps.atKey_of_not_has (hz s hx)] at hv
  have e : v = .nilIface := by
    simp only [rdv, mz, Option.some.injEq, Prod.mk.injEq, DataW.held.injEq] at hv
    exact hv.1
  subst e
  rw [hz s hx] at hrun
  exact hrun
theorem map_store {ok : Nat → Prop} {w : World} {b : Nat} {l : List S54} (h : MapIs ok w b l) (x : S54) (u : Value) (hx : ∀ y ∈ l, y.f0 ≠ x.f0) (hs : x.f0.size ≤ maxLen) (hn : l.length < maxLen) (hu : kG.M w 0 ok x.f1 [u]) :
    ∃ w', (Instr.mapUpdate 81 (.map (some b)) (.string x.f0) u).run Tryd.prog w = .ok () w' ∧ MapIs ok w' b (l ++ [x]) ∧ w.grownBy w' (some b) := by
  obtain ⟨D, n, ho, hle, hl, hz⟩ := h
  obtain ⟨w', hrun, ho2, hg⟩ := ho.update mkeyed Tryd.underlying81 (Nat.lt_of_le_of_lt hle hn) (key_at x.f0 hs) (show rdv u = some (.held u, []) from rfl)
  have hkeep : ∀ y v, kG.M w 0 ok y [v] → kG.M w' 0 ok y [v] := fun y v hM => by
    refine kG.M_mono (fun _ hk => hk.1) (kG.M_move (fun k hk => ?_) (kG.M_bound hM))
    obtain ⟨_, _, hlt, q, _, cells, hc⟩ := hk
    refine hg.block k hlt (fun e => ?_)
    injection e with e
    subst e
    obtain ⟨es, clock, hb, _⟩ := ho
    rw [hc] at hb
    cases hb
  have hM := ho.isMap
  refine ⟨w', hrun, ⟨_, _, ho2, by simp; omega, fun y hy => ?_, fun s hsx => ?_⟩, hg⟩
  · rcases List.mem_append.1 hy with hy | hy
    · obtain ⟨v, h1, h2, h3⟩ := hl y hy
      have hne : keyL y.f0 ≠ keyL x.f0 := fun e => hx y hy (keyL_inj e)
      exact ⟨v, (Maps.atKey_put_other hne _ _).trans h1, (Maps.has_put_other hne _).trans h2, hkeep _ _ h3⟩
    · obtain rfl := List.mem_singleton.1 hy
      exact ⟨u, Maps.atKey_put_same hM (key_lit _ hs) _ _, Maps.has_put_same hM (key_lit _ hs) _, hkeep _ _ hu⟩
  · have hne : keyL s ≠ keyL x.f0 := fun e => hsx x (by simp) (keyL_inj e).symm
    exact (Maps.has_put_other hne _).trans (hz s (fun y hy => hsx y (by simp [hy])))
/-- The same of a later world in which the map's block stands. -/
theorem look_hit_at {ok : Nat → Prop} {w w' : World} {b : Nat} {l : List S54} (h : MapIs ok w b l) (hb : w'.heap[b]? = w.heap[b]?) (x : S54) (hx : x ∈ l) (hs : x.f0.size ≤ maxLen) :
    ∃ u, (Instr.lookup 81 (.map (some b)) (.string x.f0) true).run Tryd.prog w' = .ok (.tuple #[u, .bool true]) w' ∧ kG.K w x.f1 [u] := by
  obtain ⟨D, n, ho, hn, hl, hz⟩ := h
  obtain ⟨es, clock, he, F, hss, hD⟩ := ho
  have ho' : w'.ownsMap Tryd.prog 9 rdv b n D := ⟨es, clock, hb.trans he, F, hss, hD⟩
  obtain ⟨u, h1, h2, h3⟩ := hl x hx
  obtain ⟨v, ps, hrun, hv⟩ := ho'.look_ok mkeyed Tryd.underlying81 (zero_iface w') (zd := mz) (zp := []) rfl (key_at x.f0 hs)
  rw [h1] at hv
  have e : v = u := by
    simp only [rdv, Option.some.injEq, Prod.mk.injEq, DataW.held.injEq] at hv
    exact hv.1
  subst e
  rw [h2] at hrun
  exact ⟨v, hrun, kG.K_of_M h3⟩
theorem look_miss_at {ok : Nat → Prop} {w w' : World} {b : Nat} {l : List S54} (h : MapIs ok w b l) (hb : w'.heap[b]? = w.heap[b]?) (s : ByteArray) (hx : ∀ x ∈ l, x.f0 ≠ s) (hs : s.size ≤ maxLen) :
    (Instr.lookup 81 (.map (some b)) (.string s) true).run Tryd.prog w' = .ok (.tuple #[.nilIface, .bool false]) w' := by
  obtain ⟨D, n, ho, hn, hl, hz⟩ := h
  obtain ⟨es, clock, he, F, hss, hD⟩ := ho
  have ho' : w'.ownsMap Tryd.prog 9 rdv b n D := ⟨es, clock, hb.trans he, F, hss, hD⟩
  obtain ⟨v, ps, hrun, hv⟩ := ho'.look_ok mkeyed Tryd.underlying81 (zero_iface w') (zd := mz) (zp := []) rfl (key_at s hs)
  rw [Maps.atKey_of_not_has (hz s hx)] at hv
  have e : v = .nilIface := by
    simp only [rdv, mz, Option.some.injEq, Prod.mk.injEq, DataW.held.injEq] at hv
    exact hv.1
  subst e
  rw [hz s hx] at hrun
  exact hrun
section
variable {ops : Array Oper} {rest : List Oper} {o : Oper} {a : Act} {Q : Exit → Act → World → Prop}
theorem wp_look_miss {ok : Nat → Prop} (w : World) (hg : o.guard = none) (m x : Operand) (hop : o.op = Op.lookup 81 m x true) (b : Nat) (l : List S54) (s : ByteArray) (hm : a.eval m = .map (some b)) (hx : a.eval x = .string s)
    (h : MapIs ok w b l) (hno : ∀ x ∈ l, x.f0 ≠ s) (hs : s.size ≤ maxLen) (hK : wpList Tryd.prog ops Q rest (a.put o.dst (.tuple #[.nilIface, .bool false])) w) : wpList Tryd.prog ops Q (o :: rest) a w := by
  refine wpList_plain hg fun K' hK' => ?_
  have hrun := look_miss h s hno hs
  unfold Oper.wp
  simp [execOp, hop, hm, hx, hrun, Result.andThen]
  exact hK' _ _ hK
theorem wp_miss_at {ok : Nat → Prop} (w0 w : World) (hg : o.guard = none) (m x : Operand) (hop : o.op = Op.lookup 81 m x true) (b : Nat) (l : List S54) (s : ByteArray) (hm : a.eval m = .map (some b)) (hx : a.eval x = .string s)
    (h : MapIs ok w0 b l) (hb : w.heap[b]? = w0.heap[b]?) (hno : ∀ x ∈ l, x.f0 ≠ s) (hs : s.size ≤ maxLen) (hK : wpList Tryd.prog ops Q rest (a.put o.dst (.tuple #[.nilIface, .bool false])) w) : wpList Tryd.prog ops Q (o :: rest) a w := by
  refine wpList_plain hg fun K' hK' => ?_
  have hrun := look_miss_at h hb s hno hs
  unfold Oper.wp
  simp [execOp, hop, hm, hx, hrun, Result.andThen]
  exact hK' _ _ hK
theorem wp_hit_at {ok : Nat → Prop} (w0 w : World) (hg : o.guard = none) (m x : Operand) (hop : o.op = Op.lookup 81 m x true) (b : Nat) (l : List S54) (y : S54) (s : ByteArray) (hm : a.eval m = .map (some b)) (hx : a.eval x = .string s)
    (h : MapIs ok w0 b l) (hb : w.heap[b]? = w0.heap[b]?) (hy : y ∈ l) (hys : y.f0 = s) (hs : s.size ≤ maxLen) (hK : ∀ u, kG.K w0 y.f1 [u] → wpList Tryd.prog ops Q rest (a.put o.dst (.tuple #[u, .bool true])) w) : wpList Tryd.prog ops Q (o :: rest) a w := by
  subst hys
  refine wpList_plain hg fun K' hK' => ?_
  obtain ⟨u, hrun, hu⟩ := look_hit_at h hb y hy hs
  unfold Oper.wp
  simp [execOp, hop, hm, hx, hrun, Result.andThen]
  exact hK' _ _ (hK u hu)
theorem wp_store {ok : Nat → Prop} (w : World) (hg : o.guard = none) (m x v : Operand) (hop : o.op = Op.mapUpdate 81 m x v) (b : Nat) (l : List S54) (y : S54) (u : Value) (hm : a.eval m = .map (some b)) (hx : a.eval x = .string y.f0) (hv : a.eval v = u)
    (h : MapIs ok w b l) (hno : ∀ x ∈ l, x.f0 ≠ y.f0) (hs : y.f0.size ≤ maxLen) (hn : l.length < maxLen) (hu : kG.M w 0 ok y.f1 [u])
    (hK : ∀ w', MapIs ok w' b (l ++ [y]) → w.grownBy w' (some b) → wpList Tryd.prog ops Q rest (a.put o.dst undef) w') : wpList Tryd.prog ops Q (o :: rest) a w := by
  refine wpList_plain hg fun K' hK' => ?_
  obtain ⟨w', hrun, h1, h2⟩ := map_store h y u hno hs hn hu
  unfold Oper.wp
  simp [execOp, hop, hm, hx, hv, hrun, Result.andThen]
  exact hK' _ _ (hK w' h1 h2)
end
/-- Arguments that mapOf takes: right values, names that are no longer than a text may be, and all different. -/
def ArgsOk (l : List S54) : Prop := l.length ≤ 1048576 ∧ (∀ x ∈ l, rightR x.f1 ∧ x.f1.f3.length ≤ 1048576 ∧ x.f0.size ≤ 1048576) ∧ l.Pairwise (fun a b => a.f0 ≠ b.f0)
theorem args_at (l : List S54) (P : S54 → Prop) (h : ∀ x ∈ l, P x) (i : Int) (h0 : 0 ≤ i) (h1 : i < l.length) : P (rd_T54 l i) := by
  unfold rd_T54
  rw [List.getD_eq_getElem?_getD, List.getElem?_eq_getElem (show i.toNat < l.length by omega)]
  exact h _ (List.getElem_mem _)
theorem args_next (l : List S54) (i : Int) (h0 : 0 ≤ i) (h1 : i < l.length) : l.take (i + 1).toNat = l.take i.toNat ++ [rd_T54 l i] := by
  unfold rd_T54
  rw [show (i + 1).toNat = i.toNat + 1 by omega, List.take_succ_eq_append_getElem (by omega), List.getD_eq_getElem?_getD, List.getElem?_eq_getElem (show i.toNat < l.length by omega)]
  rfl
theorem args_new (l : List S54) (hd : l.Pairwise (fun a b => a.f0 ≠ b.f0)) (i : Int) (h0 : 0 ≤ i) (h1 : i < l.length) : ∀ x ∈ l.take i.toNat, x.f0 ≠ (rd_T54 l i).f0 := by
  have hlt : i.toNat < l.length := by omega
  have e : rd_T54 l i = l[i.toNat] := by
    unfold rd_T54
    rw [List.getD_eq_getElem?_getD, List.getElem?_eq_getElem hlt]
    rfl
  rw [e]
  intro x hx
  obtain ⟨j, hj, rfl⟩ := List.mem_iff_getElem.1 hx
  rw [List.length_take] at hj
  rw [List.getElem_take]
  exact List.pairwise_iff_getElem.1 hd j i.toNat (by omega) hlt (by omega)
def MapPost (l : List S54) (w : World) (e : Ending) (w' : World) : Prop := ∃ b, e = .returned (.tuple #[.map (some b), .bool true]) ∧ MapIs (fun k => w.heap.size ≤ k) w' b l ∧ w.heap.size ≤ b ∧ Below w.heap.size w w'
set_option maxHeartbeats 3200000 in
set_option maxRecDepth 100000 in
theorem mapOf_right (l : List S54) (h : ArgsOk l) (A : Option Addr) (c : Nat) (w : World) (hC : k54.C w A l.length l) :
    Calls Tryd.prog 56 #[.slice A l.length c] w (MapPost l w) := by
  have HC := Lib.hid hC
  have HL := Lib.hid h.1
  have HR := Lib.hid h.2.1
  have HD := Lib.hid h.2.2
  clear h hC
  have hu := Tryd.underlying54
  have hu2 := Tryd.underlying52
  have hmm := @run_makeMap Tryd.prog
  go_enter Tryd.func56, Tryd.ntmps56
  go_wp2_with fail
  go_loopg [14] l.length (fun g v14 w' => ∃ (i : Int), v14 = .int .i64 i ∧ Hid (0 ≤ i ∧ i + g = l.length) ∧ Hid (MapIs (fun k => w.heap.size ≤ k) w' w.heap.size (l.take i.toNat)) ∧ Below w.heap.size w w')
  case atStart => exact ⟨0, rfl, Lib.hid ⟨by omega, by omega⟩, Lib.hid (MapIs.made _ w), one_below _ _⟩
  case round =>
    obtain ⟨i, rfl, HI, HO, HB⟩ := hrel
    have hi := HI.out
    cases gk with
    | zero =>
      have hge : ¬ i < (l.length : Int) := by omega
      have hall : l.take i.toNat = l := List.take_of_length_le (by omega)
      have HO2 := HO.out
      rw [hall] at HO2
      have HF := Lib.hid HO2
      clear hi hall HO2
      go_wp2_with fail
      go_ret2
      exact ⟨_, rfl, HF.out, Nat.le_refl _, HB⟩
    | succ g =>
      have hlt : i < (l.length : Int) := by omega
      have h0 : 0 ≤ i := hi.1
      obtain ⟨ad, B3, b3, rfl, q0, q1, q2, q3, q4, ql, qC⟩ := at_T54 (Kd.C_below HC.out HB) i h0 hlt
      have HX := Lib.hid (args_at l _ HR.out i h0 hlt)
      have HT := Lib.hid (args_next l i h0 hlt)
      have HN := Lib.hid (args_new l HD.out i h0 hlt)
      have HQ := Lib.hid qC
      have HQL := Lib.hid ql
      have HLT := Lib.hid HB.size
      clear qC ql hi
      generalize rd_T54 l i = x at q0 q1 q2 q3 q4 HX HQ HQL HT HN
      go_wp2_with fail
      refine (right_gives x.f1 HX.out.1 HX.out.2.1 B3 b3 _ (Kd.C_below HQ.out (one_below _ _)) HQL.out).mono ?_
      rintro e w2 ⟨u, rfl, hM, hb⟩
      have HB2 := Lib.hid ((below_alloc HB _).trans (hb.mono (below_alloc HB _).size))
      have HO2 := Lib.hid ((HO.out.below (one_below _ _)).below hb)
      have HWR := (below_alloc HB (.cells #[.string x.f0, .int .i64 x.f1.f0, .int .i64 x.f1.f1, .string x.f1.f2, .slice B3 x.f1.f3.length b3] 54)).size
      have HM2 := Lib.hid (kG.M_lower (base' := 0) (Nat.zero_le _) (kG.M_mono (ok' := fun k => w.heap.size ≤ k) (fun k hk => Nat.le_trans HWR hk.2.1) (kG.M_bound hM)))
      have hrow : w2.heap[wr.heap.size]? = some (.cells #[.string x.f0, .int .i64 x.f1.f0, .int .i64 x.f1.f1, .string x.f1.f2, .slice B3 x.f1.f3.length b3] 54) := by
        rw [hb.block wr.heap.size (by show wr.heap.size < (wr.heap.push _).size; simp)]
        exact heap_alloc_new wr _
      have c0 := cell_of_row w2 wr.heap.size 0 _ _ _ hrow
      simp only [List.getElem?_toArray, List.getElem?_cons_zero, List.getElem?_cons_succ] at c0
      have hs : x.f0.size ≤ maxLen := Nat.le_trans HX.out.2.2 (by simp only [maxLen]; omega)
      have HS := Lib.hid hs
      have HIF := Lib.hid (kG_if _ _ _ (kG.K_of_M hM))
      clear hM hb hrow hs HWR
      rcases HIF.out with rfl | ⟨t, v, rfl⟩
      all_goals
        go_wp2_with (first | (at_lookup; refine wp_look_miss w2 rfl (.tmp 25) (.tmp 27) rfl w.heap.size (l.take i.toNat) x.f0 rfl rfl HO2.out HN.out HS.out ?_) | (at_mapUpdate; refine wp_store w2 rfl (.tmp 36) (.tmp 38) (.tmp 39) rfl w.heap.size (l.take i.toNat) x _ rfl rfl rfl HO2.out HN.out HS.out (by rw [List.length_take]; have := HL.out; simp only [maxLen]; omega) HM2.out ?_))
        intro w3 hM3 hg3
        have HM3 := Lib.hid (by rw [← HT.out] at hM3; exact hM3)
        have HB3 := Lib.hid (HB2.out.grown hg3 HB2.out.size (fun k hk => by injection hk with hk; omega))
        clear hM3 hg3
        have hl := HL.out
        go_wp2_with fail
        go_roundg g
        case measure => omega
        case rel => exact ⟨i + 1, rfl, Lib.hid (by have := HI.out; omega), HM3.out, HB3.out⟩
end Go.Proofs.YtnmhoghmhglimaaDoor.H
/-
  CONTRACTS: sqlx's bindMapArgs, bindAnyArgs, bindMap over maps as mapOf makes them: the values of names by a list of arguments, and a text's names by it.
-/
namespace Go.Proofs.YtnmhoghmhglimaaDoor.H
open Go.RowKit Go.Proofs.YtnmhoghmhglimaaDoorW.PrintWords Go.Proofs.YtnmhoghmhglimaaDoorW.PrintLast Go.Proofs.YtnmhoghmhglimaaDoorW.PrintMore Go.Proofs.YtnmhoghmhglimaaDoor.QN
set_option linter.unusedVariables false
set_option linter.unusedSimpArgs false

def findA (l : List S54) (s : ByteArray) : Option S54 := l.find? fun x => decide (x.f0 = s)
/-- The values of names; none: one has none. -/
def valsOf : List ByteArray → List S54 → Option (List S52)
  | [], _ => some []
  | s :: ss, l => match findA l s with
    | some x => (valsOf ss l).map (x.f1 :: ·)
    | none => none
theorem findA_some {l : List S54} {s : ByteArray} {x : S54} (h : findA l s = some x) : x ∈ l ∧ x.f0 = s :=
  ⟨List.mem_of_find?_eq_some h, by simpa using List.find?_some h⟩
theorem findA_none {l : List S54} {s : ByteArray} (h : findA l s = none) : ∀ x ∈ l, x.f0 ≠ s := fun x hx e => by
  have := List.find?_eq_none.1 h x hx
  simp [e] at this
theorem valsOf_len : ∀ (names : List ByteArray) (l : List S54) (vs : List S52), valsOf names l = some vs → vs.length = names.length
  | [], l, vs, h => by
    injection h with h
    rw [← h]
    rfl
  | s :: ss, l, vs, h => by
    rw [valsOf] at h
    cases hf : findA l s with
    | none =>
      rw [hf] at h
      cases h
    | some x =>
      rw [hf] at h
      obtain ⟨us, h1, h2⟩ := Option.map_eq_some_iff.1 h
      rw [← h2, List.length_cons, List.length_cons, valsOf_len ss l us h1]
theorem valsOf_mem : ∀ (names : List ByteArray) (l : List S54) (vs : List S52), valsOf names l = some vs → ∀ v ∈ vs, ∃ x ∈ l, x.f1 = v
  | [], l, vs, h => by
    injection h with h
    rw [← h]
    intro v hv
    cases hv
  | s :: ss, l, vs, h => by
    rw [valsOf] at h
    cases hf : findA l s with
    | none =>
      rw [hf] at h
      cases h
    | some x =>
      rw [hf] at h
      obtain ⟨us, h1, h2⟩ := Option.map_eq_some_iff.1 h
      rw [← h2]
      intro v hv
      rcases List.mem_cons.1 hv with rfl | hv
      · exact ⟨x, (findA_some hf).1, rfl⟩
      · exact valsOf_mem ss l us h1 v hv
/-- A row of interface values of the call's own: these values, as they lie in w0. -/
def ARow (w0 : World) (B : Nat) (vs : List S52) (v : Value) (w : World) : Prop := OwnRow (kG.K w0) 20 1 w B v vs
theorem ARow.got {w0 w : World} {B : Nat} {vs : List S52} {v : Value} (h : ARow w0 B vs v w) (hb : Below w0.heap.size w0 w) : ∃ A c, v = .slice A vs.length c ∧ vs.length ≤ c ∧ kG.C w A vs.length vs := by
  obtain ⟨A, c, e, hl, hr⟩ := OwnRow.reads h
  exact ⟨A, c, e, hl, hr.imp_ (Below.refl _ _) (fun _ _ hp => kG.K_below hb hp)⟩
section
variable {ops : Array Oper} {rest : List Oper} {o : Oper} {a : Act} {Q : Exit → Act → World → Prop}
theorem make_any (w0 w : World) (B : Nat) (hg : o.guard = none) (l c : Operand) (hop : o.op = Op.makeSlice 84 l c)
    (C : Int) (n : Nat) (hl : a.eval l = .int .i64 0) (hc : a.eval c = .int .i64 C) (hC : C = (n : Int)) (hn : n ≤ 1099511627776) (hB : B ≤ w.heap.size)
    (hK : ∀ w', ARow w0 B [] (.slice (some ⟨w.heap.size, 0, none⟩) 0 n) w' → w.grownBy w' none → wpList Tryd.prog ops Q rest (a.put o.dst (.slice (some ⟨w.heap.size, 0, none⟩) 0 n)) w') :
    wpList Tryd.prog ops Q (o :: rest) a w := by
  obtain ⟨i0, hi, hz0, hz1, hz2⟩ := info_parts info_iface
  exact wpList_make_own w hg l c 84 hop B 20 i0 _ 1 Tryd.underlying84 hi hz0 hz1 .i64 .i64 C n hl hc hC (by rw [hz2]; omega) (by simp only [maxLen]; omega) hB (fun w' h1 h2 => hK w' ⟨[], h1, Reps.none _ _⟩ h2)
end
def BindPost (w0 : World) (B : Nat) (r : Option (List S52)) (e : Ending) (w' : World) : Prop := match r with
  | some vs => ∃ v, e = .returned (.tuple #[v, .nilIface]) ∧ ARow w0 B vs v w'
  | none => ∃ v t x, e = .returned (.tuple #[v, .iface t x])
theorem below_none {w w' : World} {B : Nat} (hg : w.grownBy w' none) (hB : B ≤ w.heap.size) {w1 : World} (h : Below B w1 w) : Below B w1 w' := h.grown hg hB (fun k hk => by cases hk)
set_option maxHeartbeats 3200000 in
set_option maxRecDepth 100000 in
theorem bindMapArgs_is (names : List ByteArray) (l : List S54) (ok : Nat → Prop) (w0 w : World) (b : Nat) (hM : MapIs ok w0 b l) (hB : Below w0.heap.size w0 w) (hn : names.length ≤ 1048576) (hs : ∀ s ∈ names, s.size ≤ maxLen)
    (A : Option Addr) (c : Nat) (hC : Kd.C Kd.string w A names.length names) :
    Calls Tryd.prog 94 #[.slice A names.length c, .map (some b)] w fun e w' => Below w.heap.size w w' ∧ BindPost w0 w.heap.size (valsOf names l) e w' := by
  have HM := Lib.hid hM
  have HB0 := Lib.hid hB
  have HS := Lib.hid hs
  have HC := Lib.hid hC
  obtain ⟨R, hR⟩ : ∃ R, R = valsOf names l := ⟨_, rfl⟩
  rw [← hR]
  have HR := Lib.hid hR.symm
  clear hM hB hs hC hR
  go_enter Tryd.func94, Tryd.ntmps94
  go_wp2_with (first | (at_make; refine make_any w0 w w.heap.size rfl _ _ rfl _ names.length rfl rfl rfl (by omega) (Nat.le_refl _) ?_; intro w1 hO1 hg1; refine Hid.out ?_))
  refine Lib.hid ?_
  have HO1 := Lib.hid hO1
  have HB1 := below_none hg1 (Nat.le_refl _) (Below.refl w.heap.size w)
  clear hO1 hg1
  go_wp2_with fail
  go_loopg [6, 16] names.length (fun g v6 v16 w' => ∃ (i : Int) (vs : List S52), v16 = .int .i64 i ∧ Hid (0 ≤ i ∧ i + g = names.length) ∧ Hid (ARow w0 w.heap.size vs v6 w' ∧ vs.length = i.toNat) ∧ Hid ((valsOf (names.drop i.toNat) l).map (vs ++ ·) = R) ∧ Below w.heap.size w w')
  case atStart => exact ⟨0, [], rfl, Lib.hid ⟨by omega, by omega⟩, Lib.hid ⟨HO1.out, rfl⟩, Lib.hid (by rw [← HR.out]; simp), HB1⟩
  case round =>
    obtain ⟨i, vs, rfl, HI, HO, HV, HB⟩ := hrel
    have hi := HI.out
    cases gk with
    | zero =>
      have hge : ¬ i < (names.length : Int) := by omega
      have hdrop : names.drop i.toNat = [] := List.drop_eq_nil_of_le (by omega)
      have hv := HV.out
      rw [hdrop] at hv
      have HF : Hid (R = some vs) := Lib.hid (by rw [← hv]; simp [valsOf])
      clear hi hdrop hv
      go_wp2_with fail
      go_ret2
      refine ⟨HB, ?_⟩
      rw [HF.out]
      exact ⟨_, rfl, HO.out.1⟩
    | succ g =>
      have hlt : i < (names.length : Int) := by omega
      have h0 : 0 ≤ i := hi.1
      obtain ⟨ad, rfl, _⟩ := (Kd.C_below HC.out HB).2.2 (by omega)
      have hcell := Kd.foot_string (Kd.C_below HC.out HB) i h0 hlt
      have hmem : rdOf ByteArray.empty names i ∈ names := by
        unfold rdOf
        rw [List.getD_eq_getElem?_getD, List.getElem?_eq_getElem (show i.toNat < names.length by omega)]
        exact List.getElem_mem _
      have HSZ := Lib.hid (HS.out _ hmem)
      have hdrop : names.drop i.toNat = rdOf ByteArray.empty names i :: names.drop (i + 1).toNat := by
        unfold rdOf
        rw [show (i + 1).toNat = i.toNat + 1 by omega, List.getD_eq_getElem?_getD, List.getElem?_eq_getElem (show i.toNat < names.length by omega)]
        exact List.drop_eq_getElem_cons _
      have hv := HV.out
      rw [hdrop, valsOf] at hv
      have hblk := (HB0.out.trans (HB.mono HB0.out.size)).block b HM.out.lt
      have HBLK := Lib.hid hblk
      generalize rdOf ByteArray.empty names i = s at hcell HSZ hv
      cases hf : findA l s with
      | none =>
        rw [hf] at hv
        have HF : Hid (R = none) := Lib.hid (by rw [← hv]; rfl)
        have HN := Lib.hid (findA_none hf)
        clear hv hf hmem hdrop hblk hi
        go_wp2_with (first | (at_lookup; refine wp_miss_at w0 _ rfl (.tmp 21) (.tmp 22) rfl b l s rfl rfl HM.out HBLK.out HN.out HSZ.out ?_))
        refine (errors_new _ _).mono ?_
        rintro e w2 ⟨⟨t, x, rfl⟩, hb⟩
        go_wp2_with fail
        go_ret2
        refine ⟨HB.trans (hb.mono HB.size), ?_⟩
        rw [HF.out]
        exact ⟨_, _, _, rfl⟩
      | some x =>
        rw [hf] at hv
        obtain ⟨hx1, hx2⟩ := findA_some hf
        have HX1 := Lib.hid hx1
        have HX2 := Lib.hid hx2
        have HV2 : Hid ((valsOf (names.drop (i + 1).toNat) l).map ((vs ++ [x.f1]) ++ ·) = R) := Lib.hid (by rw [← hv]; cases valsOf (names.drop (i + 1).toNat) l <;> simp)
        clear hv hf hmem hdrop hblk hi hx1 hx2
        go_wp2_with (first | (at_lookup; refine wp_hit_at w0 _ rfl (.tmp 21) (.tmp 22) rfl b l x s rfl rfl HM.out HBLK.out HX1.out HX2.out HSZ.out ?_))
        intro u hu
        have HU := Lib.hid hu
        have HIF := Lib.hid (kG_if _ _ _ hu)
        have hbase := HB.size
        have hvl : vs.length ≤ 1048576 := by have := HO.out.2; have := HI.out; omega
        clear hu
        rcases HIF.out with rfl | ⟨t, v, rfl⟩
        all_goals
          go_wp2_with (first | ((with_reducible refine gate_builtin (b := .append) (xs := #[.tmp 30, .tmp 32]) rfl ?_); at_builtin; refine OwnRow.append (R := kG.K w0) (w0 := w) w.heap.size rfl (.tmp 30) (.tmp 32) 84 20 .nilIface 1 16 rfl Tryd.underlying84 info_iface rfl (by decide) (by decide) u6 vs x.f1 [_] rfl rfl HU.out rfl (kG.K_one HU.out) HO.out.1 HB hbase (by omega) ?_))
          intro v1 w1 hO1 hB1 _ _
          have HO3 : Hid (ARow w0 w.heap.size (vs ++ [x.f1]) v1 w1) := Lib.hid hO1
          clear hO1
          go_wp2_with fail
          go_roundg g
          case measure => omega
          case rel => exact ⟨i + 1, vs ++ [x.f1], rfl, Lib.hid (by have := HI.out; omega), Lib.hid ⟨HO3.out, by have := HO.out.2; have := HI.out; simp; omega⟩, HV2, hB1⟩
theorem ta_map_yes (v : Value) (W : World) : (Instr.typeAssert (.iface 81 v) 20 81 true).run Tryd.prog W = .ok (.tuple #[v, .bool true]) W := assert_yes Tryd.underlying81 (fun _ h => by cases h) _ v W
/-- The names that a text is cut into are no longer than it, and no more than its bytes. -/
theorem runC_names (kind : Int) : ∀ (l : List UInt8) (inN : Bool) (nm : List UInt8) (nms : List (List UInt8)) (out : List UInt8) (r : List (List UInt8) × List UInt8), runC kind l inN nm nms out = some r →
    r.1.length ≤ nms.length + l.length ∧ ∀ x ∈ r.1, x ∈ nms ∨ x.length ≤ nm.length + l.length
  | [], inN, nm, nms, out, r, h => by
    injection h with h
    subst h
    exact ⟨by simp, fun x hx => .inl hx⟩
  | b :: t, inN, nm, nms, out, r, h => by
    have step : ∀ (inN' : Bool) (nm' : List UInt8) (nms' : List (List UInt8)) (out' : List UInt8), runC kind t inN' nm' nms' out' = some r → nm'.length ≤ nm.length + 1 → (nms' = nms ∨ ∃ y, nms' = nms ++ [y] ∧ y.length ≤ nm.length + 1) →
        r.1.length ≤ nms.length + (b :: t).length ∧ ∀ x ∈ r.1, x ∈ nms ∨ x.length ≤ nm.length + (b :: t).length := by
      intro inN' nm' nms' out' h1 h2 h3
      obtain ⟨h4, h5⟩ := runC_names kind t inN' nm' nms' out' r h1
      rw [List.length_cons]
      rcases h3 with rfl | ⟨y, rfl, hy⟩
      · exact ⟨by omega, fun x hx => (h5 x hx).imp id (fun h => by omega)⟩
      · rw [List.length_append, List.length_singleton] at h4
        refine ⟨by omega, fun x hx => ?_⟩
        rcases h5 x hx with h6 | h6
        · rcases List.mem_append.1 h6 with h7 | h7
          · exact .inl h7
          · obtain rfl := List.mem_singleton.1 h7
            exact .inr (by omega)
        · exact .inr (by omega)
    rw [runC] at h
    split at h
    · split at h
      · split at h
        · exact step _ _ _ _ h (by omega) (.inl rfl)
        · cases h
      · exact step _ _ _ _ h (by simp) (.inl rfl)
    · split at h
      · split at h
        · exact step _ _ _ _ h (by omega) (.inl rfl)
        · split at h
          · exact step _ _ _ _ h (by simp) (.inl rfl)
          · split at h
            · exact step _ _ _ _ h (by simp) (.inr ⟨_, rfl, by simp⟩)
            · exact step _ _ _ _ h (by omega) (.inr ⟨_, rfl, by omega⟩)
      · exact step _ _ _ _ h (by omega) (.inl rfl)
theorem names_fit {kind : Int} {s : ByteArray} {nms : List (List UInt8)} {out : List UInt8} (h : runC kind s.data.toList false [] [] [] = some (nms, out)) (hs : s.size ≤ 1048576) :
    (textsL nms).length ≤ 1048576 ∧ ∀ x ∈ textsL nms, x.size ≤ maxLen := by
  obtain ⟨h1, h2⟩ := runC_names kind _ _ _ _ _ _ h
  have h3 : s.data.toList.length = s.size := by rw [Array.length_toList]; rfl
  rw [h3] at h1 h2
  refine ⟨by simp only [textsL, List.length_map]; simp at h1; omega, fun x hx => ?_⟩
  obtain ⟨y, hy, rfl⟩ := List.mem_map.1 hx
  rcases h2 y hy with h4 | h4
  · cases h4
  · have e : (⟨y.toArray⟩ : ByteArray).size = y.length := rfl
    rw [e]
    simp only [maxLen]
    simp at h4
    omega
/-- A text and the values of its names by a list of arguments. -/
def mapF (kind : Int) (s : ByteArray) (l : List S54) : Option (ByteArray × List S52) := match runC kind s.data.toList false [] [] [] with
  | some r => (valsOf (textsL r.1) l).map fun vs => (⟨r.2.toArray⟩, vs)
  | none => none
def NmPost (r : Option (ByteArray × List S52)) (e : Ending) (w' : World) : Prop := match r with
  | some (out, vs) => ∃ A c, e = .returned (.tuple #[.string out, .slice A vs.length c, .nilIface]) ∧ vs.length ≤ c ∧ kG.C w' A vs.length vs
  | none => ∃ s v t x, e = .returned (.tuple #[.string s, v, .iface t x])
set_option maxHeartbeats 3200000 in
set_option maxRecDepth 100000 in
theorem bindMap_is (kind : Int) (hk : 0 ≤ kind ∧ kind ≤ 4) (s : ByteArray) (hs : s.size ≤ 1048576) (l : List S54) (ok : Nat → Prop) (w : World) (ht : Tab w) (b : Nat) (hM : MapIs ok w b l) :
    Calls Tryd.prog 84 #[.int .i64 kind, .string s, .map (some b)] w fun e w' => Below w.heap.size w w' ∧ NmPost (mapF kind s l) e w' := by
  have HM := Lib.hid hM
  obtain ⟨F, hF⟩ : ∃ F, F = mapF kind s l := ⟨_, rfl⟩
  rw [← hF]
  unfold mapF at hF
  have HFF := Lib.hid hF
  clear hF hM
  have hcv := run_bytes_of_string (P := Tryd.prog) w 9 92 5 s Tryd.underlying9 Tryd.underlying92 Tryd.underlying5
  go_enter Tryd.func84, Tryd.ntmps84
  go_wp2_with fail
  have hB0 : Below w.heap.size w (w.alloc (.cells (bytesRow s (grownCap w s.size 0 5)) 5 ((bytesRow s (grownCap w s.size 0 5)).size, (bytesRow s (grownCap w s.size 0 5)).size + 1))).drew := below_drew (below_alloc (Below.refl _ _) _)
  have hC0 := fun i h => byte_cell s (grownCap w s.size 0 5) w ((bytesRow s (grownCap w s.size 0 5)).size, (bytesRow s (grownCap w s.size 0 5)).size + 1) i h
  have hlt : w.heap.size < (w.alloc (.cells (bytesRow s (grownCap w s.size 0 5)) 5 ((bytesRow s (grownCap w s.size 0 5)).size, (bytesRow s (grownCap w s.size 0 5)).size + 1))).drew.heap.size := by
    show w.heap.size < (w.heap.push _).size
    simp
  refine (comp_walk kind hk s hs w.heap.size (grownCap w s.size 0 5) _ (tab_at (tab_below ht) hB0) hlt hC0).mono ?_
  rintro e w1 ⟨b1, p1⟩
  have HB1 := Lib.hid (below_step hB0 b1)
  have hle := hB0.size
  clear hB0 hC0 hlt b1 hcv ht
  obtain ⟨R, hR⟩ : ∃ R, R = runC kind s.data.toList false [] [] [] := ⟨_, rfl⟩
  have hF := HFF.out
  rw [← hR] at p1 hF
  clear HFF
  cases R with
  | none =>
    obtain ⟨v, t, x, rfl⟩ := p1
    have HFN : Hid (F = none) := Lib.hid hF
    clear hR hF
    go_wp2_with fail
    go_ret3
    refine ⟨below_alloc HB1.out _, ?_⟩
    rw [HFN.out]
    exact ⟨_, _, _, _, rfl⟩
  | some r =>
    obtain ⟨nms, out⟩ := r
    obtain ⟨v, rfl, hrow⟩ := p1
    have HF := Lib.hid (names_fit hR.symm hs)
    obtain ⟨A1, c1, e1, hl1, hr1⟩ := Kd.R_reads (texts_R hrow)
    subst e1
    have HN := Lib.hid hr1
    clear hrow hR hle hr1
    go_wp2_with fail
    refine (bindMapArgs_is (textsL nms) l ok w1 w1 b (HM.out.below HB1.out) (Below.refl _ _) HF.out.1 HF.out.2 A1 c1 HN.out).mono ?_
    rintro e w2 ⟨b2, p2⟩
    have HB2 := Lib.hid b2
    have HB3 := Lib.hid (HB1.out.trans (b2.mono HB1.out.size))
    clear b2
    have hF' : F = (valsOf (textsL nms) l).map fun vs => ((⟨out.toArray⟩ : ByteArray), vs) := hF
    clear hF
    generalize valsOf (textsL nms) l = R2 at p2 hF'
    cases R2 with
    | none =>
      obtain ⟨v, t, x, rfl⟩ := p2
      have HFN : Hid (F = none) := Lib.hid hF'
      clear hF'
      go_wp2_with fail
      go_ret3
      refine ⟨HB3.out, ?_⟩
      rw [HFN.out]
      exact ⟨_, _, _, _, rfl⟩
    | some vs =>
      have HFN : Hid (F = some (⟨out.toArray⟩, vs)) := Lib.hid hF'
      clear hF'
      obtain ⟨v, rfl, hr⟩ := p2
      obtain ⟨A2, c2, e2, hl2, hr2⟩ := hr.got HB2.out
      subst e2
      have HR2 := Lib.hid hr2
      have HL2 := Lib.hid hl2
      clear hr hr2 hl2
      go_wp2_with fail
      go_ret3
      refine ⟨HB3.out, ?_⟩
      rw [HFN.out]
      exact ⟨_, _, rfl, HL2.out, HR2.out⟩
end Go.Proofs.YtnmhoghmhglimaaDoor.H
/-
  CONTRACTS: sqlx's bindArray over rows of maps as mapOf makes them; bindNamedMapper and BindNamed over a map, and over rows of maps.
-/
namespace Go.Proofs.YtnmhoghmhglimaaDoor.H
open Go.RowKit Go.Proofs.YtnmhoghmhglimaaDoorW.PrintWords Go.Proofs.YtnmhoghmhglimaaDoorW.PrintLast Go.Proofs.YtnmhoghmhglimaaDoorW.PrintMore Go.Proofs.YtnmhoghmhglimaaDoor.QN
set_option linter.unusedVariables false
set_option linter.unusedSimpArgs false

/-- The values of names by several lists of arguments, list by list. -/
def allOf (names : List ByteArray) : List (List S54) → Option (List S52)
  | [] => some []
  | r :: rs => match valsOf names r with
    | some vs => (allOf names rs).map (vs ++ ·)
    | none => none
def reText (kind : Int) (x : ByteArray) : ByteArray := if kind = 1 ∨ kind = 0 then x else ⟨(rebL kind 0 x.data.toList).toArray⟩
/-- A text for several lists of arguments. -/
def manyF (kind : Int) (s : ByteArray) (rows : List (List S54)) : Option (ByteArray × List S52) := match runC 1 s.data.toList false [] [] [] with
  | some r => if rows = [] then none else (allOf (textsL r.1) rows).map fun vs => (reText kind (if 1 < rows.length then fixF ⟨r.2.toArray⟩ rows.length else ⟨r.2.toArray⟩), vs)
  | none => none
section
variable {ops : Array Oper} {rest : List Oper} {o : Oper} {a : Act} {Q : Exit → Act → World → Prop}
end
/-- An element of a list of maps. -/
def MapV (ok : Nat → Prop) (w0 : World) (l : List S54) (cs : List Value) : Prop := ∃ b, cs = [.iface 81 (.map (some b))] ∧ MapIs ok w0 b l
def rdR (rows : List (List S54)) (i : Int) : List S54 := rows.getD i.toNat []
set_option maxHeartbeats 1600000 in
set_option maxRecDepth 100000 in
theorem mapper_map (kind : Int) (s : ByteArray) (F : Option (ByteArray × List S52)) (b : Nat) (w : World) (hcc : Calls Tryd.prog 84 #[.int .i64 kind, .string s, .map (some b)] w fun e w' => Below w.heap.size w w' ∧ NmPost F e w') :
    Calls Tryd.prog 69 #[.int .i64 kind, .string s, .iface 81 (.map (some b))] w fun e w' => Below w.heap.size w w' ∧ NmPost F e w' := by
  have HCC := Lib.hid hcc
  clear hcc
  have hta := ta_map_yes
  go_enter Tryd.func69, Tryd.ntmps69
  go_wp2_with fail
  refine HCC.out.mono ?_
  rintro e w1 ⟨b1, p1⟩
  have HB1 := Lib.hid b1
  clear HCC b1 hta
  cases F with
  | none =>
    obtain ⟨s2, v, t, x, rfl⟩ := p1
    go_wp2_with fail
    go_ret3
    exact ⟨HB1.out, _, _, _, _, rfl⟩
  | some r =>
    obtain ⟨out, vs⟩ := r
    obtain ⟨A2, c2, rfl, hl2, hr2⟩ := p1
    have HL := Lib.hid hl2
    have HR := Lib.hid hr2
    clear hl2 hr2
    go_wp2_with fail
    go_ret3
    exact ⟨HB1.out, _, _, rfl, HL.out, HR.out⟩
set_option maxHeartbeats 1600000 in
set_option maxRecDepth 100000 in
theorem bindNamed_of (kind : Int) (s : ByteArray) (F : Option (ByteArray × List S52)) (t0 : TypeId) (x0 : Value) (w : World) (hcc : Calls Tryd.prog 69 #[.int .i64 kind, .string s, .iface t0 x0] w fun e w' => Below w.heap.size w w' ∧ NmPost F e w') :
    Calls Tryd.prog 57 #[.int .i64 kind, .string s, .iface t0 x0] w fun e w' => Below w.heap.size w w' ∧ NmPost F e w' := by
  have HCC := Lib.hid hcc
  clear hcc
  go_enter Tryd.func57, Tryd.ntmps57
  go_wp2_with fail
  refine HCC.out.mono ?_
  rintro e w1 ⟨b1, p1⟩
  have HB1 := Lib.hid b1
  clear HCC b1
  cases F with
  | none =>
    obtain ⟨s2, v, t, x, rfl⟩ := p1
    go_wp2_with fail
    go_ret3
    exact ⟨HB1.out, _, _, _, _, rfl⟩
  | some r =>
    obtain ⟨out, vs⟩ := r
    obtain ⟨A2, c2, rfl, hl2, hr2⟩ := p1
    have HL := Lib.hid hl2
    have HR := Lib.hid hr2
    clear hl2 hr2
    go_wp2_with fail
    go_ret3
    exact ⟨HB1.out, _, _, rfl, HL.out, HR.out⟩
theorem bindNamed_map (kind : Int) (hk : 0 ≤ kind ∧ kind ≤ 4) (s : ByteArray) (hs : s.size ≤ 1048576) (l : List S54) (ok : Nat → Prop) (w : World) (ht : Tab w) (b : Nat) (hM : MapIs ok w b l) :
    Calls Tryd.prog 57 #[.int .i64 kind, .string s, .iface 81 (.map (some b))] w fun e w' => Below w.heap.size w w' ∧ NmPost (mapF kind s l) e w' :=
  bindNamed_of kind s _ _ _ w (mapper_map kind s _ b w (bindMap_is kind hk s hs l ok w ht b hM))
end Go.Proofs.YtnmhoghmhglimaaDoor.H
/-
  A CONTRACT: impl.NamedOf: a text and the values of its names by right arguments with different names (texts of at most 2^20 bytes; the kinds 0 to 4; a world in which strconv's table lies).
-/
namespace Go.Proofs.YtnmhoghmhglimaaDoor.H
open Go.RowKit Go.Proofs.YtnmhoghmhglimaaDoorW.PrintWords Go.Proofs.YtnmhoghmhglimaaDoorW.PrintLast Go.Proofs.YtnmhoghmhglimaaDoorW.PrintMore Go.Proofs.YtnmhoghmhglimaaDoor.QN
set_option linter.unusedVariables false
set_option linter.unusedSimpArgs false

def atomB (x : S52) : Bool := decide (0 ≤ x.f0) && (decide (x.f0 ≤ 4) && (x.f3.isEmpty && ((decide (x.f1 = 0) || decide (x.f0 = 1)) && (decide (x.f2 = ⟨#[]⟩) || decide (x.f0 = 2)))))
theorem atomB_iff (x : S52) : atomB x = true ↔ atomR x := by
  unfold atomB atomR
  simp only [Bool.and_eq_true, Bool.or_eq_true, decide_eq_true_eq, List.isEmpty_iff]
def rightB (x : S52) : Bool := atomB x || (decide (x.f0 = 5) && (decide (x.f1 = 0) && (decide (x.f2 = ⟨#[]⟩) && x.f3.all atomB)))
theorem rightB_iff (x : S52) : rightB x = true ↔ rightR x := by
  unfold rightB rightR
  simp only [Bool.and_eq_true, Bool.or_eq_true, decide_eq_true_eq, List.all_eq_true, atomB_iff]
def argsB (l : List S54) : Bool := decide (l.length ≤ 1048576) && (l.all (fun x => rightB x.f1 && (decide (x.f1.f3.length ≤ 1048576) && decide (x.f0.size ≤ 1048576))) && decide (l.Pairwise (fun a b => a.f0 ≠ b.f0)))
theorem argsB_iff (l : List S54) : argsB l = true ↔ ArgsOk l := by
  unfold argsB ArgsOk
  simp only [Bool.and_eq_true, decide_eq_true_eq, List.all_eq_true, rightB_iff]
def impl_NamedOf.f (a0 : Int) (a1 : ByteArray) (l2 : List S54) : Option (ByteArray × List S52 × Bool) := if a1.size ≤ 1048576 ∧ 0 ≤ a0 ∧ a0 ≤ 4 ∧ argsB l2 = true then some (match mapF a0 a1 l2 with
  | some r => (r.1, r.2, true)
  | none => (⟨#[]⟩, [], false)) else none
theorem mapF_good {kind : Int} {s : ByteArray} {l : List S54} {r : ByteArray × List S52} (h : mapF kind s l = some r) (hs : s.size ≤ 1048576) (hl : ArgsOk l) : r.2.length ≤ 1048576 ∧ ∀ x ∈ r.2, rightR x ∧ x.f3.length ≤ 1048576 := by
  unfold mapF at h
  cases hR : runC kind s.data.toList false [] [] [] with
  | none =>
    rw [hR] at h
    cases h
  | some q =>
    rw [hR] at h
    obtain ⟨vs, h1, h2⟩ := Option.map_eq_some_iff.1 h
    subst h2
    obtain ⟨nms, out⟩ := q
    refine ⟨?_, fun x hx => ?_⟩
    · show vs.length ≤ 1048576
      rw [valsOf_len _ _ _ h1]
      exact (names_fit hR hs).1
    · obtain ⟨y, hy, rfl⟩ := valsOf_mem _ _ _ h1 x hx
      exact ⟨(hl.2.1 y hy).1, (hl.2.1 y hy).2.1⟩
set_option maxHeartbeats 3200000 in
set_option maxRecDepth 100000 in
theorem impl_NamedOf.calls (a0 : Int) (a1 : ByteArray) (A2 : Option Addr) (c2 : Nat) (l2 : List S54) (r1 : ByteArray) (r2 : List S52) (r3 : Bool) (w : World) (ht : Tab w) (hr : Kd.C k54 w A2 l2.length l2) (hc : l2.length ≤ c2) (h : impl_NamedOf.f a0 a1 l2 = some (r1, r2, r3)) :
    Calls Tryd.prog 36 #[.int .i64 a0, .string a1, .slice A2 l2.length c2] w fun e w' => ∃ v1_ : Value, e = .returned (.tuple #[.string r1, v1_, .bool r3]) ∧ Kd.R k52 52 w' w.heap.size (fun _ => True) v1_ r2 ∧ Below w.heap.size w w' := by
  unfold impl_NamedOf.f at h
  by_cases hg : a1.size ≤ 1048576 ∧ 0 ≤ a0 ∧ a0 ≤ 4 ∧ argsB l2 = true
  · rw [if_pos hg] at h
    obtain ⟨hs, hk0, hk4, hl⟩ := hg
    have H := Lib.hid (Option.some.inj h)
    have HL := Lib.hid ((argsB_iff l2).1 hl)
    have HMC := Lib.hid (mapOf_right l2 HL.out A2 c2 w hr)
    have HTAB := Lib.hid (tab_below ht)
    have HK := Lib.hid (And.intro hk0 hk4)
    have HS := Lib.hid hs
    clear h hr hl ht hk0 hk4 hs
    go_enter Tryd.func36, Tryd.ntmps36
    go_wp2_with fail
    refine HMC.out.mono ?_
    rintro e w1 ⟨b, rfl, hM, hb, hB⟩
    have HM := Lib.hid hM
    have HB1 := Lib.hid hB
    clear hM hb hB HMC
    go_wp2_with fail
    refine (bindNamed_map a0 HK.out a1 HS.out l2 _ w1 (tab_at HTAB.out HB1.out) b HM.out).mono ?_
    rintro e w2 ⟨b2, p2⟩
    have HB2 := Lib.hid (HB1.out.trans (b2.mono HB1.out.size))
    have HGOOD := Lib.hid (fun r hr => mapF_good (r := r) (kind := a0) (s := a1) (l := l2) hr HS.out HL.out)
    have h := H.out
    clear b2 H
    generalize mapF a0 a1 l2 = F at p2 HGOOD h
    cases F with
    | none =>
      simp only [Prod.mk.injEq] at h
      obtain ⟨rfl, rfl, rfl⟩ := h
      obtain ⟨s2, v, t, x, rfl⟩ := p2
      go_wp2_with fail
      go_ret3
      exact ⟨_, rfl, Kd.R_nil _ _ _ _ _, HB2.out⟩
    | some r =>
      obtain ⟨out, vs⟩ := r
      simp only [Prod.mk.injEq] at h
      obtain ⟨rfl, rfl, rfl⟩ := h
      obtain ⟨A3, c3, rfl, hl3, hr3⟩ := p2
      have HG := Lib.hid (HGOOD.out _ rfl)
      have HR3 := Lib.hid hr3
      clear hl3 hr3 HGOOD
      go_wp2_with fail
      refine (valuesOf_right _ HG.out.2 HG.out.1 A3 c3 _ HR3.out).mono ?_
      rintro e w3 ⟨v, rfl, hR, hb⟩
      have HR4 := Lib.hid (Kd.R_lower hR HB2.out.size)
      have HB3 := Lib.hid (HB2.out.trans (hb.mono HB2.out.size))
      clear hR hb
      go_wp2_with fail
      go_ret3
      exact ⟨_, rfl, HR4.out, HB3.out⟩
  · rw [if_neg hg] at h
    cases h
end Go.Proofs.YtnmhoghmhglimaaDoor.H
-- WRITTEN BY A PROGRAM OF THIS SESSION (wip/print2.py): the print, with contracts of this session's own let in. Not trusted: Lean checks it.
namespace Go.Proofs.YtnmhoghmhglimaaDoor.QN
open Go.RowKit Go.Proofs.YtnmhoghmhglimaaDoorW.PrintWords Go.Proofs.YtnmhoghmhglimaaDoorW.PrintLast Go.Proofs.YtnmhoghmhglimaaDoorW.PrintMore
attribute [local go_sem] max2_int min2_int max_two min_two max_three min_three max_four min_four   -- for this text's walks alone
set_option linter.unusedVariables false
set_option linter.unusedSimpArgs false

open Go.Proofs.YtnmhoghmhglimaaDoor.H
/-! ### laws_FnNamedOf: function 10 -/
mutual
def laws_FnNamedOf.j0 : Nat → Int → ByteArray → List (S54) → Bool → Option (Bool)
  | 0, _, _, _, _ => none
  | k + 1, x0, x1, x2, x21 => if x21 = true then (some true) else (if (x1.size : Int) > 1000 then (laws_FnNamedOf.j1 k x0 x1 x2 true) else ((spec_ArgsRight.f k x2).bind fun t169 => (laws_FnNamedOf.j1 k x0 x1 x2 (!t169))))
def laws_FnNamedOf.j1 : Nat → Int → ByteArray → List (S54) → Bool → Option (Bool)
  | 0, _, _, _, _ => none
  | k + 1, x0, x1, x2, x29 => if x29 = true then (some true) else ((laws_kind9.f x0).bind fun t170 => ((spec_NamedOf.f k t170 x1 x2).bind fun bt171 => (if bt171.2.2.2 = true then ((laws_kind9.f x0).bind fun t177 => ((impl_NamedOf.f t177 x1 x2).bind fun bt178 => (if (bt178.2.2 == bt171.2.2.1) = true then (if bt171.2.2.1 = true then (if bt178.1.toList = bt171.1.toList then ((spec_EqualValues.f bt171.2.1 bt178.2.1).bind fun t183 => (some t183)) else (some false)) else (some true)) else (some false)))) else (some true))))
end
def laws_FnNamedOf.f (k : Nat) (a0 : Int) (a1 : ByteArray) (l2 : List (S54)) : Option (Bool) := if (a1.size : Int) > 2147483647 then (laws_FnNamedOf.j0 k a0 a1 l2 true) else (laws_FnNamedOf.j0 k a0 a1 l2 (decide ((l2.length : Int) > 2147483647)))
/-! ### impl_Named: function 38 -/
def impl_Named.f (a0 : ByteArray) (l1 : List (S54)) : Option (ByteArray × (List (S52)) × Bool) := (impl_NamedOf.f 1 a0 l1).bind fun bt184 => (some (bt184.1, bt184.2.1, bt184.2.2))
set_option maxHeartbeats 8000000 in
set_option maxRecDepth 100000 in
theorem impl_Named.calls (a0 : ByteArray) (A1 : Option Addr) (c1 : Nat) (l1 : List (S54)) (r1 : ByteArray) (r2 : List (S52)) (r3 : Bool) (w : World) (ht_ : Tab w) (hr1 : Kd.C k54 w A1 l1.length l1) (hc1 : l1.length ≤ c1) (h : impl_Named.f a0 l1 = some (r1, r2, r3)) :
    Calls Tryd.prog 38 #[.string a0, .slice A1 l1.length c1] w fun e w' => ∃ v1_ : Value, e = .returned (.tuple #[.string r1, v1_, .bool r3]) ∧ Kd.R k52 52 w' w.heap.size (fun _ => True) v1_ r2 ∧ Below w.heap.size w w' := by
  have HR1 := Aside0.mk hr1
  have HC1 := Aside0.mk hc1
  clear hr1 hc1
  have HB := Aside0.mk (Below.refl w.heap.size w)
  have HT_ := Aside0.mk (tab_below ht_)
  clear ht_
  have H : ((impl_NamedOf.f 1 a0 l1).bind fun bt184 => (some (bt184.1, bt184.2.1, bt184.2.2))) = some (r1, r2, r3) := h
  clear h
  replace H := Option.bind_eq_some_iff.mp H
  obtain ⟨⟨t184, t185, t186⟩, A30, H⟩ := H
  replace H : (some (t184, t185, t186)) = some (r1, r2, r3) := H
  have A3 := Aside0.mk A30
  clear A30
  simp only [Option.some.injEq, Prod.mk.injEq] at H
  obtain ⟨rfl, rfl, rfl⟩ := H
  go_enter Tryd.func38, Tryd.ntmps38
  go_wp2_with (first | ((with_reducible refine gate_callee (f := 36) rfl ?_); refine goesL_ (some 9) rfl rfl Tryd.func36 (by kernel_rfl) rfl #[.int .i64 1, .string a0, .slice A1 l1.length c1] rfl (by (try simp only [List.map_toArray, List.map_cons, List.map_nil]); first | done | rfl | (simp only [List.length_drop, List.length_take]; rfl)) ?_; (with_reducible refine (impl_NamedOf.calls 1 a0 _ _ l1 t184 t185 t186 _ (tab_at HT_.out (by repeat (first | (with_reducible first | exact HB.out | apply below_alloc | apply pw_below_drewN | apply below_drew1) | exact HB.out))) ?side1 ?side2 A3.out).mono ?_); (case side1 => repeat (first | exact HR1.out | (with_reducible refine Kd.C_alloc ?_ _) | (with_reducible refine Kd.C_drewN ?_ _) | (with_reducible refine Kd.C_drew ?_))); (case side2 => exact HC1.out); rintro e w4 ⟨v187, rfl, ho0, hb⟩; refine ⟨_, rfl, ?_⟩; have n0_ := Aside0.mk (Kd.R_lower ho0 (below_size (by repeat (first | (with_reducible first | exact HB.out | apply below_alloc | apply pw_below_drewN | apply below_drew1) | exact HB.out)))); have n1_ := Aside0.mk (below_step (by repeat (first | (with_reducible first | exact HB.out | apply below_alloc | apply pw_below_drewN | apply below_drew1) | exact HB.out)) hb); clear HB; have HO188 := n0_; have HB := n1_; clear n0_ n1_; (try clear hb); (try clear hb2); (try clear hk); (try clear hi); (try clear ho0)))
  go_ret3
  exact ⟨_, by first | rfl | (simp [errW_none, errW_some] <;> rfl) | (simp [*, errW_none, errW_some] <;> rfl), by (with_reducible repeat (first | apply Kd.R_alloc | apply Kd.R_drewN | apply Kd.R_drew)); exact HO188.out, by repeat (first | (with_reducible first | exact HB.out | apply below_alloc | apply pw_below_drewN | apply below_drew1) | exact HB.out)⟩

end Go.Proofs.YtnmhoghmhglimaaDoor.QN
