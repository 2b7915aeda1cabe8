/-
  A CONTRACT: the reference's SameValues says true of two lists of values that read the same (values that hold lists of lists at most).
-/
import Derived.Test.YtabaldpjahcilaaQP0
import Derived.Handy
import Derived.Lib.Hide
import Derived.Outline
import Derived.Deep.RegionWith
import Derived.StillTailTactics
namespace Go.Proofs.Ytabaldpjahcilaa.H
open Go.RowKit Go.Proofs.YtabaldpjahcilaaW.PrintWords Go.Proofs.YtabaldpjahcilaaW.PrintLast Go.Proofs.YtabaldpjahcilaaW.PrintMore Go.Proofs.Ytabaldpjahcilaa.QP
set_option linter.unusedVariables false
set_option linter.unusedSimpArgs false

def deep : Nat → S30 → Prop
  | 0, x => x.f3 = []
  | n + 1, x => ∀ y ∈ x.f3, deep n y
theorem two_below (w : World) (o o' : Obj) : Below w.heap.size w ((w.alloc o).alloc o') := below_alloc (below_alloc (Below.refl _ _) o) o'

def EqV (n : Nat) : Prop := ∀ (x : S30) (A A' : Option Addr) (c c' : Nat) (w : World), deep n x → k30.C w A x.f3.length x.f3 → k30.C w A' x.f3.length x.f3 →
    Calls Try.prog 14 #[.agg #[.int .i64 x.f0, .int .i64 x.f1, .string x.f2, .slice A x.f3.length c], .agg #[.int .i64 x.f0, .int .i64 x.f1, .string x.f2, .slice A' x.f3.length c']] w fun e w' => e = .returned (.bool true) ∧ Below w.heap.size w w'
def EqL (l : List S30) : Prop := ∀ (A A' : Option Addr) (c c' : Nat) (w : World), k30.C w A l.length l → k30.C w A' l.length l →
    Calls Try.prog 8 #[.slice A l.length c, .slice A' l.length c'] w fun e w' => e = .returned (.bool true) ∧ Below w.heap.size w w'

set_option maxHeartbeats 1600000 in
set_option maxRecDepth 100000 in
theorem eqV_of (x : S30) (hl : EqL x.f3) (A A' : Option Addr) (c c' : Nat) (w : World) (hC : k30.C w A x.f3.length x.f3) (hC' : k30.C w A' x.f3.length x.f3) :
    Calls Try.prog 14 #[.agg #[.int .i64 x.f0, .int .i64 x.f1, .string x.f2, .slice A x.f3.length c], .agg #[.int .i64 x.f0, .int .i64 x.f1, .string x.f2, .slice A' x.f3.length c']] w fun e w' => e = .returned (.bool true) ∧ Below w.heap.size w w' := by
  have HL := Lib.hid hl
  have HC := Lib.hid hC
  have HC' := Lib.hid hC'
  clear hl hC hC'
  have hu := Try.underlying30
  go_enter Try.func14, Try.ntmps14
  go_wp2_with fail
  refine (HL.out _ _ _ _ _ (Kd.C_below HC.out (two_below _ _ _)) (Kd.C_below HC'.out (two_below _ _ _))).mono ?_
  rintro e w1 ⟨rfl, hb⟩
  go_wp2_with fail
  go_ret
  exact ⟨rfl, (two_below _ _ _).trans (hb.mono (by simp; omega))⟩

set_option maxHeartbeats 1600000 in
set_option maxRecDepth 100000 in
theorem eqL_of (l : List S30) (h : ∀ x ∈ l, ∀ (A A' : Option Addr) (c c' : Nat) (w : World), k30.C w A x.f3.length x.f3 → k30.C w A' x.f3.length x.f3 →
    Calls Try.prog 14 #[.agg #[.int .i64 x.f0, .int .i64 x.f1, .string x.f2, .slice A x.f3.length c], .agg #[.int .i64 x.f0, .int .i64 x.f1, .string x.f2, .slice A' x.f3.length c']] w fun e w' => e = .returned (.bool true) ∧ Below w.heap.size w w') : EqL l := by
  intro A A' c c' w hC hC'
  have H := Lib.hid h
  have hlen : l.length ≤ 9223372036854775807 := hC.2.1
  have HC := Lib.hid hC
  have HC' := Lib.hid hC'
  clear h hC hC'
  have hu := Try.underlying30
  go_enter Try.func8, Try.ntmps8
  go_wp2_with fail
  go_loopg [5] l.length (fun g v5 w' => ∃ (i : Int), v5 = .int .i64 i ∧ Hid (0 ≤ i ∧ i + g = l.length) ∧ Below w.heap.size w w')
  case atStart => exact ⟨0, rfl, Lib.hid ⟨by omega, by omega⟩, Below.refl _ _⟩
  case round =>
    obtain ⟨i, rfl, HI, HB⟩ := hrel
    have hi := HI.out
    cases gk with
    | zero =>
      have hge : ¬ i < (l.length : Int) := by omega
      clear hi
      go_wp2_with fail
      go_ret
      exact ⟨rfl, HB⟩
    | succ g =>
      have hlt : i < (l.length : Int) := by omega
      have h0 : 0 ≤ i := hi.1
      obtain ⟨ad, B3, b3, rfl, q0, q1, q2, q3, ql, qC⟩ := at_T30 (Kd.C_below HC.out HB) i h0 hlt
      obtain ⟨ad', B3', b3', rfl, q0', q1', q2', q3', ql', qC'⟩ := at_T30 (Kd.C_below HC'.out HB) i h0 hlt
      have hm : rd_T30 l i ∈ l := by
        unfold rd_T30
        rw [List.getD_eq_getElem?_getD, List.getElem?_eq_getElem (show i.toNat < l.length by omega)]
        exact List.getElem_mem _
      have HX := Lib.hid (H.out _ hm)
      have HQ := Lib.hid qC
      have HQ' := Lib.hid qC'
      clear hm qC qC' ql ql' hi
      generalize rd_T30 l i = x at q0 q1 q2 q3 q0' q1' q2' q3' HX HQ HQ'
      go_wp2_with fail
      go_still_tail 8, (by kernel_rfl)
      change wpList _ _ _ _ _ wr.drew
      have HBd : Below w.heap.size w wr.drew := below_drew HB
      have hbd : Below wr.heap.size wr wr.drew := below_drew (Below.refl _ _)
      have HQd := Lib.hid (Kd.C_below HQ.out hbd)
      have HQd' := Lib.hid (Kd.C_below HQ'.out hbd)
      clear hbd HQ HQ' q0 q1 q2 q3 q0' q1' q2' q3'
      generalize wr.drew = w2 at HBd HQd HQd' ⊢
      go_wp2_with fail
      refine (HX.out B3 B3' b3 b3' _ HQd.out HQd'.out).mono ?_
      rintro e w3 ⟨rfl, hb⟩
      go_wp2_with fail
      go_roundg g
      case measure => omega
      case rel => exact ⟨i + 1, rfl, Lib.hid (by have := HI.out; omega), HBd.trans (hb.mono HBd.size)⟩

theorem eqL_nil : EqL [] := eqL_of [] (fun _ h => by cases h)
theorem eqV_deep : ∀ (n : Nat) (x : S30), deep n x → EqL x.f3
  | 0, x, h => by
    have h' : x.f3 = [] := h
    rw [h']
    exact eqL_nil
  | n + 1, x, h => eqL_of x.f3 (fun y hy => eqV_of y (eqV_deep n y (h y hy)))
/-- Two lists that read the same, whose values hold lists of lists at most. -/
theorem eqL_deep (l : List S30) (h : ∀ x ∈ l, deep 2 x) : EqL l := eqL_of l (fun y hy => eqV_of y (eqV_deep 2 y (h y hy)))

/-- Two values that are the same, of a depth. -/
def eqB : Nat → S30 → S30 → Bool
  | 0, x, y => decide (x.f0 = y.f0) && (decide (x.f1 = y.f1) && (decide (x.f2 = y.f2) && (x.f3.isEmpty && y.f3.isEmpty)))
  | n + 1, x, y => decide (x.f0 = y.f0) && (decide (x.f1 = y.f1) && (decide (x.f2 = y.f2) && (decide (x.f3.length = y.f3.length) && (x.f3.zip y.f3).all fun p => eqB n p.1 p.2)))
theorem zip_eq (P : S30 → Prop) (f : S30 → S30 → Bool) (hf : ∀ x y, f x y = true → x = y ∧ P x) : ∀ (l m : List S30), l.length = m.length → ((l.zip m).all fun p => f p.1 p.2) = true → l = m ∧ ∀ x ∈ l, P x
  | [], [], _, _ => ⟨rfl, fun x hx => by cases hx⟩
  | [], b :: m, h, _ => by cases h
  | a :: l, [], h, _ => by cases h
  | a :: l, b :: m, h, h2 => by
    rw [List.zip_cons_cons, List.all_cons, Bool.and_eq_true] at h2
    obtain ⟨rfl, hp⟩ := hf a b h2.1
    obtain ⟨rfl, hq⟩ := zip_eq P f hf l m (by simpa using h) h2.2
    exact ⟨rfl, List.forall_mem_cons.2 ⟨hp, hq⟩⟩
theorem zip_self (f : S30 → S30 → Bool) : ∀ (l : List S30), (∀ x ∈ l, f x x = true) → ((l.zip l).all fun p => f p.1 p.2) = true
  | [], _ => rfl
  | a :: l, h => by
    rw [List.zip_cons_cons, List.all_cons, Bool.and_eq_true]
    exact ⟨h a List.mem_cons_self, zip_self f l (fun x hx => h x (List.mem_cons_of_mem _ hx))⟩
theorem eqB_eq : ∀ (n : Nat) (x y : S30), eqB n x y = true → x = y ∧ deep n x
  | 0, x, y, h => by
    obtain ⟨a0, a1, a2, a3⟩ := x
    obtain ⟨b0, b1, b2, b3⟩ := y
    simp only [eqB, Bool.and_eq_true, decide_eq_true_eq, List.isEmpty_iff] at h
    obtain ⟨rfl, rfl, rfl, rfl, rfl⟩ := h
    exact ⟨rfl, rfl⟩
  | n + 1, x, y, h => by
    obtain ⟨a0, a1, a2, a3⟩ := x
    obtain ⟨b0, b1, b2, b3⟩ := y
    simp only [eqB, Bool.and_eq_true, decide_eq_true_eq] at h
    obtain ⟨rfl, rfl, rfl, hl, hz⟩ := h
    obtain ⟨rfl, hd⟩ := zip_eq (deep n) (eqB n) (eqB_eq n) _ _ hl hz
    exact ⟨rfl, hd⟩
theorem eqB_self : ∀ (n : Nat) (x : S30), deep n x → eqB n x x = true
  | 0, x, h => by
    have h' : x.f3 = [] := h
    simp [eqB, h']
  | n + 1, x, h => by
    simp only [eqB, Bool.and_eq_true, decide_eq_true_eq, true_and]
    exact zip_self (eqB n) _ (fun y hy => eqB_self n y (h y hy))
def spec_SameValues.f (l0 l1 : List S30) : Option Bool := if l0.length = l1.length ∧ ((l0.zip l1).all fun p => eqB 2 p.1 p.2) = true then some true else none
theorem equal_self (l : List S30) (h : ∀ x ∈ l, deep 2 x) : spec_SameValues.f l l = some true := by
  rw [spec_SameValues.f, if_pos ⟨rfl, zip_self (eqB 2) l (fun x hx => eqB_self 2 x (h x hx))⟩]
theorem spec_SameValues.calls (A0 : Option Addr) (c0 : Nat) (l0 : List S30) (A1 : Option Addr) (c1 : Nat) (l1 : List S30) (r : Bool) (w : World) (hr0 : Kd.C k30 w A0 l0.length l0) (hc0 : l0.length ≤ c0) (hr1 : Kd.C k30 w A1 l1.length l1) (hc1 : l1.length ≤ c1) (h : spec_SameValues.f l0 l1 = some r) :
    Calls Try.prog 8 #[.slice A0 l0.length c0, .slice A1 l1.length c1] w fun e w' => e = .returned (.bool r) ∧ Below w.heap.size w w' := by
  unfold spec_SameValues.f at h
  split at h
  · rename_i hh
    obtain ⟨rfl, hd⟩ := zip_eq (deep 2) (eqB 2) (eqB_eq 2) _ _ hh.1 hh.2
    injection h with h
    subst h
    exact eqL_deep _ hd A0 A1 c0 c1 w hr0 hr1
  · cases h
end Go.Proofs.Ytabaldpjahcilaa.H
