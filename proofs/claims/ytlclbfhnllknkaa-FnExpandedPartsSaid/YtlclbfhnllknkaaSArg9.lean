/-
  PLAIN: the laws' args9, single9 and marks9.
-/
import Derived.Test.YtlclbfhnllknkaaSExp
import Derived.Test.YtlclbfhnllknkaaQE6
import Derived.Test.YtlclbfhnllknkaaQE9
import Derived.Test.YtlclbfhnllknkaaQE8
namespace Go.Proofs.Ytlclbfhnllknkaa.SX
open Go.RowKit Go.Proofs.Ytlclbfhnllknkaa.QE Go.Proofs.Ytlclbfhnllknkaa.H Go.Proofs.Ytlclbfhnllknkaa.SN Go.Proofs.YtlclbfhnllknkaaW.PrintWords Go.Proofs.YtlclbfhnllknkaaW.PrintLast Go.Proofs.YtlclbfhnllknkaaW.PrintMore
set_option linter.unusedVariables false
set_option linter.unusedSimpArgs false

theorem args9_l (l : List S37) (hl : l.length ≤ 50) : ∀ (d i : Nat), l.length - i = d → i ≤ l.length → ∃ b, Ev (fun k => laws_args9.l0 k l (i : Int)) b ∧ (b = true → ∀ x ∈ l.drop i, rightR x ∧ x.f3.length ≤ 20) := by
  intro d
  induction d with
  | zero =>
    intro i hd hi
    have c1 : ¬ (i : Int) < (l.length : Int) := by omega
    refine ⟨true, Ev.step (f := fun _ => some true) (fun k => ?_) (Ev.now _), fun _ => ?_⟩
    · simp only [laws_args9.l0]
      rw [if_neg c1]
    · rw [List.drop_eq_nil_of_le (by omega)]
      intro x hx
      cases hx
  | succ d ih =>
    intro i hd hi
    have hlt : i < l.length := by omega
    have c1 : (i : Int) < (l.length : Int) := by omega
    have c0 : (0 : Int) ≤ (i : Int) := by omega
    have wi : i < 9223372036854775807 := by omega
    have hr := rdV l i hlt
    obtain ⟨b, hE, hok⟩ := argument_is (l[i]'hlt)
    cases b with
    | false =>
      refine ⟨false, Ev.step (f := fun k => (spec_ArgumentRight.f k (l[i]'hlt).f0 (l[i]'hlt).f1 (l[i]'hlt).f2 (l[i]'hlt).f3).bind fun t => if t = true then laws_args9.l0 k l ((i + 1 : Nat) : Int) else some false) (fun k => ?_) (Ev.bind hE ?_), fun h => by cases h⟩
      · simp only [laws_args9.l0]
        rw [if_pos c1, if_pos c0, hr, w64s i wi]
      · exact Ev.congr (fun k => by rw [if_neg (by decide)]) (Ev.now false)
    | true =>
      obtain ⟨b1, hE1, hb1⟩ := ih (i + 1) (by omega) (by omega)
      refine ⟨b1, Ev.step (f := fun k => (spec_ArgumentRight.f k (l[i]'hlt).f0 (l[i]'hlt).f1 (l[i]'hlt).f2 (l[i]'hlt).f3).bind fun t => if t = true then laws_args9.l0 k l ((i + 1 : Nat) : Int) else some false) (fun k => ?_) (Ev.bind hE ?_), fun h => ?_⟩
      · simp only [laws_args9.l0]
        rw [if_pos c1, if_pos c0, hr, w64s i wi]
      · exact Ev.congr (fun k => by rw [if_pos rfl]) hE1
      · rw [List.drop_eq_getElem_cons hlt]
        exact List.forall_mem_cons.2 ⟨hok rfl, hb1 h⟩
theorem args9_is (l : List S37) : ∃ b, Ev (fun k => laws_args9.f k l) b ∧ (b = true → l.length ≤ 50 ∧ ∀ x ∈ l, rightR x ∧ x.f3.length ≤ 20) := by
  by_cases h : (l.length : Int) > 50
  · exact ⟨false, Ev.congr (fun k => by simp only [laws_args9.f]; rw [if_pos h]) (Ev.now _), fun h => by cases h⟩
  · obtain ⟨b, hE, hb⟩ := args9_l l (by omega) l.length 0 (by omega) (by omega)
    refine ⟨b, Ev.congr (fun k => by simp only [laws_args9.f]; rw [if_neg h]; rfl) hE, fun hh => ⟨by omega, ?_⟩⟩
    have := hb hh
    rwa [List.drop_zero] at this
/-- single9: no list, and right. -/
theorem single9_is (l : List S37) (b : Bool) (hb : Ev (fun k => laws_args9.f k l) b) (hl : l.length ≤ 2147483647) : ∀ (d i : Nat), l.length - i = d → i ≤ l.length → hasL (l.take i) = false → ∃ r, Ev (fun k => laws_single9.l0 k l (i : Int)) r ∧ r = (!hasL l && b) := by
  intro d
  induction d with
  | zero =>
    intro i hd hi ht
    have c1 : ¬ (i : Int) < (l.length : Int) := by omega
    rw [List.take_of_length_le (by omega)] at ht
    refine ⟨b, Ev.step (f := fun k => (laws_args9.f k l).bind fun t => some t) (fun k => ?_) (Ev.bind hb (Ev.now b)), by rw [ht]; cases b <;> rfl⟩
    simp only [laws_single9.l0]
    rw [if_neg c1]
  | succ d ih =>
    intro i hd hi ht
    have hlt : i < l.length := by omega
    have c1 : (i : Int) < (l.length : Int) := by omega
    have c0 : (0 : Int) ≤ (i : Int) := by omega
    have wi : i < 9223372036854775807 := by omega
    have hr := rdV l i hlt
    by_cases h5 : (l[i]'hlt).f0 = 5
    · have hL : hasL l = true := List.any_eq_true.2 ⟨_, List.getElem_mem hlt, decide_eq_true h5⟩
      refine ⟨false, Ev.step (f := fun _ => some false) (fun k => ?_) (Ev.now _), by rw [hL]; rfl⟩
      simp only [laws_single9.l0]
      rw [if_pos c1, if_pos c0, hr, if_pos h5]
    · obtain ⟨r, hE, h⟩ := ih (i + 1) (by omega) (by omega) (by rw [List.take_succ_eq_append_getElem hlt, hasL_snoc, ht, decide_eq_false h5]; rfl)
      refine ⟨r, Ev.step (fun k => ?_) hE, h⟩
      simp only [laws_single9.l0]
      rw [if_pos c1, if_pos c0, hr, if_neg h5, w64s i wi]
theorem single9_f (l : List S37) (b : Bool) (hb : Ev (fun k => laws_args9.f k l) b) (hl : l.length ≤ 2147483647) : Ev (fun k => laws_single9.f k l) (!hasL l && b) := by
  obtain ⟨r, h1, h2⟩ := single9_is l b hb hl l.length 0 (by omega) (by omega) rfl
  rw [← h2]
  exact h1
/-- The number of question marks. -/
def cntQ : List UInt8 → Nat
  | [] => 0
  | c :: t => (if c = 63 then 1 else 0) + cntQ t
theorem cntQ_le : ∀ l, cntQ l ≤ l.length
  | [] => by simp [cntQ]
  | c :: t => by
    have := cntQ_le t
    rw [cntQ, List.length_cons]
    split <;> omega
theorem cntQ_app : ∀ a b, cntQ (a ++ b) = cntQ a + cntQ b
  | [], b => by simp [cntQ]
  | c :: t, b => by
    rw [List.cons_append, cntQ, cntQ, cntQ_app t b, Nat.add_assoc]
theorem marks_l (s : ByteArray) (hs : s.size ≤ 4294967296) : ∀ (d i : Nat), s.size - i = d → i ≤ s.size → ∀ n : Nat, n ≤ i → Ev (fun k => laws_marks9.l0 k s (n : Int) (i : Int)) ((n + cntQ (s.data.toList.drop i) : Nat) : Int) := by
  intro d
  induction d with
  | zero =>
    intro i hd hi n hn
    have c1 : ¬ (i : Int) < (s.size : Int) := by omega
    rw [List.drop_eq_nil_of_le (by rw [list_size]; omega)]
    refine Ev.step (f := fun _ => some (n : Int)) (fun k => ?_) (Ev.now _)
    simp only [laws_marks9.l0]
    rw [if_neg c1]
  | succ d ih =>
    intro i hd hi n hn
    have hlt : i < s.size := by omega
    have c1 : (i : Int) < (s.size : Int) := by omega
    have c0 : (0 : Int) ≤ (i : Int) := by omega
    have wi : i < 9223372036854775807 := by omega
    have wn : n < 9223372036854775807 := by omega
    have hbt := bt_s s i hlt
    rw [drop_byte s i hlt, cntQ]
    by_cases h63 : s[i]'hlt = 63
    · have c2 : ((s[i]'hlt).toNat : Int) = 63 := b63.2 h63
      have := ih (i + 1) (by omega) (by omega) (n + 1) (by omega)
      rw [if_pos h63, ← Nat.add_assoc]
      refine Ev.step (fun k => ?_) this
      simp only [laws_marks9.l0]
      rw [if_pos c1, if_pos c0, hbt, if_pos c2, w64s n wn, w64s i wi]
    · have c2 : ¬ ((s[i]'hlt).toNat : Int) = 63 := fun h => h63 (b63.1 h)
      have := ih (i + 1) (by omega) (by omega) n (by omega)
      rw [if_neg h63, Nat.zero_add]
      refine Ev.step (fun k => ?_) this
      simp only [laws_marks9.l0]
      rw [if_pos c1, if_pos c0, hbt, if_neg c2, w64s i wi]
theorem marks_is (s : ByteArray) (hs : s.size ≤ 4294967296) : Ev (fun k => laws_marks9.f k s) (cntQ s.data.toList : Int) := by
  have := marks_l s hs s.size 0 (by omega) (by omega) 0 (by omega)
  rw [List.drop_zero, Nat.zero_add] at this
  exact this
/-- impl.Expanded at right arguments is the same. -/
theorem impl_is (s : ByteArray) (hs : s.size ≤ 65536) (l : List S37) (hl : l.length ≤ 1024) (hr : ∀ x ∈ l, rightR x ∧ x.f3.length ≤ 1024) : impl_Expanded.f s l = some (inP (inF s l)) := by
  rw [impl_Expanded.f, if_pos ⟨hs, hl, List.all_eq_true.2 fun x hx => by rw [(rightB_iff x).2 (hr x hx).1, decide_eq_true (hr x hx).2]; rfl⟩]
  cases inF s l <;> rfl
end Go.Proofs.Ytlclbfhnllknkaa.SX
