/-
  PLAIN: the reference's Expanded is the text whose lists' marks are as many as these have elements (texts of at most 2^16 bytes, at most 1024 values, lists of at most 1024).
-/
import Derived.Test.YtlclbfhnllknkaaSArgs0
import Derived.Test.YtlclbfhnllknkaaHExpI
import Derived.Test.YtlclbfhnllknkaaQE7
namespace Go.Proofs.Ytlclbfhnllknkaa.SX
open Go.RowKit Go.Proofs.Ytlclbfhnllknkaa.QE Go.Proofs.Ytlclbfhnllknkaa.H Go.Proofs.Ytlclbfhnllknkaa.SN Go.Proofs.YtlclbfhnllknkaaW.PrintWords Go.Proofs.YtlclbfhnllknkaaW.PrintLast Go.Proofs.YtlclbfhnllknkaaW.PrintMore
set_option linter.unusedVariables false
set_option linter.unusedSimpArgs false

def stQ : Nat → List UInt8
  | 0 => []
  | n + 1 => 63 :: repQ n
theorem stQ_one : stQ (0 + 1) = stQ 0 ++ [63] := rfl
theorem stQ_more (j : Nat) (h : 0 < j) : stQ (j + 1) = stQ j ++ [44, 32, 63] := by
  cases j with
  | zero => omega
  | succ n => simp [stQ, repQ]
theorem stQ_len : ∀ n, (stQ n).length ≤ 3 * n
  | 0 => by simp [stQ]
  | n + 1 => by
    rw [stQ, List.length_cons, repQ_len]
    omega
theorem sz1 (c : UInt8) : (⟨#[c]⟩ : ByteArray).size = 1 := rfl
theorem sz2 (c d : UInt8) : (⟨#[c, d]⟩ : ByteArray).size = 2 := rfl
theorem siz1 (x : ByteArray) (c : UInt8) : (x ++ (⟨#[c]⟩ : ByteArray)).size = x.size + 1 := by rw [ByteArray.size_append, sz1]
theorem list_size (x : ByteArray) : x.data.toList.length = x.size := by simp
theorem app_list (x y : ByteArray) : (x ++ y).data.toList = x.data.toList ++ y.data.toList := by simp
theorem bt_s (s : ByteArray) (i : Nat) (h : i < s.size) : bt s (i : Int) = ((s[i]'h).toNat : Int) := by simp [bt, h]
theorem b63 {c : UInt8} : ((c.toNat : Int) = 63) ↔ c = 63 := by
  constructor
  · intro h
    exact UInt8.toNat_inj.1 (by have : (63 : UInt8).toNat = 63 := rfl; omega)
  · intro h
    rw [h]
    rfl
theorem drop_byte (s : ByteArray) (i : Nat) (h : i < s.size) : s.data.toList.drop i = s[i]'h :: s.data.toList.drop (i + 1) := by
  rw [List.drop_eq_getElem_cons (by rw [list_size]; exact h)]
  rfl
def expP : Option (List UInt8 × List S37) → ByteArray × List S37 × Bool
  | some r => (⟨r.1.toArray⟩, r.2, true)
  | none => (⟨#[]⟩, [], false)
def inP : Option (ByteArray × List S37) → ByteArray × List S37 × Bool
  | some r => (r.1, r.2, true)
  | none => (⟨#[]⟩, [], false)
theorem exp_l2 (s : ByteArray) (l acc : List S37) (a i : Nat) (ha : a < l.length) (hn : (l[a]'ha).f3.length ≤ 1024) (hacc : acc.length ≤ 1048576) (base : List UInt8) (hb : base.length ≤ 16777216) (hl : l.length ≤ 1024) (hi : i ≤ 65536) (R : ByteArray × List S37 × Bool)
    (h : ∀ X : ByteArray, X.data.toList = base ++ stQ (l[a]'ha).f3.length → Ev (fun k => spec_Expanded.l1 k s l X (acc ++ (l[a]'ha).f3) ((a + 1 : Nat) : Int) ((i + 1 : Nat) : Int)) R) :
    ∀ (d j : Nat), (l[a]'ha).f3.length - j = d → j ≤ (l[a]'ha).f3.length → ∀ x4 : ByteArray, x4.data.toList = base ++ stQ j → Ev (fun k => spec_Expanded.l2 k s l x4 acc (a : Int) (i : Int) (j : Int)) R := by
  have c0 : (0 : Int) ≤ (a : Int) := by omega
  have c1 : (a : Int) < (l.length : Int) := by omega
  have hr := rdV l a ha
  have wa : a < 9223372036854775807 := by omega
  have wi : i < 9223372036854775807 := by omega
  intro d
  induction d with
  | zero =>
    intro j hd hj x4 hx
    have e : j = (l[a]'ha).f3.length := by omega
    have c2 : ¬ (j : Int) < ((l[a]'ha).f3.length : Int) := by omega
    have c3 : acc.length + (l[a]'ha).f3.length < 2513169434916 := by omega
    refine Ev.step (f := fun k => spec_Expanded.l1 k s l x4 (acc ++ (l[a]'ha).f3) ((a + 1 : Nat) : Int) ((i + 1 : Nat) : Int)) (fun k => ?_) (h x4 (by rw [hx, e]))
    simp only [spec_Expanded.l2]
    rw [if_pos c0, if_pos c1, hr, if_neg c2, if_pos c3, w64s a wa, w64s i wi]
  | succ d ih =>
    intro j hd hj x4 hx
    have c2 : (j : Int) < ((l[a]'ha).f3.length : Int) := by omega
    have wj : j < 9223372036854775807 := by omega
    have hq := stQ_len j
    have hsz : x4.size = base.length + (stQ j).length := by rw [← list_size, hx, List.length_append]
    by_cases h0 : j = 0
    · subst h0
      have c3 : ¬ ((0 : Nat) : Int) > 0 := by omega
      have c4 : x4.size + 1 ≤ 9223372036854775807 := by omega
      refine Ev.step (fun k => ?_) (ih (0 + 1) (by omega) (by omega) (x4 ++ ⟨#[63]⟩) (by rw [app_list, hx, stQ_one, ← List.append_assoc]))
      simp only [spec_Expanded.l2]
      rw [if_pos c0, if_pos c1, hr, if_pos c2, if_neg c3, if_pos c4, w64s 0 (by decide)]
    · have c3 : (j : Int) > 0 := by omega
      have c4 : x4.size + 2 ≤ 9223372036854775807 := by omega
      have c5 : (x4 ++ (⟨#[44, 32]⟩ : ByteArray)).size + 1 ≤ 9223372036854775807 := by
        rw [ByteArray.size_append, sz2]
        omega
      refine Ev.step (fun k => ?_) (ih (j + 1) (by omega) (by omega) ((x4 ++ ⟨#[44, 32]⟩) ++ ⟨#[63]⟩) (by rw [app_list, app_list, hx, stQ_more j (by omega), List.append_assoc, List.append_assoc]; rfl))
      simp only [spec_Expanded.l2]
      rw [if_pos c0, if_pos c1, hr, if_pos c2, if_pos c3, if_pos c4, if_pos c5, w64s j wj]
theorem exp_l1 (s : ByteArray) (hs : s.size ≤ 65536) (l : List S37) (hl : l.length ≤ 1024) (hr : ∀ x ∈ l, x.f3.length ≤ 1024) (hne : ∀ x ∈ l, x.f0 = 5 → x.f3.length ≠ 0) :
    ∀ (d i : Nat), s.size - i = d → i ≤ s.size → ∀ (a : Nat) (x4 : ByteArray) (acc : List S37), a ≤ l.length → x4.size ≤ i + 4096 * a → acc.length ≤ 1024 * a →
      Ev (fun k => spec_Expanded.l1 k s l x4 acc (a : Int) (i : Int)) (expP (expL (s.data.toList.drop i) (l.drop a) x4.data.toList acc)) := by
  intro d
  induction d with
  | zero =>
    intro i hd hi a x4 acc ha hx hacc
    have c1 : ¬ (i : Int) < (s.size : Int) := by omega
    rw [List.drop_eq_nil_of_le (by rw [list_size]; omega)]
    have h' : expL [] (l.drop a) x4.data.toList acc = if l.drop a = [] then some (x4.data.toList, acc) else none := rfl
    rw [h']
    by_cases h2 : a < l.length
    · have c2 : (a : Int) < (l.length : Int) := by omega
      rw [if_neg (fun e => by have := List.drop_eq_nil_iff.1 e; omega)]
      refine Ev.step (f := fun _ => some (expP none)) (fun k => ?_) (Ev.now _)
      simp only [spec_Expanded.l1]
      rw [if_neg c1, if_pos c2]
      rfl
    · have c2 : ¬ (a : Int) < (l.length : Int) := by omega
      rw [if_pos (List.drop_eq_nil_of_le (by omega))]
      refine Ev.step (f := fun _ => some (x4, acc, true)) (fun k => ?_) (Ev.now _)
      simp only [spec_Expanded.l1]
      rw [if_neg c1, if_neg c2]
  | succ d ih =>
    intro i hd hi a x4 acc ha hx hacc
    have hlt : i < s.size := by omega
    have c1 : (i : Int) < (s.size : Int) := by omega
    have c0 : (0 : Int) ≤ (i : Int) := by omega
    have wi : i < 9223372036854775807 := by omega
    have wa : a < 9223372036854775807 := by omega
    have hbt := bt_s s i hlt
    rw [drop_byte s i hlt]
    by_cases h63 : s[i]'hlt = 63
    · have c2 : ((s[i]'hlt).toNat : Int) = 63 := b63.2 h63
      rw [h63]
      by_cases h2 : a < l.length
      · have c3 : ¬ (a : Int) ≥ (l.length : Int) := by omega
        have c4 : (a : Int) < (l.length : Int) := by omega
        have c5 : (0 : Int) ≤ (a : Int) := by omega
        have hrd := rdV l a h2
        rw [List.drop_eq_getElem_cons h2]
        by_cases h5 : (l[a]'h2).f0 = 5
        · rw [expL_list _ _ _ _ _ h5]
          have hn := hr _ (List.getElem_mem h2)
          have hz := hne _ (List.getElem_mem h2) h5
          refine Ev.step (f := fun k => spec_Expanded.l2 k s l x4 acc (a : Int) (i : Int) ((0 : Nat) : Int)) (fun k => ?_) (exp_l2 s l acc a i h2 hn (by omega) x4.data.toList (by rw [list_size]; omega) hl (by omega) _ (fun X hX => ?_) _ 0 rfl (by omega) x4 (by simp [stQ]))
          · simp only [spec_Expanded.l1]
            rw [if_pos c1, if_pos c0, hbt, if_pos c2, if_neg c3, if_pos c5, if_pos c4, hrd, if_pos h5]
            rfl
          · have hst : stQ (l[a]'h2).f3.length = 63 :: repQ ((l[a]'h2).f3.length - 1) := by
              obtain ⟨m, hm⟩ : ∃ m, (l[a]'h2).f3.length = m + 1 := ⟨(l[a]'h2).f3.length - 1, by omega⟩
              rw [hm]
              rfl
            have hq := stQ_len (l[a]'h2).f3.length
            have := ih (i + 1) (by omega) (by omega) (a + 1) X (acc ++ (l[a]'h2).f3) (by omega) (by rw [← list_size, hX, List.length_append, list_size]; omega) (by rw [List.length_append]; omega)
            rw [hX, hst] at this
            exact this
        · rw [expL_val _ _ _ _ _ h5]
          have c6 : x4.size + 1 ≤ 9223372036854775807 := by omega
          have c7 : acc.length < 2513169434916 := by omega
          have := ih (i + 1) (by omega) (by omega) (a + 1) (x4 ++ ⟨#[63]⟩) (acc ++ [l[a]'h2]) (by omega) (by have := siz1 x4 63; omega) (by rw [List.length_append, List.length_singleton]; omega)
          rw [app_list, show (⟨#[63]⟩ : ByteArray).data.toList = [63] from rfl] at this
          refine Ev.step (fun k => ?_) this
          simp only [spec_Expanded.l1]
          rw [if_pos c1, if_pos c0, hbt, if_pos c2, if_neg c3, if_pos c5, if_pos c4, hrd, if_neg h5, if_pos c6, if_pos c7, w64s a wa, w64s i wi, eta_val]
      · have c3 : (a : Int) ≥ (l.length : Int) := by omega
        rw [show l.drop a = [] from List.drop_eq_nil_of_le (by omega), expL_none]
        refine Ev.step (f := fun _ => some (expP none)) (fun k => ?_) (Ev.now _)
        simp only [spec_Expanded.l1]
        rw [if_pos c1, if_pos c0, hbt, if_pos c2, if_pos c3]
        rfl
    · have c2 : ¬ ((s[i]'hlt).toNat : Int) = 63 := fun h => h63 (b63.1 h)
      rw [expL_other h63]
      have c3 : (i : Int) ≤ ((i + 1 : Nat) : Int) := by omega
      have c4 : ((i + 1 : Nat) : Int) ≤ (s.size : Int) := by omega
      have hone := one_extract s i hlt
      have c5 : x4.size + (⟨#[s[i]'hlt]⟩ : ByteArray).size ≤ 9223372036854775807 := by
        rw [sz1]
        omega
      have := ih (i + 1) (by omega) (by omega) a (x4 ++ ⟨#[s[i]'hlt]⟩) acc ha (by have := siz1 x4 (s[i]'hlt); omega) hacc
      rw [app_list, show (⟨#[s[i]'hlt]⟩ : ByteArray).data.toList = [s[i]'hlt] from rfl] at this
      refine Ev.step (fun k => ?_) this
      simp only [spec_Expanded.l1]
      rw [if_pos c1, if_pos c0, hbt, if_neg c2, w64s i wi, if_pos c3, if_pos c4, Int.toNat_natCast, Int.toNat_natCast, hone, if_pos c5]
theorem hasE_cons (x : S37) (l : List S37) : hasE (x :: l) = (decide (x.f0 = 5) && x.f3.isEmpty || hasE l) := rfl
theorem hasL_cons (x : S37) (l : List S37) : hasL (x :: l) = (decide (x.f0 = 5) || hasL l) := rfl
theorem exp_l0 (s : ByteArray) (l : List S37) (hl : l.length ≤ 1024) (R : ByteArray × List S37 × Bool) (h1 : hasE l = false → Ev (fun k => spec_Expanded.l1 k s l ⟨#[]⟩ [] 0 0) R) :
    ∀ (d i : Nat), l.length - i = d → i ≤ l.length → hasE (l.take i) = false → ∀ b : Bool,
      Ev (fun k => spec_Expanded.l0 k s l ⟨#[]⟩ [] b (i : Int)) (if hasE (l.drop i) = true then inP none else if (b || hasL (l.drop i)) = true then R else (s, l, true)) := by
  intro d
  induction d with
  | zero =>
    intro i hd hi ht b
    have c1 : ¬ (i : Int) < (l.length : Int) := by omega
    rw [List.drop_eq_nil_of_le (by omega)]
    rw [List.take_of_length_le (by omega)] at ht
    cases b with
    | true =>
      refine Ev.step (fun k => ?_) (h1 ht)
      simp only [spec_Expanded.l0]
      rw [if_neg c1, if_pos trivial]
    | false =>
      refine Ev.step (f := fun _ => some (s, l, true)) (fun k => ?_) (Ev.now _)
      simp only [spec_Expanded.l0]
      rw [if_neg c1, if_neg (by decide)]
  | succ d ih =>
    intro i hd hi ht b
    have hlt : i < l.length := by omega
    have c1 : (i : Int) < (l.length : Int) := by omega
    have c0 : (0 : Int) ≤ (i : Int) := by omega
    have wi : i < 9223372036854775807 := by omega
    have hrd := rdV l i hlt
    have htk : l.take (i + 1) = l.take i ++ [l[i]'hlt] := by rw [List.take_succ_eq_append_getElem hlt]
    rw [List.drop_eq_getElem_cons hlt, hasE_cons, hasL_cons]
    by_cases h5 : (l[i]'hlt).f0 = 5
    · rw [decide_eq_true h5, Bool.true_and, Bool.true_or, Bool.or_true]
      by_cases hz : (l[i]'hlt).f3.length = 0
      · have c2 : ((l[i]'hlt).f3.length : Int) = 0 := by omega
        rw [List.isEmpty_iff_length_eq_zero.2 hz, Bool.true_or, if_pos rfl]
        refine Ev.step (f := fun _ => some (inP none)) (fun k => ?_) (Ev.now _)
        simp only [spec_Expanded.l0]
        cases b with
        | true => rw [if_pos c1, hrd, if_pos rfl, if_pos c0, if_pos h5, if_pos c2]; rfl
        | false => rw [if_pos c1, hrd, if_neg (by decide), if_pos c0, if_pos h5, if_pos c2]; rfl
      · have c2 : ¬ ((l[i]'hlt).f3.length : Int) = 0 := by omega
        have he : (l[i]'hlt).f3.isEmpty = false := by
          cases hh : (l[i]'hlt).f3 with
          | nil => rw [hh] at hz; exact absurd rfl hz
          | cons _ _ => rfl
        rw [he, Bool.false_or]
        have := ih (i + 1) (by omega) (by omega) (by rw [htk, hasE_snoc, ht, he, Bool.and_false]; rfl) true
        rw [Bool.true_or] at this
        refine Ev.step (fun k => ?_) this
        simp only [spec_Expanded.l0]
        cases b with
        | true => rw [if_pos c1, hrd, if_pos rfl, if_pos c0, if_pos h5, if_neg c2, w64s i wi]
        | false => rw [if_pos c1, hrd, if_neg (by decide), if_pos c0, if_pos h5, if_neg c2, w64s i wi, h5]; rfl
    · rw [decide_eq_false h5, Bool.false_and, Bool.false_or, Bool.false_or]
      have := ih (i + 1) (by omega) (by omega) (by rw [htk, hasE_snoc, ht, decide_eq_false h5]; rfl) b
      refine Ev.step (fun k => ?_) this
      simp only [spec_Expanded.l0]
      cases b with
      | true => rw [if_pos c1, hrd, if_pos rfl, if_pos c0, if_neg h5, w64s i wi]
      | false => rw [if_pos c1, hrd, if_neg (by decide), if_pos c0, if_neg h5, w64s i wi, beq_false_of_ne h5]
theorem expanded_is (s : ByteArray) (hs : s.size ≤ 65536) (l : List S37) (hl : l.length ≤ 1024) (hr : ∀ x ∈ l, x.f3.length ≤ 1024) : Ev (fun k => spec_Expanded.f k s l) (inP (inF s l)) := by
  have h1 : hasE l = false → Ev (fun k => spec_Expanded.l1 k s l ⟨#[]⟩ [] 0 0) (expP (expL s.data.toList l [] [])) := fun he => by
    have hne : ∀ x ∈ l, x.f0 = 5 → x.f3.length ≠ 0 := fun x hx h5 hz => by
      have := List.any_eq_false.1 he x hx
      rw [decide_eq_true h5, List.isEmpty_iff_length_eq_zero.2 hz] at this
      exact this rfl
    exact exp_l1 s hs l hl hr hne s.size 0 (by omega) (by omega) 0 ⟨#[]⟩ [] (by omega) (Nat.zero_le _) (by simp)
  have := exp_l0 s l hl _ h1 l.length 0 (by omega) (by omega) rfl false
  rw [List.drop_zero, Bool.false_or] at this
  have e : inP (inF s l) = if hasE l = true then inP none else if hasL l = true then expP (expL s.data.toList l [] []) else (s, l, true) := by
    unfold inF
    by_cases h : hasE l = true
    · rw [if_pos h, if_pos h]
    · rw [if_neg h, if_neg h]
      by_cases h2 : hasL l = true
      · rw [if_neg (by rw [h2]; decide), if_pos h2]
        cases expL s.data.toList l [] [] <;> rfl
      · rw [if_pos (by simpa using h2), if_neg h2]
        rfl
  rw [e]
  exact this
end Go.Proofs.Ytlclbfhnllknkaa.SX
