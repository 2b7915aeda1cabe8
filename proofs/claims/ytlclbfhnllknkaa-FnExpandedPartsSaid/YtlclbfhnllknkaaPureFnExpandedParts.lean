/-
  PROVED: 'laws.FnExpandedParts': two texts, one behind the other, with the values of both, are written out part by part. No condition.
-/
import Derived.Test.YtlclbfhnllknkaaSMark9
import Derived.Test.YtlclbfhnllknkaaQE11
namespace Go.Proofs.Ytlclbfhnllknkaa.Pure
open Go.RowKit Go.Proofs.Ytlclbfhnllknkaa.QE Go.Proofs.Ytlclbfhnllknkaa.H Go.Proofs.Ytlclbfhnllknkaa.SN Go.Proofs.Ytlclbfhnllknkaa.SX Go.Proofs.YtlclbfhnllknkaaW.PrintWords Go.Proofs.YtlclbfhnllknkaaW.PrintLast Go.Proofs.YtlclbfhnllknkaaW.PrintMore
set_option linter.unusedVariables false
set_option linter.unusedSimpArgs false

theorem expL_acc : ∀ (t : List UInt8) (l : List S37) (out : List UInt8) (acc : List S37), expL t l out acc = (expL t l [] []).map fun r => (out ++ r.1, acc ++ r.2)
  | [], l, out, acc => by
    have h1 : ∀ o a, expL [] l o a = if l = [] then some (o, a) else none := fun _ _ => rfl
    rw [h1, h1]
    by_cases h : l = []
    · rw [if_pos h, if_pos h]
      simp
    · rw [if_neg h, if_neg h]
      rfl
  | c :: t, l, out, acc => by
    by_cases hc : c = 63
    · rw [hc]
      cases l with
      | nil =>
        rw [expL_none, expL_none]
        rfl
      | cons x xs =>
        by_cases h5 : x.f0 = 5
        · rw [expL_list _ _ _ _ _ h5, expL_list _ _ _ _ _ h5, expL_acc t xs, expL_acc t xs ([] ++ _), Option.map_map]
          congr 1
          funext r
          simp
        · rw [expL_val _ _ _ _ _ h5, expL_val _ _ _ _ _ h5, expL_acc t xs, expL_acc t xs ([] ++ _), Option.map_map]
          congr 1
          funext r
          simp
    · rw [expL_other hc, expL_other hc, expL_acc t l, expL_acc t l ([] ++ _), Option.map_map]
      congr 1
      funext r
      simp
theorem expL_app (t2 : List UInt8) (l2 : List S37) : ∀ (t1 : List UInt8) (l1 : List S37) (out : List UInt8) (acc : List S37) (r : List UInt8 × List S37), expL t1 l1 out acc = some r → expL (t1 ++ t2) (l1 ++ l2) out acc = expL t2 l2 r.1 r.2
  | [], l, out, acc, r, h => by
    have h' : (if l = [] then some (out, acc) else none) = some r := h
    by_cases hl : l = []
    · rw [if_pos hl] at h'
      injection h' with h'
      subst h' hl
      rfl
    · rw [if_neg hl] at h'
      cases h'
  | c :: t, l, out, acc, r, h => by
    rw [List.cons_append]
    by_cases hc : c = 63
    · rw [hc] at h ⊢
      cases l with
      | nil =>
        rw [expL_none] at h
        cases h
      | cons x xs =>
        rw [List.cons_append]
        by_cases h5 : x.f0 = 5
        · rw [expL_list _ _ _ _ _ h5] at h ⊢
          exact expL_app t2 l2 t xs _ _ r h
        · rw [expL_val _ _ _ _ _ h5] at h ⊢
          exact expL_app t2 l2 t xs _ _ r h
    · rw [expL_other hc] at h ⊢
      exact expL_app t2 l2 t l _ _ r h
theorem expL_flat : ∀ (t : List UInt8) (l : List S37) (out : List UInt8) (acc : List S37), cntQ t = l.length → hasL l = false → expL t l out acc = some (out ++ t, acc ++ l)
  | [], l, out, acc, h1, h2 => by
    have hl : l = [] := by
      cases l with
      | nil => rfl
      | cons _ _ => cases h1
    subst hl
    show some (out, acc) = _
    simp
  | c :: t, l, out, acc, h1, h2 => by
    rw [cntQ] at h1
    by_cases hc : c = 63
    · rw [if_pos hc] at h1
      cases l with
      | nil =>
        rw [List.length_nil] at h1
        omega
      | cons x xs =>
        rw [List.length_cons] at h1
        rw [hasL_cons, Bool.or_eq_false_iff] at h2
        rw [hc, expL_val _ _ _ _ _ (of_decide_eq_false h2.1), expL_flat t xs _ _ (by omega) h2.2]
        simp
    · rw [if_neg hc, Nat.zero_add] at h1
      rw [expL_other hc, expL_flat t l _ _ h1 h2]
      simp
theorem inF_exp {s : ByteArray} {l : List S37} (hq : cntQ s.data.toList = l.length) (hr : ∀ x ∈ l, x.f3.length ≤ 20) (hE : hasE l = false) : ∃ r, expL s.data.toList l [] [] = some r ∧ inF s l = some (⟨r.1.toArray⟩, r.2) := by
  cases hL : hasL l with
  | false =>
    refine ⟨(s.data.toList, l), by rw [expL_flat _ _ _ _ hq hL]; rfl, ?_⟩
    rw [inF_flat hL]
  | true =>
    obtain ⟨r, h1, _⟩ := expL_marks s.data.toList l [] [] hq (noE hE) hr rfl
    refine ⟨r, h1, ?_⟩
    rw [inF, hE, if_neg (by decide), if_neg (by rw [hL]; decide), h1]
    rfl
theorem inF_none {s : ByteArray} {l : List S37} (hE : hasE l = true) : inF s l = none := by rw [inF, if_pos hE]
theorem hasE_app (l m : List S37) : hasE (l ++ m) = (hasE l || hasE m) := List.any_append
theorem FnExpandedParts (a b : ByteArray) (x y : List S37) : ∃ k, laws_FnExpandedParts.f k a b x y = some true := by
  have j0T : Ev (fun k => laws_FnExpandedParts.j0 k a b x y true) true := Ev.step (f := fun _ => some true) (fun k => by simp only [laws_FnExpandedParts.j0]; rw [if_pos trivial]) (Ev.now _)
  have j1T : Ev (fun k => laws_FnExpandedParts.j1 k a b x y true) true := Ev.step (f := fun _ => some true) (fun k => by simp only [laws_FnExpandedParts.j1]; rw [if_pos trivial]) (Ev.now _)
  refine Ev.rounds (g := fun k => laws_FnExpandedParts.f k a b x y) ?_
  by_cases h1 : (a.size : Int) > 2147483647
  · exact Ev.congr (fun k => by simp only [laws_FnExpandedParts.f]; rw [if_pos h1]) j0T
  by_cases h2 : (b.size : Int) > 2147483647
  · exact Ev.congr (fun k => by simp only [laws_FnExpandedParts.f]; rw [if_neg h1, if_pos h2]) j0T
  by_cases h3 : (x.length : Int) > 2147483647
  · exact Ev.congr (fun k => by simp only [laws_FnExpandedParts.f]; rw [if_neg h1, if_neg h2, if_pos h3]) j0T
  by_cases h4 : (y.length : Int) > 2147483647
  · exact Ev.congr (fun k => by simp only [laws_FnExpandedParts.f]; rw [if_neg h1, if_neg h2, if_neg h3, decide_eq_true h4]) j0T
  refine Ev.congr (f := fun k => laws_FnExpandedParts.j0 k a b x y false) (fun k => by simp only [laws_FnExpandedParts.f]; rw [if_neg h1, if_neg h2, if_neg h3, decide_eq_false h4]) ?_
  by_cases h5 : (a.size : Int) > 1000
  · refine Ev.step (fun k => ?_) j1T
    simp only [laws_FnExpandedParts.j0]
    rw [if_neg (by decide), if_pos h5]
  by_cases h6 : (b.size : Int) > 1000
  · refine Ev.step (fun k => ?_) j1T
    simp only [laws_FnExpandedParts.j0]
    rw [if_neg (by decide), if_neg h5, if_pos h6]
  obtain ⟨bx, hX, hbx⟩ := args9_is x
  obtain ⟨by', hY, hby⟩ := args9_is y
  have hMa := marks_is a (by omega)
  have hMb := marks_is b (by omega)
  refine Ev.step (f := fun k => (laws_args9.f k x).bind fun t178 => (if t178 = true then ((laws_args9.f k y).bind fun t179 => (if t179 = true then ((laws_marks9.f k a).bind fun t180 => (if t180 = (x.length : Int) then ((laws_marks9.f k b).bind fun t181 => (if t181 = (y.length : Int) then (laws_FnExpandedParts.j1 k a b x y (decide ((wrap64 ((x.length : Int) + (y.length : Int))) > 50))) else (laws_FnExpandedParts.j1 k a b x y true))) else (laws_FnExpandedParts.j1 k a b x y true))) else (laws_FnExpandedParts.j1 k a b x y true))) else (laws_FnExpandedParts.j1 k a b x y true))) (fun k => ?_) (Ev.bind hX ?_)
  · simp only [laws_FnExpandedParts.j0]
    rw [if_neg (by decide), if_neg h5, if_neg h6]
  cases bx with
  | false => exact Ev.congr (fun k => by rw [if_neg (by decide)]) j1T
  | true =>
  refine Ev.congr (f := fun k => (laws_args9.f k y).bind fun t179 => (if t179 = true then ((laws_marks9.f k a).bind fun t180 => (if t180 = (x.length : Int) then ((laws_marks9.f k b).bind fun t181 => (if t181 = (y.length : Int) then (laws_FnExpandedParts.j1 k a b x y (decide ((wrap64 ((x.length : Int) + (y.length : Int))) > 50))) else (laws_FnExpandedParts.j1 k a b x y true))) else (laws_FnExpandedParts.j1 k a b x y true))) else (laws_FnExpandedParts.j1 k a b x y true))) (fun k => by rw [if_pos rfl]) (Ev.bind hY ?_)
  cases by' with
  | false => exact Ev.congr (fun k => by rw [if_neg (by decide)]) j1T
  | true =>
  refine Ev.congr (f := fun k => (laws_marks9.f k a).bind fun t180 => (if t180 = (x.length : Int) then ((laws_marks9.f k b).bind fun t181 => (if t181 = (y.length : Int) then (laws_FnExpandedParts.j1 k a b x y (decide ((wrap64 ((x.length : Int) + (y.length : Int))) > 50))) else (laws_FnExpandedParts.j1 k a b x y true))) else (laws_FnExpandedParts.j1 k a b x y true))) (fun k => by rw [if_pos rfl]) (Ev.bind hMa ?_)
  by_cases hna : ¬ (cntQ a.data.toList : Int) = (x.length : Int)
  · exact Ev.congr (fun k => by rw [if_neg hna]) j1T
  have hqa := Decidable.not_not.1 hna
  refine Ev.congr (f := fun k => (laws_marks9.f k b).bind fun t181 => (if t181 = (y.length : Int) then (laws_FnExpandedParts.j1 k a b x y (decide ((wrap64 ((x.length : Int) + (y.length : Int))) > 50))) else (laws_FnExpandedParts.j1 k a b x y true))) (fun k => by rw [if_pos hqa]) (Ev.bind hMb ?_)
  by_cases hnb : ¬ (cntQ b.data.toList : Int) = (y.length : Int)
  · exact Ev.congr (fun k => by rw [if_neg hnb]) j1T
  have hqb := Decidable.not_not.1 hnb
  refine Ev.congr (f := fun k => laws_FnExpandedParts.j1 k a b x y (decide ((wrap64 ((x.length : Int) + (y.length : Int))) > 50))) (fun k => by rw [if_pos hqb]) ?_
  cases hc : decide ((wrap64 ((x.length : Int) + (y.length : Int))) > 50) with
  | true => exact j1T
  | false =>
    obtain ⟨hlx, hrx⟩ := hbx rfl
    obtain ⟨hly, hry⟩ := hby rfl
    clear hc
    have hrx' : ∀ z ∈ x, rightR z ∧ z.f3.length ≤ 1024 := fun z hz => ⟨(hrx z hz).1, by have := (hrx z hz).2; omega⟩
    have hry' : ∀ z ∈ y, rightR z ∧ z.f3.length ≤ 1024 := fun z hz => ⟨(hry z hz).1, by have := (hry z hz).2; omega⟩
    have hrz : ∀ z ∈ x ++ y, rightR z ∧ z.f3.length ≤ 20 := fun z hz => (List.mem_append.1 hz).elim (hrx z) (hry z)
    have hrz' : ∀ z ∈ x ++ y, rightR z ∧ z.f3.length ≤ 1024 := fun z hz => (List.mem_append.1 hz).elim (hrx' z) (hry' z)
    have hsz : (a ++ b).size = a.size + b.size := ByteArray.size_append
    have hln : (x ++ y).length = x.length + y.length := List.length_append
    have ix := impl_is a (by omega) x (by omega) hrx'
    have iy := impl_is b (by omega) y (by omega) hry'
    have iz := impl_is (a ++ b) (by omega) (x ++ y) (by omega) hrz'
    have sx := expanded_is a (by omega) x (by omega) (fun z hz => (hrx' z hz).2)
    have sy := expanded_is b (by omega) y (by omega) (fun z hz => (hry' z hz).2)
    have l1 : a.size + b.size ≤ 9223372036854775807 := by omega
    have l2 : ([] : List S37).length + x.length < 2513169434916 := by rw [List.length_nil]; omega
    have l3 : ([] ++ x : List S37).length + y.length < 2513169434916 := by rw [List.nil_append]; omega
    refine Ev.step (f := fun k => (spec_Expanded.f k a x).bind fun bt206 => ((spec_Expanded.f k b y).bind fun bt211 => (if bt206.2.2 = true then (if bt211.2.2 = true then (if (inP (inF a x)).2.2 = true then (if (inP (inF b y)).2.2 = true then (if (inP (inF (a ++ b) (x ++ y))).2.2 = true then (if (inP (inF a x)).1.size + (inP (inF b y)).1.size ≤ 9223372036854775807 then (if (inP (inF (a ++ b) (x ++ y))).1.toList = ((inP (inF a x)).1 ++ (inP (inF b y)).1).toList then ((some (([] : List (S37)) : List (S37))).bind fun y216 => (if y216.length + (inP (inF a x)).2.1.length < 2513169434916 then ((some (y216 ++ (inP (inF a x)).2.1 : List (S37))).bind fun y219 => (if y219.length + (inP (inF b y)).2.1.length < 2513169434916 then ((spec_EqualValues.f (inP (inF (a ++ b) (x ++ y))).2.1 (y219 ++ (inP (inF b y)).2.1)).bind fun t225 => (some t225)) else (none))) else (none))) else (some false)) else (none)) else (some false)) else (some false)) else (some false)) else (if ((inP (inF a x)).2.2 == bt206.2.2) = true then (if ((inP (inF b y)).2.2 == bt211.2.2) = true then (some (!(inP (inF (a ++ b) (x ++ y))).2.2)) else (some false)) else (some false))) else (if ((inP (inF a x)).2.2 == bt206.2.2) = true then (if ((inP (inF b y)).2.2 == bt211.2.2) = true then (some (!(inP (inF (a ++ b) (x ++ y))).2.2)) else (some false)) else (some false)))) ) (fun k => ?_) (Ev.bind sx (Ev.bind sy (Ev.congr (f := fun _ => some true) (fun k => ?_) (Ev.now true))))
    · simp only [laws_FnExpandedParts.j1]
      rw [if_neg (by decide), ix, Option.bind_some, iy, Option.bind_some, if_pos l1, Option.bind_some, if_pos l2, Option.bind_some, if_pos l3, List.nil_append, iz, Option.bind_some]
    · by_cases hEa : hasE x = true
      · have hEz : hasE (x ++ y) = true := by rw [hasE_app, hEa, Bool.true_or]
        rw [inF_none hEa, inF_none hEz]
        generalize inP (inF b y) = q
        show (if (q.2.2 == q.2.2) = true then some true else some false) = some true
        rw [if_pos (beq_self_eq_true _)]
      by_cases hEb : hasE y = true
      · have hEz : hasE (x ++ y) = true := by rw [hasE_app, hEb, Bool.or_true]
        obtain ⟨r1, e1, e2⟩ := inF_exp (s := a) (l := x) (by omega) (fun z hz => (hrx z hz).2) (by simpa using hEa)
        rw [inF_none hEb, inF_none hEz, e2]
        rfl
      have hEa' : hasE x = false := by simpa using hEa
      have hEb' : hasE y = false := by simpa using hEb
      obtain ⟨r1, e1, e2⟩ := inF_exp (s := a) (l := x) (by omega) (fun z hz => (hrx z hz).2) hEa'
      obtain ⟨r2, e3, e4⟩ := inF_exp (s := b) (l := y) (by omega) (fun z hz => (hry z hz).2) hEb'
      have hqz : cntQ (a ++ b).data.toList = (x ++ y).length := by
        rw [app_list, cntQ_app, hln]
        omega
      obtain ⟨r3, e5, e6⟩ := inF_exp (s := a ++ b) (l := x ++ y) hqz (fun z hz => (hrz z hz).2) (by rw [hasE_app, hEa', hEb']; rfl)
      have e7 : r3 = (r1.1 ++ r2.1, r1.2 ++ r2.2) := by
        rw [app_list, expL_app _ _ _ _ _ _ _ e1, expL_acc, e3] at e5
        exact (Option.some.inj e5).symm
      have g1 := inF_good hrx' (by omega) e2
      have g2 := inF_good hry' (by omega) e4
      have g3 := inF_good hrz' (by omega) e6
      have hm1 : r1.1.length ≤ 4000 := by
        obtain ⟨q, f1, _, f3⟩ := expL_marks a.data.toList x [] [] (by omega) (noE hEa') (fun z hz => (hrx z hz).2) rfl
        rw [e1] at f1
        injection f1 with f1
        rw [← f1, list_size, List.length_nil] at f3
        omega
      have hm2 : r2.1.length ≤ 4000 := by
        obtain ⟨q, f1, _, f3⟩ := expL_marks b.data.toList y [] [] (by omega) (noE hEb') (fun z hz => (hry z hz).2) rfl
        rw [e3] at f1
        injection f1 with f1
        rw [← f1, list_size, List.length_nil] at f3
        omega
      have k1 : (⟨r1.1.toArray⟩ : ByteArray).size + (⟨r2.1.toArray⟩ : ByteArray).size ≤ 9223372036854775807 := by
        have u1 : (⟨r1.1.toArray⟩ : ByteArray).size = r1.1.length := rfl
        have u2 : (⟨r2.1.toArray⟩ : ByteArray).size = r2.1.length := rfl
        omega
      have k2 : (⟨(r1.1 ++ r2.1).toArray⟩ : ByteArray) = ⟨r1.1.toArray⟩ ++ ⟨r2.1.toArray⟩ := ByteArray.ext (by simp)
      have k3 : ([] : List S37).length + r1.2.length < 2513169434916 := by
        have : r1.2.length ≤ 1048576 := g1.1
        rw [List.length_nil]
        omega
      have k4 : ([] ++ r1.2 : List S37).length + r2.2.length < 2513169434916 := by
        have u1 : r1.2.length ≤ 1048576 := g1.1
        have u2 : r2.2.length ≤ 1048576 := g2.1
        rw [List.nil_append]
        omega
      have hd : ∀ z ∈ r1.2 ++ r2.2, deep 2 z := fun z hz => (List.mem_append.1 hz).elim (fun h => right_deep (g1.2 z h).1) (fun h => right_deep (g2.2 z h).1)
      rw [e2, e4, e6, e7]
      show (if (true : Bool) = true then (if (true : Bool) = true then (if (true : Bool) = true then (if (true : Bool) = true then (if (true : Bool) = true then (if (⟨r1.1.toArray⟩ : ByteArray).size + (⟨r2.1.toArray⟩ : ByteArray).size ≤ 9223372036854775807 then (if (⟨(r1.1 ++ r2.1).toArray⟩ : ByteArray).toList = ((⟨r1.1.toArray⟩ : ByteArray) ++ ⟨r2.1.toArray⟩).toList then ((some (([] : List (S37)) : List (S37))).bind fun y216 => (if y216.length + r1.2.length < 2513169434916 then ((some (y216 ++ r1.2 : List (S37))).bind fun y219 => (if y219.length + r2.2.length < 2513169434916 then ((spec_EqualValues.f (r1.2 ++ r2.2) (y219 ++ r2.2)).bind fun t225 => (some t225)) else (none))) else (none))) else (some false)) else (none)) else (some false)) else (some false)) else (some false)) else _) else _) = some true
      rw [if_pos rfl, if_pos rfl, if_pos rfl, if_pos rfl, if_pos rfl, if_pos k1, if_pos (by rw [k2]), Option.bind_some, if_pos k3, Option.bind_some, if_pos k4, List.nil_append, equal_self _ hd, Option.bind_some]
end Go.Proofs.Ytlclbfhnllknkaa.Pure
