/-
  PLAIN: the reference's ArgsRight and ValuesOf.
-/
import Derived.Test.YtlclbfhnllknkaaHNamed0
import Derived.Test.YtlclbfhnllknkaaHArgsB
import Derived.Test.YtlclbfhnllknkaaHEqual
import Derived.Lib.Strings
import Derived.Handy
import Derived.Test.YtlclbfhnllknkaaQE1
import Derived.Test.YtlclbfhnllknkaaQE2
import Derived.Test.YtlclbfhnllknkaaQE3
import Derived.Test.YtlclbfhnllknkaaQE4
namespace Go.Proofs.Ytlclbfhnllknkaa.SN
open Go.RowKit Go.Proofs.Ytlclbfhnllknkaa.QE Go.Proofs.Ytlclbfhnllknkaa.H Go.Proofs.YtlclbfhnllknkaaW.PrintWords Go.Proofs.YtlclbfhnllknkaaW.PrintLast Go.Proofs.YtlclbfhnllknkaaW.PrintMore
set_option linter.unusedVariables false
set_option linter.unusedSimpArgs false

theorem list_eq {a b : ByteArray} : a.toList = b.toList ↔ a = b := by
  rw [Lib.toList_data, Lib.toList_data, Array.toList_inj]
  exact ⟨fun h => ByteArray.ext h, fun h => by rw [h]⟩
theorem list_nil {a : ByteArray} (h : a.toList = ([] : List UInt8)) : a = ⟨#[]⟩ := by
  rw [Lib.toList_data] at h
  exact ByteArray.ext (Array.toList_inj.1 h)
theorem w64s (i : Nat) (h : i < 9223372036854775807) : wrap64 ((i : Int) + 1) = ((i + 1 : Nat) : Int) := by
  rw [IntWalk.wrap64_in _ (by omega)]
  omega
theorem flat_is (x : S37) : ∃ b, spec_flat.f x.f0 x.f1 x.f2 x.f3 = some b ∧ (b = true → atomR x) := by
  unfold spec_flat.f
  by_cases h0 : x.f0 ≥ 0
  · by_cases h4 : x.f0 ≤ 4
    · by_cases hl : (x.f3.length : Int) = 0
      · have hn : x.f3 = [] := List.eq_nil_of_length_eq_zero (by omega)
        rw [if_pos h0, if_pos h4, if_pos hl]
        by_cases h1 : x.f1 = 0
        · rw [if_pos h1]
          by_cases h2 : x.f2.toList = ([] : List UInt8)
          · rw [if_pos h2]
            exact ⟨_, rfl, fun _ => ⟨h0, h4, hn, .inl h1, .inl (list_nil h2)⟩⟩
          · rw [if_neg h2]
            by_cases h3 : x.f0 = 2
            · rw [if_pos h3]
              exact ⟨_, rfl, fun _ => ⟨h0, h4, hn, .inl h1, .inr h3⟩⟩
            · rw [if_neg h3]
              exact ⟨_, rfl, fun h => by cases h⟩
        · rw [if_neg h1]
          by_cases h5 : x.f0 = 1
          · rw [if_pos h5]
            by_cases h2 : x.f2.toList = ([] : List UInt8)
            · rw [if_pos h2]
              exact ⟨_, rfl, fun _ => ⟨h0, h4, hn, .inr h5, .inl (list_nil h2)⟩⟩
            · rw [if_neg h2, if_neg (by omega)]
              exact ⟨_, rfl, fun h => by cases h⟩
          · rw [if_neg h5]
            exact ⟨_, rfl, fun h => by cases h⟩
      · rw [if_pos h0, if_pos h4, if_neg hl]
        exact ⟨_, rfl, fun h => by cases h⟩
    · rw [if_pos h0, if_neg h4]
      exact ⟨_, rfl, fun h => by cases h⟩
  · rw [if_neg h0]
    exact ⟨_, rfl, fun h => by cases h⟩
theorem rdV (l : List S37) (j : Nat) (h : j < l.length) : rd_T37 l (j : Int) = l[j] := by
  unfold rd_T37
  rw [Int.toNat_natCast, List.getD_eq_getElem?_getD, List.getElem?_eq_getElem h]
  rfl
theorem rdA (l : List S41) (j : Nat) (h : j < l.length) : rd_T41 l (j : Int) = l[j] := by
  unfold rd_T41
  rw [Int.toNat_natCast, List.getD_eq_getElem?_getD, List.getElem?_eq_getElem h]
  rfl
theorem argument_l (q0 q1 : Int) (q2 : ByteArray) (l : List S37) (hl : l.length ≤ 20) : ∀ (d i : Nat), l.length - i = d → i ≤ l.length → ∃ b, Ev (fun k => spec_ArgumentRight.l0 k i q0 q1 q2 l) b ∧ (b = true → ∀ j, i ≤ j → (h : j < l.length) → atomR (l[j]'h)) := by
  intro d
  induction d with
  | zero =>
    intro i hd hi
    have c1 : ¬ (i : Int) < (l.length : Int) := by omega
    exact ⟨true, Ev.step (f := fun _ => some true) (fun k => by simp only [spec_ArgumentRight.l0]; rw [if_neg c1]) (Ev.now _), fun _ j h1 h2 => by omega⟩
  | succ d ih =>
    intro i hd hi
    have hlt : i < l.length := by omega
    have c1 : (i : Int) < (l.length : Int) := by omega
    have c0 : (0 : Int) ≤ (i : Int) := by omega
    have e1 := w64s i (by omega)
    have hr := rdV l i hlt
    by_cases h5 : l[i].f0 = 5
    · refine ⟨false, Ev.step (f := fun _ => some false) (fun k => ?_) (Ev.now _), fun h => by cases h⟩
      simp only [spec_ArgumentRight.l0]
      rw [if_pos c1, if_pos c0, hr, if_pos h5]
    · obtain ⟨b, hb, hok⟩ := flat_is l[i]
      cases b with
      | false =>
        refine ⟨false, Ev.step (f := fun _ => some false) (fun k => ?_) (Ev.now _), fun h => by cases h⟩
        simp only [spec_ArgumentRight.l0]
        rw [if_pos c1, if_pos c0, hr, if_neg h5, hb, Option.bind_some, if_neg (by decide)]
      | true =>
        obtain ⟨b2, hE, hb2⟩ := ih (i + 1) (by omega) (by omega)
        refine ⟨b2, Ev.step (fun k => ?_) hE, fun h j h1 h2 => ?_⟩
        · simp only [spec_ArgumentRight.l0]
          rw [if_pos c1, if_pos c0, hr, if_neg h5, hb, Option.bind_some, if_pos rfl, e1]
        · rcases Nat.eq_or_lt_of_le h1 with h3 | h3
          · subst h3
            exact hok rfl
          · exact hb2 h j h3 h2
theorem argument_is (x : S37) : ∃ b, Ev (fun k => spec_ArgumentRight.f k x.f0 x.f1 x.f2 x.f3) b ∧ (b = true → rightR x ∧ x.f3.length ≤ 20) := by
  have jT : ∀ q0 q1 q2 q3, Ev (fun k => spec_ArgumentRight.j0 k true q0 q1 q2 q3) false := fun q0 q1 q2 q3 =>
    Ev.step (f := fun _ => some false) (fun k => by simp only [spec_ArgumentRight.j0]; rw [if_pos trivial]) (Ev.now _)
  by_cases h5 : x.f0 = 5
  · by_cases h1 : x.f1 = 0
    · by_cases h2 : x.f2.toList = ([] : List UInt8)
      · by_cases hl : (x.f3.length : Int) > 20
        · refine ⟨false, Ev.congr (fun k => ?_) (jT x.f0 x.f1 x.f2 x.f3), fun h => by cases h⟩
          simp only [spec_ArgumentRight.f]
          rw [if_pos h5, if_pos h1, if_pos h2, decide_eq_true hl]
        · obtain ⟨b, hE, hb⟩ := argument_l x.f0 x.f1 x.f2 x.f3 (by omega) x.f3.length 0 (by omega) (by omega)
          refine ⟨b, Ev.congr (f := fun k => spec_ArgumentRight.j0 k false x.f0 x.f1 x.f2 x.f3) (fun k => ?_) (Ev.step (fun k => ?_) hE), fun h => ⟨.inr ⟨h5, h1, list_nil h2, fun y hy => ?_⟩, by omega⟩⟩
          · simp only [spec_ArgumentRight.f]
            rw [if_pos h5, if_pos h1, if_pos h2, decide_eq_false hl]
          · simp only [spec_ArgumentRight.j0]
            rw [if_neg (by decide)]
            rfl
          · obtain ⟨j, hj, rfl⟩ := List.mem_iff_getElem.1 hy
            exact hb h j (by omega) hj
      · refine ⟨false, Ev.congr (fun k => ?_) (jT x.f0 x.f1 x.f2 x.f3), fun h => by cases h⟩
        simp only [spec_ArgumentRight.f]
        rw [if_pos h5, if_pos h1, if_neg h2]
    · refine ⟨false, Ev.congr (fun k => ?_) (jT x.f0 x.f1 x.f2 x.f3), fun h => by cases h⟩
      simp only [spec_ArgumentRight.f]
      rw [if_pos h5, if_neg h1]
  · obtain ⟨b, hb, hok⟩ := flat_is x
    refine ⟨b, Ev.congr (fun k => ?_) (Ev.now b), fun h => ⟨.inl (hok h), ?_⟩⟩
    · simp only [spec_ArgumentRight.f]
      rw [if_neg h5, hb, Option.bind_some]
    · rw [(hok h).2.2.1]
      simp
/-- What ArgsRight says of the arguments from a place on. -/
def FromOk (l : List S41) (i : Nat) : Prop := l.length ≤ 20 ∧ ∀ j, i ≤ j → (h : j < l.length) → (rightR (l[j]'h).f1 ∧ (l[j]'h).f1.f3.length ≤ 20 ∧ (l[j]'h).f0.size ≤ 1048576) ∧ ∀ m, (hm : m < j) → (l[m]'(by omega)).f0 ≠ (l[j]'h).f0
theorem args_l1 (l : List S41) (hl : l.length ≤ 9223372036854775807) (i : Nat) (hi : i < l.length) (b : Bool) (hE : Ev (fun k => spec_ArgsRight.l0 k l ((i + 1 : Nat) : Int)) b) (hb : b = true → FromOk l (i + 1)) :
    ∀ (d m : Nat), i - m = d → m ≤ i → ∃ b, Ev (fun k => spec_ArgsRight.l1 k l i m) b ∧ (b = true → FromOk l (i + 1) ∧ ∀ n, m ≤ n → (hn : n < i) → (l[n]'(by omega)).f0 ≠ (l[i]'hi).f0) := by
  intro d
  induction d with
  | zero =>
    intro m hd hm
    have c1 : ¬ (m : Int) < (i : Int) := by omega
    refine ⟨b, Ev.step (fun k => ?_) hE, fun h => ⟨hb h, fun n h1 h2 => by omega⟩⟩
    simp only [spec_ArgsRight.l1]
    rw [if_neg c1, w64s i (by omega)]
  | succ d ih =>
    intro m hd hm
    have c1 : (m : Int) < (i : Int) := by omega
    have c2 : (0 : Int) ≤ (m : Int) := by omega
    have c3 : (m : Int) < (l.length : Int) := by omega
    have c4 : (0 : Int) ≤ (i : Int) := by omega
    have c5 : (i : Int) < (l.length : Int) := by omega
    have hr := rdA l m (by omega)
    have hr2 := rdA l i hi
    by_cases he : (l[m]'(by omega)).f0 = l[i].f0
    · refine ⟨false, Ev.step (f := fun _ => some false) (fun k => ?_) (Ev.now _), fun h => by cases h⟩
      simp only [spec_ArgsRight.l1]
      rw [if_pos c1, if_pos c2, if_pos c3, if_pos c4, if_pos c5, hr, hr2, if_pos (list_eq.2 he)]
    · obtain ⟨b2, hE2, hb2⟩ := ih (m + 1) (by omega) (by omega)
      refine ⟨b2, Ev.step (fun k => ?_) hE2, fun h => ⟨(hb2 h).1, fun n h1 h2 => ?_⟩⟩
      · simp only [spec_ArgsRight.l1]
        rw [if_pos c1, if_pos c2, if_pos c3, if_pos c4, if_pos c5, hr, hr2, if_neg (fun h => he (list_eq.1 h)), w64s m (by omega)]
      · rcases Nat.eq_or_lt_of_le h1 with h3 | h3
        · subst h3
          exact he
        · exact (hb2 h).2 n h3 h2
theorem args_l0 (l : List S41) (hl : l.length ≤ 9223372036854775807) : ∀ (d i : Nat), l.length - i = d → i ≤ l.length → ∃ b, Ev (fun k => spec_ArgsRight.l0 k l i) b ∧ (b = true → FromOk l i) := by
  intro d
  induction d with
  | zero =>
    intro i hd hi
    have c1 : ¬ (i : Int) < (l.length : Int) := by omega
    refine ⟨decide ((l.length : Int) ≤ 20), Ev.step (fun k => ?_) (Ev.now _), fun h => ⟨by have := of_decide_eq_true h; omega, fun j h1 h2 => by omega⟩⟩
    simp only [spec_ArgsRight.l0]
    rw [if_neg c1]
  | succ d ih =>
    intro i hd hi
    have hlt : i < l.length := by omega
    have c1 : (i : Int) < (l.length : Int) := by omega
    have c0 : (0 : Int) ≤ (i : Int) := by omega
    have hr := rdA l i hlt
    have jT : Ev (fun k => spec_ArgsRight.j1 k l i true) false := Ev.step (f := fun _ => some false) (fun k => by simp only [spec_ArgsRight.j1]; rw [if_pos trivial]) (Ev.now _)
    obtain ⟨b, hE, hok⟩ := argument_is l[i].f1
    cases b with
    | false =>
      refine ⟨false, Ev.step (f := fun k => (spec_ArgumentRight.f k l[i].f1.f0 l[i].f1.f1 l[i].f1.f2 l[i].f1.f3).bind fun t => if t = true then spec_ArgsRight.j1 k l i (decide ((l[i].f0.size : Int) > 100)) else spec_ArgsRight.j1 k l i true) (fun k => ?_) (Ev.bind hE ?_), fun h => by cases h⟩
      · simp only [spec_ArgsRight.l0]
        rw [if_pos c1, if_pos c0, hr]
      · exact Ev.congr (fun k => by rw [if_neg (by decide)]) jT
    | true =>
      by_cases hz : (l[i].f0.size : Int) > 100
      · refine ⟨false, Ev.step (f := fun k => (spec_ArgumentRight.f k l[i].f1.f0 l[i].f1.f1 l[i].f1.f2 l[i].f1.f3).bind fun t => if t = true then spec_ArgsRight.j1 k l i (decide ((l[i].f0.size : Int) > 100)) else spec_ArgsRight.j1 k l i true) (fun k => ?_) (Ev.bind hE ?_), fun h => by cases h⟩
        · simp only [spec_ArgsRight.l0]
          rw [if_pos c1, if_pos c0, hr]
        · exact Ev.congr (fun k => by rw [if_pos rfl, decide_eq_true hz]) jT
      · obtain ⟨b1, hE1, hb1⟩ := ih (i + 1) (by omega) (by omega)
        obtain ⟨b2, hE2, hb2⟩ := args_l1 l hl i hlt b1 hE1 hb1 i 0 (by omega) (by omega)
        refine ⟨b2, Ev.step (f := fun k => (spec_ArgumentRight.f k l[i].f1.f0 l[i].f1.f1 l[i].f1.f2 l[i].f1.f3).bind fun t => if t = true then spec_ArgsRight.j1 k l i (decide ((l[i].f0.size : Int) > 100)) else spec_ArgsRight.j1 k l i true) (fun k => ?_) (Ev.bind hE ?_), fun h => ⟨(hb2 h).1.1, fun j h1 h2 => ?_⟩⟩
        · simp only [spec_ArgsRight.l0]
          rw [if_pos c1, if_pos c0, hr]
        · refine Ev.congr (f := fun k => spec_ArgsRight.j1 k l i false) (fun k => by rw [if_pos rfl, decide_eq_false hz]) (Ev.step (fun k => ?_) hE2)
          simp only [spec_ArgsRight.j1]
          rw [if_neg (by decide)]
          rfl
        · rcases Nat.eq_or_lt_of_le h1 with h3 | h3
          · subst h3
            exact ⟨⟨(hok rfl).1, (hok rfl).2, by omega⟩, fun m hm => (hb2 h).2 m (by omega) hm⟩
          · exact (hb2 h).1.2 j h3 h2
theorem args_lens (l : List S41) (hl : l.length ≤ 9223372036854775807) : ∃ b, Ev (fun k => spec_ArgsRight.f k l) b ∧ (b = true → (ArgsOk l ∧ l.length ≤ 20) ∧ ∀ x ∈ l, x.f1.f3.length ≤ 20) := by
  obtain ⟨b, hE, hb⟩ := args_l0 l hl l.length 0 (by omega) (by omega)
  refine ⟨b, hE, fun h => ?_⟩
  obtain ⟨h1, h2⟩ := hb h
  refine ⟨⟨⟨by omega, fun x hx => ?_, ?_⟩, h1⟩, fun x hx => ?_⟩
  · obtain ⟨j, hj, rfl⟩ := List.mem_iff_getElem.1 hx
    have := (h2 j (by omega) hj).1
    exact ⟨this.1, by have := this.2.1; omega, this.2.2⟩
  · rw [List.pairwise_iff_getElem]
    intro i j hi hj hij
    exact (h2 j (by omega) hj).2 i hij
  · obtain ⟨j, hj, rfl⟩ := List.mem_iff_getElem.1 hx
    exact (h2 j (by omega) hj).1.2.1
theorem args_is (l : List S41) (hl : l.length ≤ 9223372036854775807) : ∃ b, Ev (fun k => spec_ArgsRight.f k l) b ∧ (b = true → ArgsOk l ∧ l.length ≤ 20) := by
  obtain ⟨b, hE, hb⟩ := args_lens l hl
  exact ⟨b, hE, fun h => (hb h).1⟩
theorem findA_drop (l : List S41) (s : ByteArray) (m : Nat) (h : m < l.length) : findA (l.drop m) s = if l[m].f0 = s then some l[m] else findA (l.drop (m + 1)) s := by
  unfold findA
  rw [List.drop_eq_getElem_cons h, List.find?_cons]
  by_cases h1 : l[m].f0 = s
  · rw [if_pos h1, decide_eq_true h1]
  · rw [if_neg h1, decide_eq_false h1]
theorem rdN (l : List ByteArray) (j : Nat) (h : j < l.length) : rdOf ByteArray.empty l (j : Int) = l[j] := by
  unfold rdOf
  rw [Int.toNat_natCast, List.getD_eq_getElem?_getD, List.getElem?_eq_getElem h]
  rfl
theorem eta_val (x : S37) : (⟨x.f0, x.f1, x.f2, x.f3⟩ : S37) = x := by
  cases x
  rfl
theorem values_l1 (names : List ByteArray) (l : List S41) (hl : l.length ≤ 2147483647) (hn : names.length ≤ 2097152) (acc : List S37) (ha : acc.length ≤ 2097152) (i : Nat) (hi : i < names.length) (R : List S37 × Bool) :
    ∀ (d m : Nat), l.length - m = d → m ≤ l.length → (findA (l.drop m) names[i] = none → R = ([], false)) → (∀ x, findA (l.drop m) names[i] = some x → Ev (fun k => spec_ValuesOf.l0 k names l (acc ++ [x.f1]) ((i + 1 : Nat) : Int)) R) →
      Ev (fun k => spec_ValuesOf.l1 k names l acc i false m) R := by
  intro d
  induction d with
  | zero =>
    intro m hd hm h1 h2
    have c1 : ¬ (m : Int) < (l.length : Int) := by omega
    have hnil : l.drop m = [] := List.drop_eq_nil_of_le (by omega)
    obtain rfl := h1 (by rw [hnil]; rfl)
    refine Ev.step (f := fun k => spec_ValuesOf.j2 k names l acc i false m false) (fun k => ?_) (Ev.step (f := fun _ => some ([], false)) (fun k => ?_) (Ev.now _))
    · simp only [spec_ValuesOf.l1]
      rw [if_neg c1]
    · simp only [spec_ValuesOf.j2]
      rw [if_neg (by decide), if_neg (by decide)]
  | succ d ih =>
    intro m hd hm h1 h2
    have hlt : m < l.length := by omega
    have c1 : (m : Int) < (l.length : Int) := by omega
    have c2 : (0 : Int) ≤ (m : Int) := by omega
    have c3 : (0 : Int) ≤ (i : Int) := by omega
    have c4 : (i : Int) < (names.length : Int) := by omega
    have c5 : acc.length < 2513169434916 := by omega
    have hr := rdA l m hlt
    have hr2 := rdN names i hi
    rw [findA_drop l _ m hlt] at h1 h2
    have e1 := w64s m (by omega)
    have e2 := w64s i (by omega)
    by_cases he : l[m].f0 = names[i]
    · rw [if_pos he] at h2
      have hE := h2 _ rfl
      have hend : ∀ p : Nat, Ev (fun k => spec_ValuesOf.l1 k names l (acc ++ [l[m].f1]) i true p) R := by
        intro p
        refine Ev.step (f := fun k => spec_ValuesOf.j2 k names l (acc ++ [l[m].f1]) i true p false) (fun k => ?_) (Ev.step (fun k => ?_) hE)
        · simp only [spec_ValuesOf.l1]
          split <;> rfl
        · simp only [spec_ValuesOf.j2]
          rw [if_neg (by decide), if_pos trivial, e2]
      refine Ev.step (f := fun k => spec_ValuesOf.j2 k names l acc i false m true) (fun k => ?_) (Ev.step (fun k => ?_) (hend (m + 1)))
      · simp only [spec_ValuesOf.l1]
        rw [if_pos c1]
        rfl
      · simp only [spec_ValuesOf.j2]
        rw [if_pos trivial, if_pos c2, if_pos c1, if_pos c3, if_pos c4, hr, hr2, if_pos (list_eq.2 he), if_pos c5, e1, eta_val]
    · rw [if_neg he] at h1 h2
      refine Ev.step (f := fun k => spec_ValuesOf.j2 k names l acc i false m true) (fun k => ?_) (Ev.step (fun k => ?_) (ih (m + 1) (by omega) (by omega) h1 h2))
      · simp only [spec_ValuesOf.l1]
        rw [if_pos c1]
        rfl
      · simp only [spec_ValuesOf.j2]
        rw [if_pos trivial, if_pos c2, if_pos c1, if_pos c3, if_pos c4, hr, hr2, if_neg (fun h => he (list_eq.1 h)), e1]
def valsP (acc : List S37) : Option (List S37) → List S37 × Bool
  | some vs => (acc ++ vs, true)
  | none => ([], false)
theorem values_l0 (names : List ByteArray) (l : List S41) (hl : l.length ≤ 2147483647) (hn : names.length ≤ 2097152) : ∀ (d i : Nat) (acc : List S37), names.length - i = d → i ≤ names.length → acc.length ≤ i →
    Ev (fun k => spec_ValuesOf.l0 k names l acc i) (valsP acc (valsOf (names.drop i) l)) := by
  intro d
  induction d with
  | zero =>
    intro i acc hd hi ha
    have c1 : ¬ (i : Int) < (names.length : Int) := by omega
    have hnil : names.drop i = [] := List.drop_eq_nil_of_le (by omega)
    rw [hnil, valsOf, valsP, List.append_nil]
    refine Ev.step (fun k => ?_) (Ev.now _)
    simp only [spec_ValuesOf.l0]
    rw [if_neg c1]
  | succ d ih =>
    intro i acc hd hi ha
    have hlt : i < names.length := by omega
    have c1 : (i : Int) < (names.length : Int) := by omega
    have hcons := List.drop_eq_getElem_cons hlt
    rw [hcons, valsOf]
    refine Ev.step (f := fun k => spec_ValuesOf.l1 k names l acc i false ((0 : Nat) : Int)) (fun k => ?_) (values_l1 names l hl hn acc (by omega) i hlt _ l.length 0 (by omega) (by omega) (fun h => ?_) (fun x h => ?_))
    · simp only [spec_ValuesOf.l0]
      rw [if_pos c1]
      rfl
    · rw [List.drop_zero] at h
      rw [h]
      rfl
    · rw [List.drop_zero] at h
      rw [h]
      have h2 := ih (i + 1) (acc ++ [x.f1]) (by omega) (by omega) (by simp; omega)
      have e : valsP (acc ++ [x.f1]) (valsOf (names.drop (i + 1)) l) = valsP acc ((valsOf (names.drop (i + 1)) l).map (x.f1 :: ·)) := by
        cases valsOf (names.drop (i + 1)) l with
        | none => rfl
        | some vs => simp [valsP]
      rw [e] at h2
      exact h2
theorem values_is (names : List ByteArray) (l : List S41) (hl : l.length ≤ 2147483647) (hn : names.length ≤ 2097152) : Ev (fun k => spec_ValuesOf.f k names l) (valsP [] (valsOf names l)) := by
  have := values_l0 names l hl hn names.length 0 [] (by omega) (by omega) (by simp)
  rw [List.drop_zero] at this
  exact this
theorem right_deep {x : S37} (h : rightR x) : deep 2 x := by
  rcases h with h | h
  · intro y hy
    rw [h.2.2.1] at hy
    cases hy
  · intro y hy z hz
    rw [(h.2.2.2 y hy).2.2.1] at hz
    cases hz
end Go.Proofs.Ytlclbfhnllknkaa.SN
