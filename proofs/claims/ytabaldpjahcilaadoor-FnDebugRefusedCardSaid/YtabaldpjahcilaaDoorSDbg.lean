/-
  PLAIN: the laws' args9 and single9, the reference's Marks, decimal, shown and Debug: that Debug is what DebugSqlizer comes to where there are as many marks as values; and that it says that it is an error where there are not.
-/
import Derived.Test.YtabaldpjahcilaaDoorHDebug
import Derived.Test.YtabaldpjahcilaaDoorQD3
import Derived.Test.YtabaldpjahcilaaDoorQD4
import Derived.Test.YtabaldpjahcilaaDoorQD5
import Derived.Lib.ItoaMem
namespace Go.Proofs.YtabaldpjahcilaaDoor.SB
open Go.RowKit Go.Proofs.YtabaldpjahcilaaDoor.QD Go.Proofs.YtabaldpjahcilaaDoor.H Go.Proofs.YtabaldpjahcilaaDoorW.PrintWords Go.Proofs.YtabaldpjahcilaaDoorW.PrintLast Go.Proofs.YtabaldpjahcilaaDoorW.PrintMore
set_option linter.unusedVariables false
set_option linter.unusedSimpArgs false

theorem list_eq {a b : ByteArray} : a.toList = b.toList ↔ a = b := by
  rw [Lib.toList_data, Lib.toList_data, Array.toList_inj]
  exact ⟨fun h => ByteArray.ext h, fun h => by rw [h]⟩
theorem list_nil {a : ByteArray} (h : a.toList = ([] : List UInt8)) : a = ⟨#[]⟩ := by
  rw [Lib.toList_data] at h
  exact ByteArray.ext (Array.toList_inj.1 h)
theorem nil_size {a : ByteArray} (h : a.toList = ([] : List UInt8)) : a.size = 0 := by
  rw [list_nil h]
  rfl
theorem w64s (i : Nat) (h : i < 9223372036854775807) : wrap64 ((i : Int) + 1) = ((i + 1 : Nat) : Int) := by
  rw [IntWalk.wrap64_in _ (by omega)]
  omega
theorem rdV (l : List S27) (j : Nat) (h : j < l.length) : rd_T27 l (j : Int) = l[j] := by
  unfold rd_T27
  rw [Int.toNat_natCast, List.getD_eq_getElem?_getD, List.getElem?_eq_getElem h]
  rfl
theorem list_size (x : ByteArray) : x.data.toList.length = x.size := by simp
theorem bt_s (s : ByteArray) (i : Nat) (h : i < s.size) : bt s (i : Int) = ((s[i]'h).toNat : Int) := by simp [bt, h]
theorem b63 {c : UInt8} : ((c.toNat : Int) = 63) ↔ c = 63 := by
  constructor
  · intro h
    exact UInt8.toNat_inj.1 (by have : (63 : UInt8).toNat = 63 := rfl; omega)
  · intro h
    rw [h]
    rfl
theorem drop_byte (s : ByteArray) (i : Nat) (h : i < s.size) : s.data.toList.drop i = s[i]'h :: s.data.toList.drop (i + 1) := by
  rw [List.drop_eq_getElem_cons (by rw [list_size]; exact h)]
  rfl
/-! The laws' arguments. -/
def okV (x : S27) : Prop := atomR x ∧ x.f2.size ≤ 200
theorem flat_is (x : S27) : ∃ b, spec_flat.f x.f0 x.f1 x.f2 x.f3 = some b ∧ (b = true → okV x) := by
  unfold spec_flat.f
  by_cases h0 : x.f0 ≥ 0
  · by_cases h4 : x.f0 ≤ 4
    · by_cases hl : (x.f3.length : Int) = 0
      · have hn : x.f3 = [] := List.eq_nil_of_length_eq_zero (by omega)
        rw [if_pos h0, if_pos h4, if_pos hl]
        by_cases h1 : x.f1 = 0
        · rw [if_pos h1]
          by_cases h2 : x.f2.toList = ([] : List UInt8)
          · rw [if_pos h2]
            exact ⟨_, rfl, fun h => ⟨⟨h0, h4, hn, .inl h1, .inl (list_nil h2)⟩, by have := nil_size h2; omega⟩⟩
          · rw [if_neg h2]
            by_cases h3 : x.f0 = 2
            · rw [if_pos h3]
              exact ⟨_, rfl, fun h => ⟨⟨h0, h4, hn, .inl h1, .inr h3⟩, by have := of_decide_eq_true h; omega⟩⟩
            · rw [if_neg h3]
              exact ⟨_, rfl, fun h => by cases h⟩
        · rw [if_neg h1]
          by_cases h5 : x.f0 = 1
          · rw [if_pos h5]
            by_cases h2 : x.f2.toList = ([] : List UInt8)
            · rw [if_pos h2]
              exact ⟨_, rfl, fun h => ⟨⟨h0, h4, hn, .inr h5, .inl (list_nil h2)⟩, by have := nil_size h2; omega⟩⟩
            · rw [if_neg h2, if_neg (by omega)]
              exact ⟨_, rfl, fun h => by cases h⟩
          · rw [if_neg h5]
            exact ⟨_, rfl, fun h => by cases h⟩
      · rw [if_pos h0, if_pos h4, if_neg hl]
        exact ⟨_, rfl, fun h => by cases h⟩
    · rw [if_pos h0, if_neg h4]
      exact ⟨_, rfl, fun h => by cases h⟩
  · rw [if_neg h0]
    exact ⟨_, rfl, fun h => by cases h⟩
theorem arg_flat (x : S27) (h5 : x.f0 ≠ 5) : ∃ b, (∀ k, spec_ArgumentRight.f k x.f0 x.f1 x.f2 x.f3 = some b) ∧ (b = true → okV x) := by
  obtain ⟨b, hb, hok⟩ := flat_is x
  refine ⟨b, fun k => ?_, hok⟩
  simp only [spec_ArgumentRight.f]
  rw [if_neg h5, hb, Option.bind_some]
theorem args9_l (l : List S27) (hl : l.length ≤ 50) (h5 : ∀ x ∈ l, x.f0 ≠ 5) : ∀ (d i : Nat), l.length - i = d → i ≤ l.length → ∃ b, Ev (fun k => laws_args9.l0 k l (i : Int)) b ∧ (b = true → ∀ x ∈ l.drop i, okV x) := by
  intro d
  induction d with
  | zero =>
    intro i hd hi
    have c1 : ¬ (i : Int) < (l.length : Int) := by omega
    refine ⟨true, Ev.step (f := fun _ => some true) (fun k => ?_) (Ev.now _), fun _ => ?_⟩
    · simp only [laws_args9.l0]
      rw [if_neg c1]
    · rw [List.drop_eq_nil_of_le (by omega)]
      intro x hx
      cases hx
  | succ d ih =>
    intro i hd hi
    have hlt : i < l.length := by omega
    have c1 : (i : Int) < (l.length : Int) := by omega
    have c0 : (0 : Int) ≤ (i : Int) := by omega
    have wi : i < 9223372036854775807 := by omega
    have hr := rdV l i hlt
    obtain ⟨b, hE, hok⟩ := arg_flat (l[i]'hlt) (h5 _ (List.getElem_mem hlt))
    cases b with
    | false =>
      refine ⟨false, Ev.step (f := fun k => some false) (fun k => ?_) (Ev.now _), fun h => by cases h⟩
      simp only [laws_args9.l0]
      rw [if_pos c1, if_pos c0, hr, hE, Option.bind_some, if_neg (by decide)]
    | true =>
      obtain ⟨b1, hE1, hb1⟩ := ih (i + 1) (by omega) (by omega)
      refine ⟨b1, Ev.step (fun k => ?_) hE1, fun h => ?_⟩
      · simp only [laws_args9.l0]
        rw [if_pos c1, if_pos c0, hr, hE, Option.bind_some, if_pos rfl, w64s i wi]
      · rw [List.drop_eq_getElem_cons hlt]
        exact List.forall_mem_cons.2 ⟨hok rfl, hb1 h⟩
theorem args9_is (l : List S27) (h5 : ∀ x ∈ l, x.f0 ≠ 5) : ∃ b, Ev (fun k => laws_args9.f k l) b ∧ (b = true → l.length ≤ 50 ∧ ∀ x ∈ l, okV x) := by
  by_cases h : (l.length : Int) > 50
  · exact ⟨false, Ev.congr (fun k => by simp only [laws_args9.f]; rw [if_pos h]) (Ev.now _), fun h => by cases h⟩
  · obtain ⟨b, hE, hb⟩ := args9_l l (by omega) h5 l.length 0 (by omega) (by omega)
    refine ⟨b, Ev.congr (fun k => by simp only [laws_args9.f]; rw [if_neg h]; rfl) hE, fun hh => ⟨by omega, ?_⟩⟩
    have := hb hh
    rwa [List.drop_zero] at this
theorem single9_l (l : List S27) (hl : l.length ≤ 2147483647) : ∀ (d i : Nat), l.length - i = d → i ≤ l.length → (∀ x ∈ l.take i, x.f0 ≠ 5) → ∃ b, Ev (fun k => laws_single9.l0 k l (i : Int)) b ∧ (b = true → l.length ≤ 50 ∧ ∀ x ∈ l, okV x) := by
  intro d
  induction d with
  | zero =>
    intro i hd hi ht
    have c1 : ¬ (i : Int) < (l.length : Int) := by omega
    rw [List.take_of_length_le (by omega)] at ht
    obtain ⟨b, hE, hb⟩ := args9_is l ht
    refine ⟨b, Ev.step (f := fun k => (laws_args9.f k l).bind fun t => some t) (fun k => ?_) (Ev.bind hE (Ev.now b)), hb⟩
    simp only [laws_single9.l0]
    rw [if_neg c1]
  | succ d ih =>
    intro i hd hi ht
    have hlt : i < l.length := by omega
    have c1 : (i : Int) < (l.length : Int) := by omega
    have c0 : (0 : Int) ≤ (i : Int) := by omega
    have wi : i < 9223372036854775807 := by omega
    have hr := rdV l i hlt
    by_cases h5 : (l[i]'hlt).f0 = 5
    · refine ⟨false, Ev.step (f := fun _ => some false) (fun k => ?_) (Ev.now _), fun h => by cases h⟩
      simp only [laws_single9.l0]
      rw [if_pos c1, if_pos c0, hr, if_pos h5]
    · obtain ⟨b, hE, hb⟩ := ih (i + 1) (by omega) (by omega) (by
        intro x hx
        rw [List.take_succ_eq_append_getElem hlt] at hx
        rcases List.mem_append.1 hx with hx | hx
        · exact ht x hx
        · rw [List.mem_singleton.1 hx]
          exact h5)
      refine ⟨b, Ev.step (fun k => ?_) hE, hb⟩
      simp only [laws_single9.l0]
      rw [if_pos c1, if_pos c0, hr, if_neg h5, w64s i wi]
theorem single9_is (l : List S27) (hl : l.length ≤ 2147483647) : ∃ b, Ev (fun k => laws_single9.f k l) b ∧ (b = true → l.length ≤ 50 ∧ ∀ x ∈ l, okV x) := by
  obtain ⟨b, hE, hb⟩ := single9_l l hl l.length 0 (by omega) (by omega) (by intro x hx; cases hx)
  exact ⟨b, hE, hb⟩
/-! The marks. -/
def mkL : List UInt8 → Nat
  | [] => 0
  | [c] => if c = 63 then 1 else 0
  | c :: d :: t => if c = 63 then (if d = 63 then mkL t else mkL (d :: t) + 1) else mkL (d :: t)
theorem mk_other {c : UInt8} (h : c ≠ 63) (t : List UInt8) : mkL (c :: t) = mkL t := by
  cases t <;> simp [mkL, h]
theorem mk_two (t : List UInt8) : mkL (63 :: 63 :: t) = mkL t := by simp [mkL]
theorem mk_one (t : List UInt8) (h : t.head? ≠ some 63) : mkL (63 :: t) = mkL t + 1 := by
  cases t with
  | nil => simp [mkL]
  | cons d u =>
    have hd : d ≠ 63 := by simpa using h
    simp [mkL, hd]
theorem mk_pre : ∀ (pre t : List UInt8), (∀ c ∈ pre, c ≠ 63) → mkL (pre ++ t) = mkL t
  | [], t, _ => rfl
  | c :: u, t, h => by
    have h1 := List.forall_mem_cons.1 h
    rw [List.cons_append, mk_other h1.1, mk_pre u t h1.2]
/-- The three ways that a text goes on at a place. -/
theorem ways (s : ByteArray) (i : Nat) (h : i < s.size) :
    (s[i]'h ≠ 63) ∨ (s[i]'h = 63 ∧ ∃ h2 : i + 1 < s.size, s[i + 1]'h2 = 63) ∨ (s[i]'h = 63 ∧ (s.data.toList.drop (i + 1)).head? ≠ some 63 ∧ ∀ h2 : i + 1 < s.size, s[i + 1]'h2 ≠ 63) := by
  by_cases h1 : s[i]'h = 63
  · by_cases h2 : i + 1 < s.size
    · by_cases h3 : s[i + 1]'h2 = 63
      · exact .inr (.inl ⟨h1, h2, h3⟩)
      · refine .inr (.inr ⟨h1, ?_, fun _ => h3⟩)
        rw [drop_byte s (i + 1) h2]
        simpa using h3
    · refine .inr (.inr ⟨h1, ?_, fun h => absurd h h2⟩)
      rw [List.drop_eq_nil_of_le (by rw [list_size]; omega)]
      simp
  · exact .inl h1
theorem marks_l (s : ByteArray) (hs : s.size ≤ 4294967296) : ∀ (d i : Nat), s.size - i ≤ d → i ≤ s.size → ∀ n : Nat, n ≤ i → Ev (fun k => spec_Marks.l0 k s (n : Int) (i : Int)) ((n + mkL (s.data.toList.drop i) : Nat) : Int) := by
  have fin : ∀ (i : Nat), s.size ≤ i → ∀ n : Nat, Ev (fun k => spec_Marks.l0 k s (n : Int) (i : Int)) ((n + mkL (s.data.toList.drop i) : Nat) : Int) := by
    intro i hi n
    have c1 : ¬ (i : Int) < (s.size : Int) := by omega
    rw [List.drop_eq_nil_of_le (by rw [list_size]; omega)]
    refine Ev.step (f := fun _ => some (n : Int)) (fun k => ?_) (Ev.now _)
    simp only [spec_Marks.l0]
    rw [if_neg c1]
  intro d
  induction d with
  | zero =>
    intro i hd hi n hn
    exact fin i (by omega) n
  | succ d ih =>
    intro i hd hi n hn
    by_cases hlt : i < s.size
    · have c1 : (i : Int) < (s.size : Int) := by omega
      have c0 : (0 : Int) ≤ (i : Int) := by omega
      have wi : i < 9223372036854775807 := by omega
      have wi2 : i + 1 < 9223372036854775807 := by omega
      have wn : n < 9223372036854775807 := by omega
      have hbt := bt_s s i hlt
      have c4 : (0 : Int) ≤ ((i + 1 : Nat) : Int) := by omega
      rcases ways s i hlt with h | ⟨h, h2, h3⟩ | ⟨h, h2, h3⟩
      · have c2 : ¬ ((s[i]'hlt).toNat : Int) = 63 := fun h' => h (b63.1 h')
        rw [drop_byte s i hlt, mk_other h]
        refine Ev.step (fun k => ?_) (ih (i + 1) (by omega) (by omega) n (by omega))
        simp only [spec_Marks.l0]
        rw [if_pos c1, if_pos c0, hbt, if_neg c2, w64s i wi]
      · have c2 : ((s[i]'hlt).toNat : Int) = 63 := b63.2 h
        have c3 : ((i + 1 : Nat) : Int) < (s.size : Int) := by omega
        have c5 : ((s[i + 1]'h2).toNat : Int) = 63 := b63.2 h3
        have hb2 := bt_s s (i + 1) h2
        rw [drop_byte s i hlt, drop_byte s (i + 1) h2, h, h3, mk_two]
        refine Ev.step (fun k => ?_) (ih (i + 1 + 1) (by omega) (by omega) n (by omega))
        simp only [spec_Marks.l0]
        rw [if_pos c1, if_pos c0, hbt, if_pos c2, w64s i wi, if_pos c3, if_pos c4, hb2, if_pos c5, w64s (i + 1) wi2]
      · have c2 : ((s[i]'hlt).toNat : Int) = 63 := b63.2 h
        have hstep := ih (i + 1) (by omega) (by omega) (n + 1) (by omega)
        rw [drop_byte s i hlt, h, mk_one _ h2, Nat.add_comm (mkL _) 1, ← Nat.add_assoc]
        refine Ev.step (fun k => ?_) hstep
        simp only [spec_Marks.l0]
        by_cases hn2 : i + 1 < s.size
        · have c3 : ((i + 1 : Nat) : Int) < (s.size : Int) := by omega
          have c5 : ¬ ((s[i + 1]'hn2).toNat : Int) = 63 := fun h' => h3 hn2 (b63.1 h')
          have hb2 := bt_s s (i + 1) hn2
          rw [if_pos c1, if_pos c0, hbt, if_pos c2, w64s i wi, if_pos c3, if_pos c4, hb2, if_neg c5, w64s n wn]
        · have c3 : ¬ ((i + 1 : Nat) : Int) < (s.size : Int) := by omega
          rw [if_pos c1, if_pos c0, hbt, if_pos c2, w64s i wi, if_neg c3, w64s n wn]
    · exact fin i (by omega) n
theorem marks_is (s : ByteArray) (hs : s.size ≤ 4294967296) : Ev (fun k => spec_Marks.f k s) (mkL s.data.toList : Int) := by
  have := marks_l s hs s.size 0 (by omega) (by omega) 0 (by omega)
  rw [List.drop_zero, Nat.zero_add] at this
  exact this
/-! Numbers. -/
theorem str_one (u : Nat) : strOfNums [(u : Int)] = ⟨#[UInt8.ofNat u]⟩ := by
  apply ByteArray.ext
  simp [strOfNums]
theorem decimal_ev : ∀ (d n : Nat) (acc : List UInt8), n < 10 ^ (d + 1) → n ≤ 9223372036854775807 → acc.length + d ≤ 1000 →
    Ev (fun k => spec_decimal.l0 k (n : Int) ⟨acc.toArray⟩) ⟨(Lib.decDigits n ++ acc).toArray⟩ := by
  have cat : ∀ (u : Nat) (acc : List UInt8), (⟨#[UInt8.ofNat u]⟩ : ByteArray) ++ ⟨acc.toArray⟩ = ⟨(UInt8.ofNat u :: acc).toArray⟩ := fun u acc => ByteArray.ext (by simp)
  have one : ∀ n : Nat, n < 10 → ∀ acc : List UInt8, acc.length ≤ 1000 → Ev (fun k => spec_decimal.l0 k (n : Int) ⟨acc.toArray⟩) ⟨(Lib.decDigits n ++ acc).toArray⟩ := by
    intro n h acc ha
    refine Ev.step (f := fun _ => some ⟨(Lib.decDigits n ++ acc).toArray⟩) (fun k => ?_) (Ev.now _)
    have e : (wrap64 (48 + (n : Int))) % 256 = ((48 + n : Nat) : Int) := by rw [w64 _ (by omega)]; omega
    simp only [spec_decimal.l0]
    rw [if_neg (by omega), Option.bind_some, e, str_one, if_pos (by show 1 + acc.length ≤ 9223372036854775807; omega), cat, Lib.decDigits_one h]
    rfl
  intro d
  induction d with
  | zero =>
    intro n acc h _ ha
    exact one n (by omega) acc (by omega)
  | succ d ih =>
    intro n acc h hn ha
    by_cases h9 : n < 10
    · exact one n h9 acc (by omega)
    · have h2 : n / 10 < 10 ^ (d + 1) := by rw [Nat.div_lt_iff_lt_mul (by omega)]; rw [Nat.pow_succ] at h; omega
      have hi := ih (n / 10) (UInt8.ofNat (48 + n % 10) :: acc) h2 (by omega) (by simp; omega)
      rw [Lib.decDigits, dif_neg h9, List.append_assoc]
      refine Ev.step (fun k => ?_) hi
      have e : (wrap64 (48 + (Int.tmod (n : Int) 10))) % 256 = ((48 + n % 10 : Nat) : Int) := by
        have : Int.tmod (n : Int) 10 = ((n % 10 : Nat) : Int) := rfl
        rw [this, w64 _ (by omega)]; omega
      have e2 : wrap64 (Int.tdiv (n : Int) 10) = ((n / 10 : Nat) : Int) := by
        have : Int.tdiv (n : Int) 10 = ((n / 10 : Nat) : Int) := rfl
        rw [this, IntWalk.wrap64_in _ (by omega)]
      simp only [spec_decimal.l0]
      rw [if_pos (by omega), Option.bind_some, e, str_one, if_pos (by show 1 + acc.length ≤ 9223372036854775807; omega), cat, e2]
theorem decimal_nat (n : Nat) (hn : n ≤ 9223372036854775807) : Ev (fun k => spec_decimal.f k (n : Int)) ⟨(Lib.decDigits n).toArray⟩ := by
  have h := decimal_ev 19 n [] (by omega) hn (by simp)
  rw [List.append_nil] at h
  refine Ev.step (fun k => ?_) h
  simp only [spec_decimal.f]
  rw [if_neg (by omega)]
theorem least_digits : Lib.decDigits 9223372036854775808 = [57, 50, 50, 51, 51, 55, 50, 48, 51, 54, 56, 53, 52, 55, 55, 53, 56, 48, 56] := by
  repeat (rw [Lib.decDigits]; simp)
theorem decimal_is (n : Int) (h0 : -9223372036854775808 ≤ n) (h1 : n ≤ 9223372036854775807) : Ev (fun k => spec_decimal.f k n) ⟨(Lib.itoa n).toArray⟩ := by
  by_cases hneg : n < 0
  · obtain ⟨u, rfl⟩ : ∃ u : Nat, n = -(u : Int) := ⟨n.natAbs, by omega⟩
    rw [Lib.itoa_neg u (by omega)]
    by_cases hm : u = 9223372036854775808
    · subst hm
      rw [least_digits]
      refine Ev.step (f := fun _ => some (⟨#[45, 57, 50, 50, 51, 51, 55, 50, 48, 51, 54, 56, 53, 52, 55, 55, 53, 56, 48, 56]⟩ : ByteArray)) (fun k => ?_) (Ev.now _)
      simp only [spec_decimal.f]
      rw [if_pos hneg, if_pos (by rw [Int.neg_neg]; exact (show (-9223372036854775808 : Int) = wrap64 9223372036854775808 by kernel_rfl))]
    · have hw : wrap64 (- -(u : Int)) = (u : Int) := by rw [Int.neg_neg, IntWalk.wrap64_in _ (by omega)]
      have hl : (Lib.decDigits u).length ≤ 21 := by
        have := Lib.itoa_length_le (u : Int) (by omega) (by omega)
        rwa [Lib.itoa_nonneg] at this
      refine Ev.step (f := fun k => (spec_decimal.f k (u : Int)).bind fun t111 => (if 1 + t111.size ≤ 9223372036854775807 then (some ((⟨#[45]⟩ : ByteArray) ++ t111)) else (none))) (fun k => ?_) (Ev.bind (decimal_nat u (by omega)) ?_)
      · simp only [spec_decimal.f]
        rw [if_pos hneg, hw, if_neg (by omega)]
      · refine Ev.congr (f := fun _ => some ⟨(45 :: Lib.decDigits u).toArray⟩) (fun k => ?_) (Ev.now _)
        rw [if_pos (by show 1 + (Lib.decDigits u).length ≤ _; omega)]
        exact congrArg some (ByteArray.ext (by simp))
  · obtain ⟨u, rfl⟩ : ∃ u : Nat, n = (u : Int) := ⟨n.toNat, by omega⟩
    rw [Lib.itoa_nonneg]
    exact decimal_nat u (by omega)
theorem shown_is (x : S27) (h : numR x) : Ev (fun k => spec_shown.f k x.f0 x.f1 x.f2 x.f3) ⟨(shw x).toArray⟩ := by
  by_cases h1 : x.f0 = 1
  · have e : shw x = Lib.itoa x.f1 := by rw [shw, if_pos h1]
    rw [e]
    refine Ev.congr (f := fun k => (spec_decimal.f k x.f1).bind fun t => some t) (fun k => ?_) (Ev.bind (decimal_is x.f1 h.1 h.2) (Ev.now _))
    simp only [spec_shown.f]
    rw [if_pos h1]
  · refine Ev.congr (f := fun _ => some ⟨(shw x).toArray⟩) (fun k => ?_) (Ev.now _)
    simp only [spec_shown.f, shw]
    rw [if_neg h1, if_neg h1]
    split
    · exact congrArg some (ByteArray.ext (by simp))
    · split
      · rfl
      · split <;> rfl
/-! Debug. -/
theorem cat3 (acc t : List UInt8) : (⟨acc.toArray⟩ : ByteArray) ++ (((⟨#[39]⟩ : ByteArray) ++ ⟨t.toArray⟩) ++ (⟨#[39]⟩ : ByteArray)) = ⟨(acc ++ (39 :: t ++ [39])).toArray⟩ := ByteArray.ext (by simp)
theorem cat1 (acc : List UInt8) (c : UInt8) : (⟨acc.toArray⟩ : ByteArray) ++ (⟨#[c]⟩ : ByteArray) = ⟨(acc ++ [c]).toArray⟩ := ByteArray.ext (by simp)
theorem debug_l (s : ByteArray) (hs : s.size ≤ 4294967) (l : List S27) (hl : l.length ≤ 1024) (hall : ∀ x ∈ l, dbgR x) : ∀ (d i : Nat), s.size - i ≤ d → i ≤ s.size → ∀ (j : Nat) (acc : List UInt8), acc.length ≤ 1100 * i → mkL (s.data.toList.drop i) + j = l.length → Ev (fun k => spec_Debug.l0 k s l ⟨acc.toArray⟩ (j : Int) (i : Int)) ⟨(dbgL (s.data.toList.drop i) (l.drop j) acc).toArray⟩ := by
  have fin : ∀ (i : Nat), s.size ≤ i → ∀ (j : Nat) (acc : List UInt8), mkL (s.data.toList.drop i) + j = l.length → Ev (fun k => spec_Debug.l0 k s l ⟨acc.toArray⟩ (j : Int) (i : Int)) ⟨(dbgL (s.data.toList.drop i) (l.drop j) acc).toArray⟩ := by
    intro i hi j acc hm
    have c1 : ¬ (i : Int) < (s.size : Int) := by omega
    rw [List.drop_eq_nil_of_le (by rw [list_size]; omega)] at hm ⊢
    simp only [mkL] at hm
    rw [List.drop_eq_nil_of_le (by omega)]
    refine Ev.step (f := fun _ => some (⟨acc.toArray⟩ : ByteArray)) (fun k => ?_) (Ev.now _)
    simp only [spec_Debug.l0]
    rw [if_neg c1]
  intro d
  induction d with
  | zero =>
    intro i hd hi j acc ha hm
    exact fin i (by omega) j acc hm
  | succ d ih =>
    intro i hd hi j acc ha hm
    by_cases hlt : i < s.size
    · have c1 : (i : Int) < (s.size : Int) := by omega
      have c0 : (0 : Int) ≤ (i : Int) := by omega
      have wi : i < 9223372036854775807 := by omega
      have wi2 : i + 1 < 9223372036854775807 := by omega
      have hbt := bt_s s i hlt
      have c4 : (0 : Int) ≤ ((i + 1 : Nat) : Int) := by omega
      have za : (⟨acc.toArray⟩ : ByteArray).size = acc.length := rfl
      rcases ways s i hlt with h | ⟨h, h2, h3⟩ | ⟨h, h2, h3⟩
      · have c2 : ¬ ((s[i]'hlt).toNat : Int) = 63 := fun h' => h (b63.1 h')
        have c3 : (i : Int) ≤ ((i + 1 : Nat) : Int) := by omega
        have c5 : ((i + 1 : Nat) : Int) ≤ (s.size : Int) := by omega
        have z1 : (⟨#[s[i]'hlt]⟩ : ByteArray).size = 1 := rfl
        have c6 : acc.length + 1 ≤ 9223372036854775807 := by omega
        rw [drop_byte s i hlt, mk_other h] at hm
        rw [drop_byte s i hlt, dbg_other h]
        refine Ev.step (fun k => ?_) (ih (i + 1) (by omega) (by omega) j (acc ++ [s[i]'hlt]) (by rw [List.length_append, List.length_singleton]; omega) hm)
        simp only [spec_Debug.l0]
        rw [if_pos c1, if_pos c0, hbt, if_neg c2, w64s i wi, if_pos c3, if_pos c5, Int.toNat_natCast, Int.toNat_natCast, one_extract s i hlt, za, z1, if_pos c6, cat1]
      · have c2 : ((s[i]'hlt).toNat : Int) = 63 := b63.2 h
        have c3 : ((i + 1 : Nat) : Int) < (s.size : Int) := by omega
        have c5 : ((s[i + 1]'h2).toNat : Int) = 63 := b63.2 h3
        have hb2 := bt_s s (i + 1) h2
        have c6 : acc.length + 1 ≤ 9223372036854775807 := by omega
        rw [drop_byte s i hlt, drop_byte s (i + 1) h2, h, h3, mk_two] at hm
        rw [drop_byte s i hlt, drop_byte s (i + 1) h2, h, h3, dbg_two]
        refine Ev.step (fun k => ?_) (ih (i + 1 + 1) (by omega) (by omega) j (acc ++ [63]) (by rw [List.length_append, List.length_singleton]; omega) hm)
        simp only [spec_Debug.l0]
        rw [if_pos c1, if_pos c0, hbt, if_pos c2, w64s i wi, if_pos c3, if_pos c4, hb2, if_pos c5, za, if_pos c6, w64s (i + 1) wi2, cat1]
      · have c2 : ((s[i]'hlt).toNat : Int) = 63 := b63.2 h
        rw [drop_byte s i hlt, h, mk_one _ h2] at hm
        have hj : j < l.length := by omega
        have cj0 : (0 : Int) ≤ (j : Int) := by omega
        have cj1 : (j : Int) < (l.length : Int) := by omega
        have wj : j < 9223372036854775807 := by omega
        have hx := hall _ (List.getElem_mem hj)
        have hq := quo_size _ hx
        have hr := rdV l j hj
        rw [drop_byte s i hlt, h, List.drop_eq_getElem_cons hj, dbg_one _ h2]
        have hstep := ih (i + 1) (by omega) (by omega) (j + 1) (acc ++ quoL (l[j]'hj)) (by rw [List.length_append]; omega) (by omega)
        have hsh : (shw (l[j]'hj)).length ≤ 1048 := by
          have := hq
          unfold quoL at this
          rw [List.length_append, List.length_cons, List.length_singleton] at this
          omega
        have zt : (⟨(shw (l[j]'hj)).toArray⟩ : ByteArray).size = (shw (l[j]'hj)).length := rfl
        have z39 : (⟨#[39]⟩ : ByteArray).size = 1 := rfl
        have g1 : 1 + (⟨(shw (l[j]'hj)).toArray⟩ : ByteArray).size ≤ 9223372036854775807 := by rw [zt]; omega
        have g2 : ((⟨#[39]⟩ : ByteArray) ++ (⟨(shw (l[j]'hj)).toArray⟩ : ByteArray)).size + 1 ≤ 9223372036854775807 := by rw [ByteArray.size_append, zt, z39]; omega
        have g3 : (⟨acc.toArray⟩ : ByteArray).size + (((⟨#[39]⟩ : ByteArray) ++ (⟨(shw (l[j]'hj)).toArray⟩ : ByteArray)) ++ (⟨#[39]⟩ : ByteArray)).size ≤ 9223372036854775807 := by rw [ByteArray.size_append, ByteArray.size_append, za, zt, z39]; omega
        refine Ev.step (f := fun k => (spec_shown.f k (l[j]'hj).f0 (l[j]'hj).f1 (l[j]'hj).f2 (l[j]'hj).f3).bind fun t121 => (if 1 + t121.size ≤ 9223372036854775807 then (if ((⟨#[39]⟩ : ByteArray) ++ t121).size + 1 ≤ 9223372036854775807 then (if (⟨acc.toArray⟩ : ByteArray).size + (((⟨#[39]⟩ : ByteArray) ++ t121) ++ (⟨#[39]⟩ : ByteArray)).size ≤ 9223372036854775807 then (spec_Debug.l0 k s l ((⟨acc.toArray⟩ : ByteArray) ++ (((⟨#[39]⟩ : ByteArray) ++ t121) ++ (⟨#[39]⟩ : ByteArray))) ((j + 1 : Nat) : Int) ((i + 1 : Nat) : Int)) else (none)) else (none)) else (none))) (fun k => ?_) (Ev.bind (shown_is _ hx.2.1) (Ev.congr (fun k => ?_) hstep))
        · simp only [spec_Debug.l0]
          by_cases hn2 : i + 1 < s.size
          · have c3 : ((i + 1 : Nat) : Int) < (s.size : Int) := by omega
            have c5 : ¬ ((s[i + 1]'hn2).toNat : Int) = 63 := fun h' => h3 hn2 (b63.1 h')
            have hb2 := bt_s s (i + 1) hn2
            rw [if_pos c1, if_pos c0, hbt, if_pos c2, w64s i wi, if_pos c3, if_pos c4, hb2, if_neg c5, if_pos cj0, if_pos cj1, hr, w64s j wj]
          · have c3 : ¬ ((i + 1 : Nat) : Int) < (s.size : Int) := by omega
            rw [if_pos c1, if_pos c0, hbt, if_pos c2, w64s i wi, if_neg c3, if_pos cj0, if_pos cj1, hr, w64s j wj]
        · rw [if_pos g1, if_pos g2, if_pos g3, cat3]
          rfl
    · exact fin i (by omega) j acc hm
theorem debug_is (s : ByteArray) (hs : s.size ≤ 4294967) (l : List S27) (hl : l.length ≤ 1024) (hall : ∀ x ∈ l, dbgR x) (hm : mkL s.data.toList = l.length) : Ev (fun k => spec_Debug.f k s l) (debF s l) :=
  debug_l s hs l hl hall s.size 0 (by omega) (by omega) 0 [] (by simp) (by rw [List.drop_zero]; exact hm)
/-- With too few or too many values it is an error. -/
theorem refused_l : ∀ (n : Nat) (t : List UInt8), t.length ≤ n → ∀ (l : List S27) (acc : List UInt8), mkL t ≠ l.length → dbgL t l acc = tooM ∨ dbgL t l acc = notE
  | n, [], _, l, acc, h => by
    refine .inr ?_
    have hl : l ≠ [] := fun e => h (by rw [e]; rfl)
    simp [dbgL, hl]
  | 0, c :: t, hn, l, acc, h => by simp at hn
  | n + 1, c :: t, hn, l, acc, h => by
    rw [List.length_cons] at hn
    by_cases hc : c = 63
    · subst hc
      by_cases hd : t.head? = some 63
      · cases t with
        | nil => simp at hd
        | cons d u =>
          have hd' : d = 63 := by simpa using hd
          subst hd'
          rw [mk_two] at h
          rw [dbg_two]
          rw [List.length_cons] at hn
          exact refused_l n u (by omega) l _ h
      · rw [mk_one t hd] at h
        cases l with
        | nil => exact .inl (dbg_none t hd acc)
        | cons x xs =>
          rw [dbg_one t hd]
          rw [List.length_cons] at h
          exact refused_l n t (by omega) xs _ (by omega)
    · rw [mk_other hc] at h
      rw [dbg_other hc]
      exact refused_l n t (by omega) l _ h
theorem dbg_ok {x : S27} (h : okV x) (hn : numR x) : dbgR x := ⟨h.1, hn, by have := h.2; omega⟩
theorem impl_is (s : ByteArray) (hs : s.size ≤ 1048576) (l : List S27) (hl : l.length ≤ 1024) (hall : ∀ x ∈ l, dbgR x) : impl_Debug.f s l = some (debF s l) := by
  rw [impl_Debug.f, if_pos ⟨hs, hl, List.all_eq_true.2 fun x hx => by
    have h := hall x hx
    rw [(atomB_iff x).2 h.1, decide_eq_true h.2.1.1, decide_eq_true h.2.1.2, decide_eq_true h.2.2]
    rfl⟩]
end Go.Proofs.YtabaldpjahcilaaDoor.SB
