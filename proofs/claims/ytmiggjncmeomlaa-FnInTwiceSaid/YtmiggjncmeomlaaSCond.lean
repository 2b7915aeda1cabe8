/-
  PLAIN: the reference's ValueRight and NameOnly; texts that begin alike.
-/
import Derived.Test.YtmiggjncmeomlaaHKinds
import Derived.Test.YtmiggjncmeomlaaHSame
import Derived.Lib.Strings
import Derived.Handy
import Derived.Test.YtmiggjncmeomlaaQS2
import Derived.Test.YtmiggjncmeomlaaQS3
namespace Go.Proofs.Ytmiggjncmeomlaa.SD
open Go.RowKit Go.Proofs.Ytmiggjncmeomlaa.QS Go.Proofs.Ytmiggjncmeomlaa.H Go.Proofs.YtmiggjncmeomlaaW.PrintWords Go.Proofs.YtmiggjncmeomlaaW.PrintLast Go.Proofs.YtmiggjncmeomlaaW.PrintMore
set_option linter.unusedVariables false
set_option linter.unusedSimpArgs false

theorem list_eq {a b : ByteArray} : a.toList = b.toList ↔ a = b := by
  rw [Lib.toList_data, Lib.toList_data, Array.toList_inj]
  exact ⟨fun h => ByteArray.ext h, fun h => by rw [h]⟩
theorem list_nil {a : ByteArray} (h : a.toList = ([] : List UInt8)) : a = ⟨#[]⟩ := by
  rw [Lib.toList_data] at h
  exact ByteArray.ext (Array.toList_inj.1 h)
theorem w64s (i : Nat) (h : i < 9223372036854775807) : wrap64 ((i : Int) + 1) = ((i + 1 : Nat) : Int) := by
  rw [IntWalk.wrap64_in _ (by omega)]
  omega
theorem rdV (l : List S24) (j : Nat) (h : j < l.length) : rd_T24 l (j : Int) = l[j] := by
  unfold rd_T24
  rw [Int.toNat_natCast, List.getD_eq_getElem?_getD, List.getElem?_eq_getElem h]
  rfl
theorem eta_val (x : S24) : (⟨x.f0, x.f1, x.f2, x.f3⟩ : S24) = x := by
  cases x
  rfl
theorem right_deep {x : S24} (h : rightR x) : deep 2 x := by
  rcases h with h | h
  · intro y hy
    rw [h.2.2.1] at hy
    cases hy
  · intro y hy z hz
    rw [(h.2.2.2 y hy).2.2.1] at hz
    cases hz
theorem len_nil {l : List S24} (h : ((l.length : Int) == 0) = true) : l = [] := by
  have h1 : (l.length : Int) = 0 := by simpa using h
  exact List.eq_nil_of_length_eq_zero (by omega)
/-! ValueRight -/
theorem vr_zero (x : S24) (lists : Bool) (hk : x.f0 = 0 ∨ x.f0 = 3 ∨ x.f0 = 4) : ∃ b, Ev (fun k => spec_ValueRight.j0 k lists x.f0 true x.f0 x.f1 x.f2 x.f3) b ∧ (b = true → atomR x) := by
  by_cases h1 : x.f1 = 0
  · by_cases h2 : x.f2.toList = ([] : List UInt8)
    · refine ⟨((x.f3.length : Int) == 0), Ev.step (f := fun _ => some ((x.f3.length : Int) == 0)) (fun k => ?_) (Ev.now _), fun h => ⟨by omega, by omega, len_nil h, .inl h1, .inl (list_nil h2)⟩⟩
      simp only [spec_ValueRight.j0]
      rw [if_pos trivial, if_pos h1, if_pos h2]
    · refine ⟨false, Ev.step (f := fun _ => some false) (fun k => ?_) (Ev.now _), fun h => by cases h⟩
      simp only [spec_ValueRight.j0]
      rw [if_pos trivial, if_pos h1, if_neg h2]
  · refine ⟨false, Ev.step (f := fun _ => some false) (fun k => ?_) (Ev.now _), fun h => by cases h⟩
    simp only [spec_ValueRight.j0]
    rw [if_pos trivial, if_neg h1]
theorem vr_one (x : S24) (lists : Bool) (hk : x.f0 = 1) : ∃ b, Ev (fun k => spec_ValueRight.j0 k lists x.f0 false x.f0 x.f1 x.f2 x.f3) b ∧ (b = true → atomR x) := by
  by_cases h2 : x.f2.toList = ([] : List UInt8)
  · refine ⟨((x.f3.length : Int) == 0), Ev.step (f := fun _ => some ((x.f3.length : Int) == 0)) (fun k => ?_) (Ev.now _), fun h => ⟨by omega, by omega, len_nil h, .inr hk, .inl (list_nil h2)⟩⟩
    simp only [spec_ValueRight.j0]
    rw [if_neg (by decide), if_pos hk, if_pos h2]
  · refine ⟨false, Ev.step (f := fun _ => some false) (fun k => ?_) (Ev.now _), fun h => by cases h⟩
    simp only [spec_ValueRight.j0]
    rw [if_neg (by decide), if_pos hk, if_neg h2]
theorem vr_two (x : S24) (lists : Bool) (hk : x.f0 = 2) : ∃ b, Ev (fun k => spec_ValueRight.j0 k lists x.f0 false x.f0 x.f1 x.f2 x.f3) b ∧ (b = true → atomR x) := by
  by_cases h1 : x.f1 = 0
  · by_cases h3 : (x.f3.length : Int) = 0
    · refine ⟨decide ((x.f2.size : Int) ≤ 200), Ev.step (f := fun _ => some (decide ((x.f2.size : Int) ≤ 200))) (fun k => ?_) (Ev.now _), fun h => ⟨by omega, by omega, List.eq_nil_of_length_eq_zero (by omega), .inl h1, .inr hk⟩⟩
      simp only [spec_ValueRight.j0]
      rw [if_neg (by decide), if_neg (by omega), if_pos hk, if_pos h1, if_pos h3]
    · refine ⟨false, Ev.step (f := fun _ => some false) (fun k => ?_) (Ev.now _), fun h => by cases h⟩
      simp only [spec_ValueRight.j0]
      rw [if_neg (by decide), if_neg (by omega), if_pos hk, if_pos h1, if_neg h3]
  · refine ⟨false, Ev.step (f := fun _ => some false) (fun k => ?_) (Ev.now _), fun h => by cases h⟩
    simp only [spec_ValueRight.j0]
    rw [if_neg (by decide), if_neg (by omega), if_pos hk, if_neg h1]
theorem vr_else (x : S24) (lists : Bool) (h1 : x.f0 ≠ 1) (h2 : x.f0 ≠ 2) (h5 : x.f0 ≠ 5) : Ev (fun k => spec_ValueRight.j0 k lists x.f0 false x.f0 x.f1 x.f2 x.f3) false := by
  refine Ev.step (f := fun _ => some false) (fun k => ?_) (Ev.now _)
  simp only [spec_ValueRight.j0]
  rw [if_neg (by decide), if_neg h1, if_neg h2, if_neg h5]
theorem vr_jT (x : S24) : Ev (fun k => spec_ValueRight.j1 k true x.f0 x.f1 x.f2 x.f3) false := by
  refine Ev.step (f := fun _ => some false) (fun k => ?_) (Ev.now _)
  simp only [spec_ValueRight.j1]
  rw [if_pos trivial]
theorem vr_f (x : S24) (lists : Bool) (h5 : x.f0 ≠ 5) : ∃ b, Ev (fun k => spec_ValueRight.f k x.f0 x.f1 x.f2 x.f3 lists) b ∧ (b = true → atomR x) := by
  by_cases h0 : x.f0 = 0
  · obtain ⟨b, hE, hb⟩ := vr_zero x lists (.inl h0)
    refine ⟨b, Ev.step (fun k => ?_) hE, hb⟩
    simp only [spec_ValueRight.f]
    rw [if_pos h0, beq_iff_eq.2 h0]
  by_cases h3 : x.f0 = 3
  · obtain ⟨b, hE, hb⟩ := vr_zero x lists (.inr (.inl h3))
    refine ⟨b, Ev.step (fun k => ?_) hE, hb⟩
    simp only [spec_ValueRight.f]
    rw [if_neg h0, if_pos h3, beq_iff_eq.2 h3]
  by_cases h4 : x.f0 = 4
  · obtain ⟨b, hE, hb⟩ := vr_zero x lists (.inr (.inr h4))
    refine ⟨b, Ev.step (fun k => ?_) hE, hb⟩
    simp only [spec_ValueRight.f]
    rw [if_neg h0, if_neg h3, beq_iff_eq.2 h4]
  have hf : ∀ {b : Bool}, Ev (fun k => spec_ValueRight.j0 k lists x.f0 false x.f0 x.f1 x.f2 x.f3) b → Ev (fun k => spec_ValueRight.f k x.f0 x.f1 x.f2 x.f3 lists) b := fun h => Ev.step (fun k => by
    simp only [spec_ValueRight.f]
    rw [if_neg h0, if_neg h3, beq_eq_false_iff_ne.2 h4]) h
  by_cases h1 : x.f0 = 1
  · obtain ⟨b, hE, hb⟩ := vr_one x lists h1
    exact ⟨b, hf hE, hb⟩
  by_cases h2 : x.f0 = 2
  · obtain ⟨b, hE, hb⟩ := vr_two x lists h2
    exact ⟨b, hf hE, hb⟩
  · exact ⟨false, hf (vr_else x lists h1 h2 h5), fun h => by cases h⟩
theorem vr_atom (x : S24) : ∃ b, Ev (fun k => spec_ValueRight.f k x.f0 x.f1 x.f2 x.f3 false) b ∧ (b = true → atomR x) := by
  by_cases h5 : x.f0 = 5
  · refine ⟨false, Ev.step (f := fun k => spec_ValueRight.j0 k false x.f0 false x.f0 x.f1 x.f2 x.f3) (fun k => ?_) (Ev.step (fun k => ?_) (vr_jT x)), fun h => by cases h⟩
    · simp only [spec_ValueRight.f]
      rw [if_neg (by omega), if_neg (by omega), beq_eq_false_iff_ne.2 (by omega : x.f0 ≠ 4)]
    · simp only [spec_ValueRight.j0]
      rw [if_neg (by decide), if_neg (by omega), if_neg (by omega), if_pos h5, if_neg (by decide)]
  · exact vr_f x false h5
theorem vr_l (x : S24) (hl : x.f3.length ≤ 12) : ∀ (d i : Nat), x.f3.length - i = d → i ≤ x.f3.length → ∃ b, Ev (fun k => spec_ValueRight.l0 k i x.f0 x.f1 x.f2 x.f3) b ∧ (b = true → ∀ j, i ≤ j → (h : j < x.f3.length) → atomR (x.f3[j]'h)) := by
  intro d
  induction d with
  | zero =>
    intro i hd hi
    have c1 : ¬ (i : Int) < (x.f3.length : Int) := by omega
    exact ⟨true, Ev.step (f := fun _ => some true) (fun k => by simp only [spec_ValueRight.l0]; rw [if_neg c1]) (Ev.now _), fun _ j h1 h2 => by omega⟩
  | succ d ih =>
    intro i hd hi
    have hlt : i < x.f3.length := by omega
    have c1 : (i : Int) < (x.f3.length : Int) := by omega
    have c0 : (0 : Int) ≤ (i : Int) := by omega
    have hr := rdV x.f3 i hlt
    obtain ⟨b, hE, hb⟩ := vr_atom x.f3[i]
    obtain ⟨b2, hE2, hb2⟩ := ih (i + 1) (by omega) (by omega)
    have hstep : ∀ {r : Bool}, Ev (fun k => (spec_ValueRight.f k x.f3[i].f0 x.f3[i].f1 x.f3[i].f2 x.f3[i].f3 false).bind fun t105 => (if t105 = true then (spec_ValueRight.l0 k ((i + 1 : Nat) : Int) x.f0 x.f1 x.f2 x.f3) else (some false))) r → Ev (fun k => spec_ValueRight.l0 k i x.f0 x.f1 x.f2 x.f3) r := fun h => Ev.step (fun k => by
      simp only [spec_ValueRight.l0]
      rw [if_pos c1, if_pos c0, hr, w64s i (by omega)]) h
    cases b with
    | false => exact ⟨false, hstep (Ev.bind hE (Ev.congr (f := fun _ => some false) (fun k => by rw [if_neg (by decide)]) (Ev.now _))), fun h => by cases h⟩
    | true =>
      refine ⟨b2, hstep (Ev.bind hE (Ev.congr (fun k => by rw [if_pos rfl]) hE2)), fun h j h1 h2 => ?_⟩
      rcases Nat.eq_or_lt_of_le h1 with h3 | h3
      · subst h3
        exact hb rfl
      · exact hb2 h j h3 h2
/-- What the reference says of a value, lists let in. -/
theorem value_right (x : S24) : ∃ b, Ev (fun k => spec_ValueRight.f k x.f0 x.f1 x.f2 x.f3 true) b ∧ (b = true → rightR x ∧ x.f3.length ≤ 12) := by
  by_cases h5 : x.f0 = 5
  · have hf : ∀ {b : Bool}, Ev (fun k => spec_ValueRight.j0 k true x.f0 false x.f0 x.f1 x.f2 x.f3) b → Ev (fun k => spec_ValueRight.f k x.f0 x.f1 x.f2 x.f3 true) b := fun h => Ev.step (fun k => by
      simp only [spec_ValueRight.f]
      rw [if_neg (by omega), if_neg (by omega), beq_eq_false_iff_ne.2 (by omega : x.f0 ≠ 4)]) h
    by_cases h1 : x.f1 = 0
    · by_cases h2 : x.f2.toList = ([] : List UInt8)
      · by_cases hl : (x.f3.length : Int) > 12
        · refine ⟨false, hf (Ev.step (fun k => ?_) (vr_jT x)), fun h => by cases h⟩
          simp only [spec_ValueRight.j0]
          rw [if_neg (by decide), if_neg (by omega), if_neg (by omega), if_pos h5, if_pos trivial, if_pos h1, if_pos h2, decide_eq_true hl]
        · obtain ⟨b, hE, hb⟩ := vr_l x (by omega) x.f3.length 0 (by omega) (by omega)
          refine ⟨b, hf (Ev.step (f := fun k => spec_ValueRight.j1 k false x.f0 x.f1 x.f2 x.f3) (fun k => ?_) (Ev.step (fun k => ?_) hE)), fun h => ⟨.inr ⟨h5, h1, list_nil h2, fun y hy => ?_⟩, by omega⟩⟩
          · simp only [spec_ValueRight.j0]
            rw [if_neg (by decide), if_neg (by omega), if_neg (by omega), if_pos h5, if_pos trivial, if_pos h1, if_pos h2, decide_eq_false hl]
          · simp only [spec_ValueRight.j1]
            rw [if_neg (by decide)]
            rfl
          · obtain ⟨j, hj, rfl⟩ := List.mem_iff_getElem.1 hy
            exact hb h j (by omega) hj
      · refine ⟨false, hf (Ev.step (fun k => ?_) (vr_jT x)), fun h => by cases h⟩
        simp only [spec_ValueRight.j0]
        rw [if_neg (by decide), if_neg (by omega), if_neg (by omega), if_pos h5, if_pos trivial, if_pos h1, if_neg h2]
    · refine ⟨false, hf (Ev.step (fun k => ?_) (vr_jT x)), fun h => by cases h⟩
      simp only [spec_ValueRight.j0]
      rw [if_neg (by decide), if_neg (by omega), if_neg (by omega), if_pos h5, if_pos trivial, if_neg h1]
  · obtain ⟨b, hE, hb⟩ := vr_f x true h5
    exact ⟨b, hE, fun h => ⟨.inl (hb h), by rw [(hb h).2.2.1]; simp⟩⟩
/-! NameOnly -/
theorem nb_is (a : Int) : ∃ b, spec_isNameByte.f a = some b ∧ (b = true → a ≠ 44 ∧ a ≠ 32 ∧ a ≠ 63) := by
  unfold spec_isNameByte.f
  repeat' split
  all_goals first
    | exact ⟨_, rfl, fun _ => by omega⟩
    | exact ⟨_, rfl, fun h => by have h46 : a = 46 := (by simpa using h); omega⟩
theorem name_l (s : ByteArray) (hs : s.size ≤ 2147483647) : ∀ (d i : Nat), s.size - i = d → i ≤ s.size → ∃ b, Ev (fun k => spec_NameOnly.l0 k s i) b ∧ (b = true → ∀ j, i ≤ j → j < s.size → bt s (j : Int) ≠ 44 ∧ bt s (j : Int) ≠ 32 ∧ bt s (j : Int) ≠ 63) := by
  intro d
  induction d with
  | zero =>
    intro i hd hi
    have c1 : ¬ (i : Int) < (s.size : Int) := by omega
    exact ⟨(s.toList != ([] : List UInt8)), Ev.step (f := fun _ => some (s.toList != ([] : List UInt8))) (fun k => by simp only [spec_NameOnly.l0]; rw [if_neg c1]) (Ev.now _), fun _ j h1 h2 => by omega⟩
  | succ d ih =>
    intro i hd hi
    have c1 : (i : Int) < (s.size : Int) := by omega
    have c0 : (0 : Int) ≤ (i : Int) := by omega
    obtain ⟨b, hf, hb⟩ := nb_is (bt s (i : Int))
    cases b with
    | false =>
      refine ⟨false, Ev.step (f := fun _ => some false) (fun k => ?_) (Ev.now _), fun h => by cases h⟩
      simp only [spec_NameOnly.l0]
      rw [if_pos c1, if_pos c0, hf, Option.bind_some, if_neg (by decide)]
    | true =>
      obtain ⟨b2, hE2, hb2⟩ := ih (i + 1) (by omega) (by omega)
      refine ⟨b2, Ev.step (fun k => ?_) hE2, fun h j h1 h2 => ?_⟩
      · simp only [spec_NameOnly.l0]
        rw [if_pos c1, if_pos c0, hf, Option.bind_some, if_pos rfl, w64s i (by omega)]
      · rcases Nat.eq_or_lt_of_le h1 with h3 | h3
        · subst h3
          exact hb rfl
        · exact hb2 h j h3 h2
theorem name_is (s : ByteArray) (hs : s.size ≤ 2147483647) : ∃ b, Ev (fun k => spec_NameOnly.f k s) b ∧ (b = true → ∀ j : Nat, j < s.size → bt s (j : Int) ≠ 44 ∧ bt s (j : Int) ≠ 32 ∧ bt s (j : Int) ≠ 63) := by
  obtain ⟨b, hE, hb⟩ := name_l s hs s.size 0 (by omega) (by omega)
  exact ⟨b, hE, fun h j hj => hb h j (by omega) hj⟩
/-! Texts -/
theorem ext_left (x t : ByteArray) : (x ++ t).extract 0 x.size = x := by
  apply ByteArray.ext
  apply Array.toList_inj.1
  have hl : x.data.toList.length = x.size := Array.length_toList
  rw [ByteArray.data_extract, Array.toList_extract, List.extract_eq_take_drop]
  simp
theorem ext_right (x t : ByteArray) : (x ++ t).extract x.size (x ++ t).size = t := by
  apply ByteArray.ext
  apply Array.toList_inj.1
  have hl : x.data.toList.length = x.size := Array.length_toList
  rw [ByteArray.data_extract, Array.toList_extract, List.extract_eq_take_drop]
  simp
  exact List.take_of_length_le (by rw [Array.length_toList]; exact Nat.le_refl _)
end Go.Proofs.Ytmiggjncmeomlaa.SD
