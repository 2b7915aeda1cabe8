/-
  PLAIN: the parts of a text, as the reference's Bits finds them (texts of at most 2^20 bytes).
-/
import Derived.Test.YtnmhoghmhglimaaDoorHCompL
import Derived.Test.YtnmhoghmhglimaaDoorHIndex
import Derived.Test.YtnmhoghmhglimaaDoorQC3
import Derived.Test.YtnmhoghmhglimaaDoorHRow
import Derived.Test.YtnmhoghmhglimaaDoorHWords
import Derived.Test.YtnmhoghmhglimaaDoorQC1
namespace Go.Proofs.YtnmhoghmhglimaaDoor.SC
open Go.RowKit Go.Proofs.YtnmhoghmhglimaaDoor.QC Go.Proofs.YtnmhoghmhglimaaDoor.H Go.Proofs.YtnmhoghmhglimaaDoorW.PrintWords Go.Proofs.YtnmhoghmhglimaaDoorW.PrintLast Go.Proofs.YtnmhoghmhglimaaDoorW.PrintMore
set_option linter.unusedVariables false
set_option linter.unusedSimpArgs false

def toS (l : List (Bool × List UInt8)) : List S72 := l.map fun p => ⟨p.1, ⟨p.2.toArray⟩⟩
theorem toS_app (l : List (Bool × List UInt8)) (b : Bool) (x : List UInt8) : toS l ++ [(⟨b, ⟨x.toArray⟩⟩ : S72)] = toS (l ++ [(b, x)]) := by simp [toS]
theorem toS_len (l : List (Bool × List UInt8)) : (toS l).length = l.length := by simp [toS]
theorem name_byte (b : UInt8) : spec_isNameByte.f (b.toNat : Int) = some (isNm b) := by
  have h : ∀ b : Fin 256, spec_isNameByte.f (b.val : Int) = some (isNm (UInt8.ofNat b.val)) := by decide +kernel
  have := h ⟨b.toNat, b.toNat_lt⟩
  simpa using this
theorem bt_n (s : ByteArray) (i : Nat) (h : i < s.size) : bt s (i : Int) = ((s[i]'h).toNat : Int) := by simp [bt, h]
theorem byte_eq {b c : UInt8} {k : Int} (hk : (c.toNat : Int) = k) : ((b.toNat : Int) = k) ↔ b = c := by
  rw [← hk]
  exact ⟨fun h => UInt8.toNat_inj.1 (Int.ofNat.inj h), fun h => by rw [h]⟩
theorem ge128 (b : UInt8) : ((b.toNat : Int) ≥ 128) ↔ 128 ≤ b.toNat := by omega
theorem take_none (l : List UInt8) (n : Nat) (h : l.take n = []) : n = 0 ∨ l.length = 0 := by
  have := congrArg List.length h
  rw [List.length_take] at this
  simp at this
  rcases this with h | h
  · exact .inl h
  · rw [h]
    exact .inr rfl
theorem drop_cons (s : ByteArray) (i : Nat) (h : i < s.size) : s.data.toList.drop i = (s[i]'h) :: s.data.toList.drop (i + 1) := by
  have hl : s.data.toList.length = s.size := Array.length_toList
  rw [List.drop_eq_getElem_cons (by omega)]
  rfl
theorem drop_end (s : ByteArray) (i : Nat) (h : s.size ≤ i) : s.data.toList.drop i = [] := by
  have hl : s.data.toList.length = s.size := Array.length_toList
  exact List.drop_eq_nil_of_le (by omega)
theorem tw_take (p : UInt8 → Bool) : ∀ l : List UInt8, l.takeWhile p = l.take (l.takeWhile p).length
  | [] => rfl
  | c :: t => by
    by_cases h : p c = true
    · rw [List.takeWhile_cons_of_pos h, List.length_cons, List.take_succ_cons, ← tw_take p t]
    · rw [List.takeWhile_cons_of_neg h]
      rfl
theorem dw_drop (p : UInt8 → Bool) : ∀ l : List UInt8, l.dropWhile p = l.drop (l.takeWhile p).length
  | [] => rfl
  | c :: t => by
    by_cases h : p c = true
    · rw [List.takeWhile_cons_of_pos h, List.dropWhile_cons_of_pos h, List.length_cons, List.drop_succ_cons, ← dw_drop p t]
    · rw [List.takeWhile_cons_of_neg h, List.dropWhile_cons_of_neg h]
      rfl
theorem tw_len (p : UInt8 → Bool) (l : List UInt8) : (l.takeWhile p).length ≤ l.length := (List.takeWhile_sublist p).length_le
theorem drop_len (s : ByteArray) (i : Nat) : (s.data.toList.drop i).length = s.size - i := by
  have hl : s.data.toList.length = s.size := Array.length_toList
  rw [List.length_drop, hl]
theorem extract_is (s : ByteArray) (i n : Nat) : s.extract i (i + n) = ⟨((s.data.toList.drop i).take n).toArray⟩ := by
  apply ByteArray.ext
  apply Array.ext'
  rw [ByteArray.data_extract, Array.toList_extract, List.extract_eq_take_drop, show i + n - i = n by omega]
theorem w64n (i : Nat) (k : Int) (m : Nat) (h : (i : Int) + k = (m : Int)) (hm : m ≤ 1048580) : wrap64 ((i : Int) + k) = ((m : Nat) : Int) := by
  rw [IntWalk.wrap64_in _ (by omega)]
  exact h
/-- The end of a run of bytes that are no colons, or bytes of names. -/
def upTo (p : UInt8 → Bool) (s : ByteArray) (i : Nat) : Nat := i + ((s.data.toList.drop i).takeWhile p).length
theorem upTo_le (p : UInt8 → Bool) (s : ByteArray) (i : Nat) (h : i ≤ s.size) : i ≤ upTo p s i ∧ upTo p s i ≤ s.size := by
  have := tw_len p (s.data.toList.drop i)
  rw [drop_len] at this
  unfold upTo
  omega
theorem upTo_step (p : UInt8 → Bool) (s : ByteArray) (i : Nat) (h : i < s.size) (hp : p (s[i]'h) = true) : upTo p s i = upTo p s (i + 1) := by
  unfold upTo
  rw [drop_cons s i h, List.takeWhile_cons_of_pos hp, List.length_cons]
  omega
theorem upTo_stop (p : UInt8 → Bool) (s : ByteArray) (i : Nat) (h : i < s.size) (hp : ¬ p (s[i]'h) = true) : upTo p s i = i := by
  unfold upTo
  rw [drop_cons s i h, List.takeWhile_cons_of_neg hp]
  rfl
theorem upTo_end (p : UInt8 → Bool) (s : ByteArray) (i : Nat) (h : s.size ≤ i) : upTo p s i = i := by
  unfold upTo
  rw [drop_end s i h]
  rfl

theorem l1_ev (s : ByteArray) (hs : s.size ≤ 1048576) (acc : List S72) (hacc : acc.length ≤ 1048576) (sure : Bool) (i : Nat) (V : List S72 × Bool × Bool) : ∀ (d x : Nat), s.size - x = d → i ≤ x → x ≤ s.size →
    Ev (fun k => spec_Bits.l0 k s (acc ++ [(⟨false, s.extract i (upTo (· != 58) s x)⟩ : S72)]) sure ((upTo (· != 58) s x : Nat) : Int)) V → Ev (fun k => spec_Bits.l1 k s acc sure (i : Int) (x : Int)) V := by
  intro d
  induction d with
  | zero =>
    intro x hd hi hx h
    have hx' : x = s.size := by omega
    rw [upTo_end _ s x (by omega)] at h
    refine Ev.step (fun k => ?_) h
    have c1 : ¬ (x : Int) < (s.size : Int) := by omega
    have c2 : (0 : Int) ≤ (i : Int) := by omega
    have c3 : (i : Int) ≤ (x : Int) := by omega
    have c4 : (x : Int) ≤ (s.size : Int) := by omega
    have c5 : acc.length < 5864062014805 := by omega
    simp only [spec_Bits.l1]
    rw [if_neg c1, if_pos c2, if_pos c3, if_pos c4, if_pos c5, Int.toNat_natCast, Int.toNat_natCast]
  | succ d ih =>
    intro x hd hi hx h
    have hlt : x < s.size := by omega
    have c1 : (x : Int) < (s.size : Int) := by omega
    have c0 : (0 : Int) ≤ (x : Int) := by omega
    have c2 : (0 : Int) ≤ (i : Int) := by omega
    have c3 : (i : Int) ≤ (x : Int) := by omega
    have c4 : (x : Int) ≤ (s.size : Int) := by omega
    have c5 : acc.length < 5864062014805 := by omega
    have e1 : wrap64 ((x : Int) + 1) = ((x + 1 : Nat) : Int) := w64n x 1 (x + 1) (by omega) (by omega)
    have ih' := ih (x + 1) (by omega) (by omega) (by omega)
    have hb := bt_n s x hlt
    by_cases h58 : s[x]'hlt = 58
    · rw [upTo_stop _ s x hlt (by rw [h58]; decide)] at h
      refine Ev.step (fun k => ?_) h
      simp only [spec_Bits.l1]
      rw [if_pos c1, if_pos c0, hb, if_pos ((byte_eq (c := 58) (k := 58) rfl).2 h58), if_pos c2, if_pos c3, if_pos c4, if_pos c5, Int.toNat_natCast, Int.toNat_natCast]
    · rw [upTo_step (· != 58) s x hlt (bne_iff_ne.2 h58)] at h
      refine Ev.step (fun k => ?_) (ih' h)
      simp only [spec_Bits.l1]
      rw [if_pos c1, if_pos c0, hb, if_neg (fun h => h58 ((byte_eq (c := 58) (k := 58) rfl).1 h)), e1]
theorem l2_ev (s : ByteArray) (hs : s.size ≤ 1048576) (acc : List S72) (sure : Bool) (i : Nat) (V : List S72 × Bool × Bool) : ∀ (d x : Nat), s.size - x = d → x ≤ s.size →
    Ev (fun k => spec_Bits.j3 k s acc sure (i : Int) ((upTo isNm s x : Nat) : Int)) V → Ev (fun k => spec_Bits.l2 k s acc sure (i : Int) (x : Int)) V := by
  intro d
  induction d with
  | zero =>
    intro x hd hx h
    rw [upTo_end _ s x (by omega)] at h
    refine Ev.step (fun k => ?_) h
    have c1 : ¬ (x : Int) < (s.size : Int) := by omega
    simp only [spec_Bits.l2]
    rw [if_neg c1]
  | succ d ih =>
    intro x hd hx h
    have hlt : x < s.size := by omega
    have c1 : (x : Int) < (s.size : Int) := by omega
    have c0 : (0 : Int) ≤ (x : Int) := by omega
    have e1 : wrap64 ((x : Int) + 1) = ((x + 1 : Nat) : Int) := w64n x 1 (x + 1) (by omega) (by omega)
    have ih' := ih (x + 1) (by omega) (by omega)
    have hb := bt_n s x hlt
    cases hn : isNm (s[x]'hlt) with
    | false =>
      rw [upTo_stop _ s x hlt (by rw [hn]; decide)] at h
      refine Ev.step (fun k => ?_) h
      simp only [spec_Bits.l2]
      rw [if_pos c1, if_pos c0, hb, name_byte, hn, Option.bind_some, if_neg (by decide)]
    | true =>
      rw [upTo_step _ s x hlt hn] at h
      refine Ev.step (fun k => ?_) (ih' h)
      simp only [spec_Bits.l2]
      rw [if_pos c1, if_pos c0, hb, name_byte, hn, Option.bind_some, if_pos rfl, e1]
def outOf (r : List (Bool × List UInt8) × Bool × Bool) : List S72 × Bool × Bool := (toS r.1, r.2.1, r.2.2)

set_option maxHeartbeats 3200000 in
theorem bits_ev (s : ByteArray) (hs : s.size ≤ 1048576) : ∀ (f i : Nat) (sure : Bool) (acc : List (Bool × List UInt8)), s.size - i ≤ f → i ≤ s.size → acc.length ≤ i →
    Ev (fun k => spec_Bits.l0 k s (toS acc) sure (i : Int)) (outOf (bitsF f (s.data.toList.drop i) sure acc)) := by
  intro f
  induction f with
  | zero =>
    intro i sure acc hf hi ha
    have c1 : ¬ (i : Int) < (s.size : Int) := by omega
    refine Ev.step (f := fun _ => some (toS acc, true, sure)) (fun k => ?_) (Ev.now _)
    simp only [spec_Bits.l0]
    rw [if_neg c1]
  | succ f ih =>
    intro i sure acc hf hi ha
    by_cases hlt : i < s.size
    · have c1 : (i : Int) < (s.size : Int) := by omega
      have c0 : (0 : Int) ≤ (i : Int) := by omega
      have e1 : wrap64 ((i : Int) + 1) = ((i + 1 : Nat) : Int) := w64n i 1 (i + 1) (by omega) (by omega)
      have e2 : wrap64 ((i : Int) + 2) = ((i + 2 : Nat) : Int) := w64n i 2 (i + 2) (by omega) (by omega)
      have c5 : (toS acc).length < 5864062014805 := by rw [toS_len]; omega
      have hb := bt_n s i hlt
      have hcons := drop_cons s i hlt
      by_cases h58 : s[i]'hlt = 58
      · by_cases hl : i + 1 = s.size
        · have hend : s.data.toList.drop i = [58] := by rw [hcons, h58, drop_end s (i + 1) (by omega)]
          have hl' : ((i + 1 : Nat) : Int) = (s.size : Int) := by omega
          rw [hend, bitsF.eq_def]
          refine Ev.step (f := fun _ => some (toS acc, true, false)) (fun k => ?_) (Ev.now _)
          simp only [spec_Bits.l0]
          rw [if_pos c1, if_pos c0, hb, if_pos ((byte_eq (c := 58) (k := 58) rfl).2 h58), e1, if_pos hl']
        · have hlt1 : i + 1 < s.size := by omega
          have hl' : ¬ ((i + 1 : Nat) : Int) = (s.size : Int) := by omega
          have c2 : (0 : Int) ≤ ((i + 1 : Nat) : Int) := by omega
          have c3 : ((i + 1 : Nat) : Int) < (s.size : Int) := by omega
          have hb1 := bt_n s (i + 1) hlt1
          have hcons1 := drop_cons s (i + 1) hlt1
          have hrest : s.data.toList.drop i = 58 :: (s[i + 1]'hlt1) :: s.data.toList.drop (i + 2) := by rw [hcons, h58, hcons1]
          have ihA := ih (i + 2) sure (acc ++ [(false, [58])]) (by omega) (by omega) (by simp; omega)
          rw [hrest, bitsF.eq_def]
          simp only [if_true]
          by_cases hd : s[i + 1]'hlt1 = 58
          · rw [if_pos hd]
            refine Ev.step (fun k => ?_) ihA
            simp only [spec_Bits.l0]
            rw [if_pos c1, if_pos c0, hb, if_pos ((byte_eq (c := 58) (k := 58) rfl).2 h58), e1, if_neg hl', if_pos c2, if_pos c3, hb1, if_pos ((byte_eq (c := 58) (k := 58) rfl).2 hd), if_pos c5, e2]
            rw [← toS_app]
          · rw [if_neg hd]
            by_cases hq : s[i + 1]'hlt1 = 61
            · rw [if_pos hq]
              have hemp : (!(s.data.toList.drop (i + 2)).isEmpty) = decide (((i + 2 : Nat) : Int) < (s.size : Int)) := by
                by_cases h2 : i + 2 < s.size
                · rw [drop_cons s (i + 2) h2, decide_eq_true (by omega)]
                  rfl
                · rw [drop_end s (i + 2) (by omega), decide_eq_false (by omega)]
                  rfl
              rw [hemp]
              have ihB := fun su => ih (i + 2) su (acc ++ [(false, [58, 61])]) (by omega) (by omega) (by simp; omega)
              refine Ev.step (fun k => ?_) (ihB _)
              simp only [spec_Bits.l0]
              rw [if_pos c1, if_pos c0, hb, if_pos ((byte_eq (c := 58) (k := 58) rfl).2 h58), e1, if_neg hl', if_pos c2, if_pos c3, hb1, if_neg (fun h => hd ((byte_eq (c := 58) (k := 58) rfl).1 h)), if_pos ((byte_eq (c := 61) (k := 61) rfl).2 hq), e2]
              cases sure with
              | true => rw [if_pos rfl, if_pos c5, ← toS_app, Bool.true_and]
              | false => rw [if_neg (by decide), if_pos c5, ← toS_app, Bool.false_and]
            · rw [if_neg hq]
              obtain ⟨j, hj⟩ : ∃ j, j = upTo isNm s (i + 1) := ⟨_, rfl⟩
              have hjl := upTo_le isNm s (i + 1) (by omega)
              rw [← hj] at hjl
              have htw : (s.data.toList.drop (i + 1)).takeWhile isNm = (s.data.toList.drop (i + 1)).take (j - (i + 1)) := by
                rw [hj, upTo, Nat.add_sub_cancel_left]
                exact tw_take _ _
              have hdw : (s.data.toList.drop (i + 1)).dropWhile isNm = s.data.toList.drop j := by
                rw [dw_drop, List.drop_drop, hj, upTo]
              have hex : s.extract (i + 1) j = ⟨((s.data.toList.drop (i + 1)).takeWhile isNm).toArray⟩ := by
                rw [htw, ← extract_is, show i + 1 + (j - (i + 1)) = j by omega]
              have hgo : Ev (fun k => spec_Bits.j3 k s (toS acc) sure (i : Int) (j : Int)) (outOf (match (s.data.toList.drop (i + 1)).dropWhile isNm with
                  | [] => (acc ++ [(true, (s.data.toList.drop (i + 1)).takeWhile isNm)], true, sure && ((s.data.toList.drop (i + 1)).getLast? != some 95 && (s.data.toList.drop (i + 1)).getLast? != some 46))
                  | e :: v => if e = 58 then ([], false, sure) else bitsF f (e :: v) (if 128 ≤ e.toNat then false else if (s.data.toList.drop (i + 1)).takeWhile isNm = [] ∧ v = [] then false else sure) (acc ++ [(true, (s.data.toList.drop (i + 1)).takeWhile isNm)]))) := by
                have d2 : ((i + 1 : Nat) : Int) ≤ (j : Int) := by omega
                have d3 : (j : Int) ≤ (s.size : Int) := by omega
                have ih2 := fun su => ih j su (acc ++ [(true, (s.data.toList.drop (i + 1)).takeWhile isNm)]) (by omega) (by omega) (by simp; omega)
                rw [hdw]
                by_cases hje : j = s.size
                · have hjI : (j : Int) = (s.size : Int) := by omega
                  have hne : 1 ≤ j := by omega
                  have ejm : wrap64 ((j : Int) - 1) = ((j - 1 : Nat) : Int) := w64n j (-1) (j - 1) (by omega) (by omega)
                  have m0 : (0 : Int) ≤ ((j - 1 : Nat) : Int) := by omega
                  have m1 : ((j - 1 : Nat) : Int) < (s.size : Int) := by omega
                  have hbl := bt_n s (j - 1) (by omega)
                  have hlast : (s.data.toList.drop (i + 1)).getLast? = some (s[j - 1]'(by omega)) := by
                    rw [List.getLast?_drop, if_neg (by rw [Array.length_toList]; show ¬ s.size ≤ i + 1; omega), List.getLast?_eq_getElem?]
                    rw [Array.length_toList, show s.data.size - 1 = j - 1 by show s.size - 1 = j - 1; omega, List.getElem?_eq_getElem (by rw [Array.length_toList]; show j - 1 < s.size; omega)]
                    rfl
                  have ih3 : ∀ su, Ev (fun k => spec_Bits.l0 k s (toS (acc ++ [(true, (s.data.toList.drop (i + 1)).takeWhile isNm)])) su (j : Int)) (toS (acc ++ [(true, (s.data.toList.drop (i + 1)).takeWhile isNm)]), true, su) := by
                    intro su
                    have h := ih2 su
                    rw [drop_end s j (by omega)] at h
                    cases f with
                    | zero => exact h
                    | succ f => exact h
                  rw [drop_end s j (by omega)]
                  simp only []
                  rw [hlast]
                  refine Ev.step (fun k => ?_) (ih3 _)
                  simp only [spec_Bits.j3]
                  rw [e1, if_pos c2, if_pos d2, if_pos d3, if_pos c5, Option.bind_some, if_pos hjI, Int.toNat_natCast, Int.toNat_natCast, hex, toS_app, ejm, if_pos m0, if_pos m1, hbl]
                  cases sure with
                  | false => rw [if_neg (by decide), Bool.false_and]
                  | true =>
                    rw [if_pos rfl, Bool.true_and]
                    by_cases h95 : s[j - 1]'(by omega) = 95
                    · rw [if_pos ((byte_eq (c := 95) (k := 95) rfl).2 h95), h95]
                      rfl
                    · rw [if_neg (fun h => h95 ((byte_eq (c := 95) (k := 95) rfl).1 h))]
                      have ea : (some (s[j - 1]'(by omega)) != some (95 : UInt8)) = true := by simpa using h95
                      rw [ea, Bool.true_and]
                      congr 1
                      by_cases h46 : s[j - 1]'(by omega) = 46
                      · rw [h46]
                        rfl
                      · have eb : (some (s[j - 1]'(by omega)) != some (46 : UInt8)) = true := by simpa using h46
                        rw [eb, bne_iff_ne]
                        exact fun h => h46 ((byte_eq (c := 46) (k := 46) rfl).1 h)
                · have hjlt : j < s.size := by omega
                  have hjI : ¬ (j : Int) = (s.size : Int) := by omega
                  have hzn : j ≠ i + 1 → ¬ (j - (i + 1) = 0 ∨ (s.data.toList.drop (i + 1)).length = 0) := by
                    rw [drop_len]
                    omega
                  have j0 : (0 : Int) ≤ (j : Int) := by omega
                  have j1 : (j : Int) < (s.size : Int) := by omega
                  have hbj := bt_n s j hjlt
                  have ejp : wrap64 ((j : Int) + 1) = ((j + 1 : Nat) : Int) := w64n j 1 (j + 1) (by omega) (by omega)
                  rw [drop_cons s j hjlt] at ih2 ⊢
                  simp only []
                  by_cases he : s[j]'hjlt = 58
                  · rw [if_pos he]
                    refine Ev.step (f := fun _ => some ([], false, sure)) (fun k => ?_) (Ev.now _)
                    simp only [spec_Bits.j3]
                    rw [e1, if_pos c2, if_pos d2, if_pos d3, if_pos c5, Option.bind_some, if_neg hjI, if_pos j0, if_pos j1, hbj, if_pos ((byte_eq (c := 58) (k := 58) rfl).2 he)]
                  · rw [if_neg he]
                    refine Ev.step (fun k => ?_) (ih2 _)
                    simp only [spec_Bits.j3]
                    rw [e1, if_pos c2, if_pos d2, if_pos d3, if_pos c5, Option.bind_some, if_neg hjI, if_pos j0, if_pos j1, hbj, if_neg (fun h => he ((byte_eq (c := 58) (k := 58) rfl).1 h)), Int.toNat_natCast, Int.toNat_natCast, hex, toS_app]
                    by_cases h128 : 128 ≤ (s[j]'hjlt).toNat
                    · rw [if_pos ((ge128 _).2 h128), if_pos h128]
                    · rw [if_neg (fun h => h128 ((ge128 _).1 h)), if_neg h128]
                      by_cases hji : j = i + 1
                      · have hz : (s.data.toList.drop (i + 1)).takeWhile isNm = [] := by rw [htw, hji, Nat.sub_self, List.take_zero]
                        rw [if_pos (Int.ofNat_inj.2 hji), ejp]
                        by_cases hl2 : j + 1 = s.size
                        · rw [if_pos (Int.ofNat_inj.2 hl2), if_pos ⟨hz, drop_end s (j + 1) (Nat.le_of_eq hl2.symm)⟩]
                        · rw [if_neg (fun h => hl2 (Int.ofNat_inj.1 h)), if_neg (fun h => by
                            have := h.2
                            rw [drop_cons s (j + 1) (Nat.lt_of_le_of_ne hjlt hl2)] at this
                            cases this)]
                      · rw [if_neg (fun h => hji (Int.ofNat_inj.1 h)), if_neg (fun h => by
                          rw [htw] at h
                          exact hzn hji (take_none _ _ h.1))]
              rw [hj] at hgo
              have h2 := l2_ev s hs (toS acc) sure i _ (s.size - (i + 1)) (i + 1) rfl (by omega) hgo
              rw [hcons1] at h2
              refine Ev.step (fun k => ?_) h2
              simp only [spec_Bits.l0]
              rw [if_pos c1, if_pos c0, hb, if_pos ((byte_eq (c := 58) (k := 58) rfl).2 h58), e1, if_neg hl', if_pos c2, if_pos c3, hb1, if_neg (fun h => hd ((byte_eq (c := 58) (k := 58) rfl).1 h)), if_neg (fun h => hq ((byte_eq (c := 61) (k := 61) rfl).1 h))]
      · obtain ⟨j, hj⟩ : ∃ j, j = upTo (· != 58) s i := ⟨_, rfl⟩
        have hjl := upTo_le (· != 58) s i hi
        have hst := upTo_step (· != 58) s i hlt (bne_iff_ne.2 h58)
        have hjl2 := upTo_le (· != 58) s (i + 1) (by omega)
        rw [← hst, ← hj] at hjl2
        rw [← hj] at hjl
        have htw : (s.data.toList.drop i).takeWhile (· != 58) = (s.data.toList.drop i).take (j - i) := by
          rw [hj, upTo, Nat.add_sub_cancel_left]
          exact tw_take _ _
        have hdw : (s.data.toList.drop i).dropWhile (· != 58) = s.data.toList.drop j := by
          rw [dw_drop, List.drop_drop, hj, upTo]
        have hex : s.extract i j = ⟨((s.data.toList.drop i).takeWhile (· != 58)).toArray⟩ := by
          rw [htw, ← extract_is, show i + (j - i) = j by omega]
        have ihC := ih j sure (acc ++ [(false, (s.data.toList.drop i).takeWhile (· != 58))]) (by omega) (by omega) (by simp; omega)
        rw [← toS_app, ← hex, ← hdw, hj] at ihC
        have h1 := l1_ev s hs (toS acc) (by rw [toS_len]; omega) sure i _ (s.size - i) i rfl (by omega) hi ihC
        have hb2 : bitsF (f + 1) (s.data.toList.drop i) sure acc = bitsF f ((s.data.toList.drop i).dropWhile (· != 58)) sure (acc ++ [(false, (s.data.toList.drop i).takeWhile (· != 58))]) := by
          rw [hcons, bitsF.eq_def]
          simp only []
          rw [if_neg h58]
        rw [hb2]
        refine Ev.step (fun k => ?_) h1
        simp only [spec_Bits.l0]
        rw [if_pos c1, if_pos c0, hb, if_neg (fun h => h58 ((byte_eq (c := 58) (k := 58) rfl).1 h))]
    · have c1 : ¬ (i : Int) < (s.size : Int) := by omega
      rw [drop_end s i (by omega)]
      refine Ev.step (f := fun _ => some (toS acc, true, sure)) (fun k => ?_) (Ev.now _)
      simp only [spec_Bits.l0]
      rw [if_neg c1]
/-! decimal -/

theorem str_one (u : Nat) : strOfNums [(u : Int)] = ⟨#[UInt8.ofNat u]⟩ := by
  apply ByteArray.ext
  simp [strOfNums]
theorem decimal_ev : ∀ (d n : Nat) (acc : List UInt8), n < 10 ^ (d + 1) → n ≤ 2147483648 → acc.length + d ≤ 1000 →
    Ev (fun k => spec_decimal.l0 k (n : Int) ⟨acc.toArray⟩) ⟨(Lib.decDigits n ++ acc).toArray⟩ := by
  have cat : ∀ (u : Nat) (acc : List UInt8), (⟨#[UInt8.ofNat u]⟩ : ByteArray) ++ ⟨acc.toArray⟩ = ⟨(UInt8.ofNat u :: acc).toArray⟩ := fun u acc => ByteArray.ext (by simp)
  have one : ∀ n : Nat, n < 10 → ∀ acc : List UInt8, acc.length ≤ 1000 → Ev (fun k => spec_decimal.l0 k (n : Int) ⟨acc.toArray⟩) ⟨(Lib.decDigits n ++ acc).toArray⟩ := by
    intro n h acc ha
    refine Ev.step (f := fun _ => some ⟨(Lib.decDigits n ++ acc).toArray⟩) (fun k => ?_) (Ev.now _)
    have e : (wrap64 (48 + (n : Int))) % 256 = ((48 + n : Nat) : Int) := by rw [w64 _ (by omega)]; omega
    simp only [spec_decimal.l0]
    rw [if_neg (by omega), Option.bind_some, e, str_one, if_pos (by show 1 + acc.length ≤ 9223372036854775807; omega), cat, Lib.decDigits_one h]
    rfl
  intro d
  induction d with
  | zero =>
    intro n acc h _ ha
    exact one n (by omega) acc (by omega)
  | succ d ih =>
    intro n acc h hn ha
    by_cases h9 : n < 10
    · exact one n h9 acc (by omega)
    · have h2 : n / 10 < 10 ^ (d + 1) := by rw [Nat.div_lt_iff_lt_mul (by omega)]; rw [Nat.pow_succ] at h; omega
      have hi := ih (n / 10) (UInt8.ofNat (48 + n % 10) :: acc) h2 (by omega) (by simp; omega)
      rw [Lib.decDigits, dif_neg h9, List.append_assoc]
      refine Ev.step (fun k => ?_) hi
      have e : (wrap64 (48 + (Int.tmod (n : Int) 10))) % 256 = ((48 + n % 10 : Nat) : Int) := by
        have : Int.tmod (n : Int) 10 = ((n % 10 : Nat) : Int) := rfl
        rw [this, w64 _ (by omega)]; omega
      have e2 : wrap64 (Int.tdiv (n : Int) 10) = ((n / 10 : Nat) : Int) := by
        have : Int.tdiv (n : Int) 10 = ((n / 10 : Nat) : Int) := rfl
        rw [this, w64 _ (by omega)]
      simp only [spec_decimal.l0]
      rw [if_pos (by omega), Option.bind_some, e, str_one, if_pos (by show 1 + acc.length ≤ 9223372036854775807; omega), cat, e2]
theorem decimal_is (n : Nat) (hn : n ≤ 2147483648) : Ev (fun k => spec_decimal.f k (n : Int)) ⟨(Lib.itoa (n : Int)).toArray⟩ := by
  have hi : Lib.itoa (n : Int) = Lib.decDigits n := by rw [Lib.itoa, if_neg (by omega)]; rfl
  have h := decimal_ev 10 n [] (by omega) hn (by simp)
  rw [List.append_nil] at h
  rw [hi]
  refine Ev.step (fun k => ?_) h
  simp only [spec_decimal.f]
  rw [if_neg (by omega)]
end Go.Proofs.YtnmhoghmhglimaaDoor.SC
