/-
  PLAIN: the reference's Numbered writes a sign and numbers for question marks; two side by side are one (texts of at most 1000 bytes, signs of at most 1000).
-/
import Derived.Test.YtapnlnikeniomaaDoorSDecimal
import Derived.Test.YtapnlnikeniomaaDoorHNum
import Derived.Test.YtapnlnikeniomaaDoorHIndex
import Derived.Test.YtapnlnikeniomaaDoorQP2
namespace Go.Proofs.YtapnlnikeniomaaDoor.S
open Go.RowKit Go.Proofs.YtapnlnikeniomaaDoor.QP Go.Proofs.YtapnlnikeniomaaDoor.H Go.Proofs.YtapnlnikeniomaaDoorW.PrintWords Go.Proofs.YtapnlnikeniomaaDoorW.PrintLast Go.Proofs.YtapnlnikeniomaaDoorW.PrintMore
set_option linter.unusedVariables false
set_option linter.unusedSimpArgs false

theorem cat_mk (a b : List UInt8) : (⟨a.toArray⟩ : ByteArray) ++ ⟨b.toArray⟩ = ⟨(a ++ b).toArray⟩ := ByteArray.ext (by simp)
theorem mk_size (a : List UInt8) : (⟨a.toArray⟩ : ByteArray).size = a.length := rfl
theorem bt_n (s : ByteArray) (i : Nat) (h : i < s.size) : bt s (i : Int) = ((s[i]'h).toNat : Int) := by simp [bt, h]
theorem byte_eq {b c : UInt8} {k : Int} (hk : (c.toNat : Int) = k) : ((b.toNat : Int) = k) ↔ b = c := by
  rw [← hk]
  exact ⟨fun h => UInt8.toNat_inj.1 (Int.ofNat.inj h), fun h => by rw [h]⟩
theorem drop_cons (s : ByteArray) (i : Nat) (h : i < s.size) : s.data.toList.drop i = (s[i]'h) :: s.data.toList.drop (i + 1) := by
  have hl : s.data.toList.length = s.size := Array.length_toList
  rw [List.drop_eq_getElem_cons (by omega)]
  rfl
theorem drop_end (s : ByteArray) (i : Nat) (h : s.size ≤ i) : s.data.toList.drop i = [] := by
  have hl : s.data.toList.length = s.size := Array.length_toList
  exact List.drop_eq_nil_of_le (by omega)
theorem w64n (i : Nat) (k : Int) (m : Nat) (h : (i : Int) + k = (m : Int)) (hm : m ≤ 1048580) : wrap64 ((i : Int) + k) = ((m : Nat) : Int) := by
  rw [IntWalk.wrap64_in _ (by omega)]
  exact h
set_option maxHeartbeats 1600000 in
theorem numbered_ev (P : List UInt8) (s : ByteArray) (hs : s.size ≤ 1000) (hp : P.length ≤ 1000) : ∀ (f i n : Nat) (acc : List UInt8), s.size - i ≤ f → i ≤ s.size → n ≤ i → acc.length ≤ 1100 * i →
    Ev (fun k => spec_Numbered.l0 k ⟨P.toArray⟩ s ⟨acc.toArray⟩ (n : Int) (i : Int)) ⟨(acc ++ numL P n (s.data.toList.drop i)).toArray⟩ := by
  intro f
  induction f with
  | zero =>
    intro i n acc hf hi hn ha
    have c1 : ¬ (i : Int) < (s.size : Int) := by omega
    rw [drop_end s i (by omega)]
    refine Ev.step (f := fun _ => some ⟨acc.toArray⟩) (fun k => ?_) (by rw [numL, List.append_nil]; exact Ev.now _)
    simp only [spec_Numbered.l0]
    rw [if_neg c1]
  | succ f ih =>
    intro i n acc hf hi hn ha
    by_cases hlt : i < s.size
    · have c1 : (i : Int) < (s.size : Int) := by omega
      have c0 : (0 : Int) ≤ (i : Int) := by omega
      have e1 : wrap64 ((i : Int) + 1) = ((i + 1 : Nat) : Int) := w64n i 1 (i + 1) (by omega) (by omega)
      have e2 : wrap64 (((i + 1 : Nat) : Int) + 1) = ((i + 2 : Nat) : Int) := w64n (i + 1) 1 (i + 2) (by omega) (by omega)
      have e3 : wrap64 ((n : Int) + 1) = ((n + 1 : Nat) : Int) := w64n n 1 (n + 1) (by omega) (by omega)
      have d0 : (0 : Int) ≤ ((i + 1 : Nat) : Int) := by omega
      have hb := bt_n s i hlt
      have hil := Lib.itoa_length_le ((n + 1 : Nat) : Int) (by omega) (by omega)
      have hdec := decimal_is (n + 1) (by omega)
      have q1 : (⟨P.toArray⟩ : ByteArray).size + (⟨(Lib.itoa ((n + 1 : Nat) : Int)).toArray⟩ : ByteArray).size ≤ 9223372036854775807 := by rw [mk_size, mk_size]; omega
      have scat : (⟨P.toArray⟩ : ByteArray) ++ (⟨(Lib.itoa ((n + 1 : Nat) : Int)).toArray⟩ : ByteArray) = ⟨(P ++ Lib.itoa ((n + 1 : Nat) : Int)).toArray⟩ := cat_mk P _
      have q2 : (⟨acc.toArray⟩ : ByteArray).size + ((⟨P.toArray⟩ : ByteArray) ++ (⟨(Lib.itoa ((n + 1 : Nat) : Int)).toArray⟩ : ByteArray)).size ≤ 9223372036854775807 := by
        rw [scat, mk_size, mk_size, List.length_append]
        omega
      have q3 : (⟨acc.toArray⟩ : ByteArray).size + 1 ≤ 9223372036854775807 := by rw [mk_size]; omega
      have num : ∀ T : List UInt8, Ev (fun k => spec_Numbered.l0 k ⟨P.toArray⟩ s ⟨(acc ++ (P ++ Lib.itoa ((n + 1 : Nat) : Int))).toArray⟩ ((n + 1 : Nat) : Int) ((i + 1 : Nat) : Int)) ⟨T.toArray⟩ →
          Ev (fun k => (spec_decimal.f k ((n + 1 : Nat) : Int)).bind fun t109 => (if (⟨P.toArray⟩ : ByteArray).size + t109.size ≤ 9223372036854775807 then (if (⟨acc.toArray⟩ : ByteArray).size + ((⟨P.toArray⟩ : ByteArray) ++ t109).size ≤ 9223372036854775807 then (spec_Numbered.l0 k ⟨P.toArray⟩ s ((⟨acc.toArray⟩ : ByteArray) ++ ((⟨P.toArray⟩ : ByteArray) ++ t109)) ((n + 1 : Nat) : Int) ((i + 1 : Nat) : Int)) else (none)) else (none))) ⟨T.toArray⟩ := by
        intro T h
        refine Ev.bind hdec ?_
        refine Ev.congr (fun k => ?_) h
        rw [if_pos q1, if_pos q2, scat, cat_mk]
      have ihN := ih (i + 1) (n + 1) (acc ++ (P ++ Lib.itoa ((n + 1 : Nat) : Int))) (by omega) (by omega) (by omega) (by rw [List.length_append, List.length_append]; omega)
      have ihO := ih (i + 1) n (acc ++ [s[i]'hlt]) (by omega) (by omega) (by omega) (by rw [List.length_append, List.length_singleton]; omega)
      by_cases h63 : s[i]'hlt = 63
      · have hx := (byte_eq (b := s[i]'hlt) (c := 63) (k := 63) rfl).2 h63
        by_cases hl2 : i + 1 < s.size
        · have d1 : ((i + 1 : Nat) : Int) < (s.size : Int) := by omega
          have hb1 := bt_n s (i + 1) hl2
          by_cases h2 : s[i + 1]'hl2 = 63
          · have ihT := ih (i + 2) n (acc ++ [63]) (by omega) (by omega) (by omega) (by rw [List.length_append, List.length_singleton]; omega)
            rw [drop_cons s i hlt, drop_cons s (i + 1) hl2, h63, h2, numL_two]
            rw [List.append_assoc] at ihT
            refine Ev.step (fun k => ?_) ihT
            simp only [spec_Numbered.l0]
            rw [if_pos c1, if_pos c0, hb, if_pos hx, e1, if_pos d1, if_pos d0, hb1, if_pos ((byte_eq (c := 63) (k := 63) rfl).2 h2), if_pos q3, e2]
            exact congrArg (fun t => spec_Numbered.l0 k ⟨P.toArray⟩ s t (n : Int) ((i + 2 : Nat) : Int)) (cat_mk acc [63])
          · rw [drop_cons s i hlt, h63, numL_one _ _ _ (by rw [drop_cons s (i + 1) hl2]; simpa using h2), ← List.append_assoc]
            rw [← List.append_assoc] at ihN
            refine Ev.step (fun k => ?_) (num _ (by rw [← List.append_assoc]; simpa only [List.append_assoc] using ihN))
            simp only [spec_Numbered.l0]
            rw [if_pos c1, if_pos c0, hb, if_pos hx, e1, if_pos d1, if_pos d0, hb1, if_neg (fun h => h2 ((byte_eq (c := 63) (k := 63) rfl).1 h)), e3]
        · have d1 : ¬ ((i + 1 : Nat) : Int) < (s.size : Int) := by omega
          rw [drop_cons s i hlt, h63, numL_one _ _ _ (by rw [drop_end s (i + 1) (by omega)]; simp)]
          refine Ev.step (fun k => ?_) (num _ (by simpa only [List.append_assoc] using ihN))
          simp only [spec_Numbered.l0]
          rw [if_pos c1, if_pos c0, hb, if_pos hx, e1, if_neg d1, e3]
      · have hx : ¬ ((s[i]'hlt).toNat : Int) = 63 := fun h => h63 ((byte_eq (c := 63) (k := 63) rfl).1 h)
        have d2 : (i : Int) ≤ ((i + 1 : Nat) : Int) := by omega
        have d3 : ((i + 1 : Nat) : Int) ≤ (s.size : Int) := by omega
        have hpre := numL_pre P n [s[i]'hlt] (s.data.toList.drop (i + 1)) (by simpa using h63)
        rw [drop_cons s i hlt, show (s[i]'hlt) :: s.data.toList.drop (i + 1) = [s[i]'hlt] ++ s.data.toList.drop (i + 1) from rfl, hpre, ← List.append_assoc]
        refine Ev.step (fun k => ?_) ihO
        simp only [spec_Numbered.l0]
        have e5 : ((i + 1 : Nat) : Int).toNat = i + 1 := Int.toNat_natCast _
        rw [if_pos c1, if_pos c0, hb, if_neg hx, e1, if_pos d2, if_pos d3, e5, Int.toNat_natCast, one_extract s i hlt]
        refine (if_pos q3).trans ?_
        exact congrArg (fun t => spec_Numbered.l0 k ⟨P.toArray⟩ s t (n : Int) ((i + 1 : Nat) : Int)) (cat_mk acc [s[i]'hlt])
    · have c1 : ¬ (i : Int) < (s.size : Int) := by omega
      rw [drop_end s i (by omega)]
      refine Ev.step (f := fun _ => some ⟨acc.toArray⟩) (fun k => ?_) (by rw [numL, List.append_nil]; exact Ev.now _)
      simp only [spec_Numbered.l0]
      rw [if_neg c1]
theorem numbered_is (p s : ByteArray) (hs : s.size ≤ 1000) (hp : p.size ≤ 1000) : Ev (fun k => spec_Numbered.f k p s) ⟨(numL p.data.toList 0 s.data.toList).toArray⟩ := by
  have := numbered_ev p.data.toList s hs (by rw [show p.data.toList.length = p.size from Array.length_toList]; exact hp) s.size 0 0 [] (by omega) (by omega) (by omega) (by simp)
  rw [List.nil_append, List.drop_zero] at this
  exact Ev.congr (fun k => by simp only [spec_Numbered.f]; rfl) this
end Go.Proofs.YtapnlnikeniomaaDoor.S
