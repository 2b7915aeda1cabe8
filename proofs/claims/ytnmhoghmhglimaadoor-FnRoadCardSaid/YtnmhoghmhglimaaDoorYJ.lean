/-
  MERGED BY A PROGRAM OF THIS SESSION (wip/pack.py): SDecimal, SRebd.
-/
import Derived.Test.YtnmhoghmhglimaaDoorYB
import Derived.Test.YtnmhoghmhglimaaDoorYD
/-
  PLAIN: the reference's decimal, at numbers from 0 to 2^31, writes the library's decimal digits.
-/
namespace Go.Proofs.YtnmhoghmhglimaaDoor.S
open Go.RowKit Go.Proofs.YtnmhoghmhglimaaDoor.QN Go.Proofs.YtnmhoghmhglimaaDoor.H Go.Proofs.YtnmhoghmhglimaaDoorW.PrintWords Go.Proofs.YtnmhoghmhglimaaDoorW.PrintLast Go.Proofs.YtnmhoghmhglimaaDoorW.PrintMore

theorem str_one (u : Nat) : strOfNums [(u : Int)] = ⟨#[UInt8.ofNat u]⟩ := by
  apply ByteArray.ext
  simp [strOfNums]
theorem decimal_ev : ∀ (d n : Nat) (acc : List UInt8), n < 10 ^ (d + 1) → n ≤ 2147483648 → acc.length + d ≤ 1000 →
    Ev (fun k => spec_decimal.l0 k (n : Int) ⟨acc.toArray⟩) ⟨(Lib.decDigits n ++ acc).toArray⟩ := by
  have cat : ∀ (u : Nat) (acc : List UInt8), (⟨#[UInt8.ofNat u]⟩ : ByteArray) ++ ⟨acc.toArray⟩ = ⟨(UInt8.ofNat u :: acc).toArray⟩ := fun u acc => ByteArray.ext (by simp)
  have one : ∀ n : Nat, n < 10 → ∀ acc : List UInt8, acc.length ≤ 1000 → Ev (fun k => spec_decimal.l0 k (n : Int) ⟨acc.toArray⟩) ⟨(Lib.decDigits n ++ acc).toArray⟩ := by
    intro n h acc ha
    refine Ev.step (f := fun _ => some ⟨(Lib.decDigits n ++ acc).toArray⟩) (fun k => ?_) (Ev.now _)
    have e : (wrap64 (48 + (n : Int))) % 256 = ((48 + n : Nat) : Int) := by rw [w64 _ (by omega)]; omega
    simp only [spec_decimal.l0]
    rw [if_neg (by omega), Option.bind_some, e, str_one, if_pos (by show 1 + acc.length ≤ 9223372036854775807; omega), cat, Lib.decDigits_one h]
    rfl
  intro d
  induction d with
  | zero =>
    intro n acc h _ ha
    exact one n (by omega) acc (by omega)
  | succ d ih =>
    intro n acc h hn ha
    by_cases h9 : n < 10
    · exact one n h9 acc (by omega)
    · have h2 : n / 10 < 10 ^ (d + 1) := by rw [Nat.div_lt_iff_lt_mul (by omega)]; rw [Nat.pow_succ] at h; omega
      have hi := ih (n / 10) (UInt8.ofNat (48 + n % 10) :: acc) h2 (by omega) (by simp; omega)
      rw [Lib.decDigits, dif_neg h9, List.append_assoc]
      refine Ev.step (fun k => ?_) hi
      have e : (wrap64 (48 + (Int.tmod (n : Int) 10))) % 256 = ((48 + n % 10 : Nat) : Int) := by
        have : Int.tmod (n : Int) 10 = ((n % 10 : Nat) : Int) := rfl
        rw [this, w64 _ (by omega)]; omega
      have e2 : wrap64 (Int.tdiv (n : Int) 10) = ((n / 10 : Nat) : Int) := by
        have : Int.tdiv (n : Int) 10 = ((n / 10 : Nat) : Int) := rfl
        rw [this, w64 _ (by omega)]
      simp only [spec_decimal.l0]
      rw [if_pos (by omega), Option.bind_some, e, str_one, if_pos (by show 1 + acc.length ≤ 9223372036854775807; omega), cat, e2]
theorem decimal_is (n : Nat) (hn : n ≤ 2147483648) : Ev (fun k => spec_decimal.f k (n : Int)) ⟨(Lib.itoa (n : Int)).toArray⟩ := by
  have hi : Lib.itoa (n : Int) = Lib.decDigits n := by rw [Lib.itoa, if_neg (by omega)]; rfl
  have h := decimal_ev 10 n [] (by omega) hn (by simp)
  rw [List.append_nil] at h
  rw [hi]
  refine Ev.step (fun k => ?_) h
  simp only [spec_decimal.f]
  rw [if_neg (by omega)]
end Go.Proofs.YtnmhoghmhglimaaDoor.S
/-
  PLAIN: the reference's Rebound is the package's Rebind (texts of at most 40000 bytes).
-/
namespace Go.Proofs.YtnmhoghmhglimaaDoor.SR
open Go.RowKit Go.Proofs.YtnmhoghmhglimaaDoor.QN Go.Proofs.YtnmhoghmhglimaaDoor.H Go.Proofs.YtnmhoghmhglimaaDoor.S Go.Proofs.YtnmhoghmhglimaaDoorW.PrintWords Go.Proofs.YtnmhoghmhglimaaDoorW.PrintLast Go.Proofs.YtnmhoghmhglimaaDoorW.PrintMore

theorem bt_n (s : ByteArray) (i : Nat) (h : i < s.size) : bt s (i : Int) = ((s[i]'h).toNat : Int) := by simp [bt, h]
theorem cat_mk (a b : List UInt8) : (⟨a.toArray⟩ : ByteArray) ++ ⟨b.toArray⟩ = ⟨(a ++ b).toArray⟩ := ByteArray.ext (by simp)
theorem mark_is (kind : Int) (hk : kind = 2 ∨ kind = 3 ∨ kind = 4) (n : Nat) (hn : n ≤ 1048576) :
    Ev (fun k => (spec_decimal.f k (n : Int)).bind fun t111 => (if 3 + t111.size ≤ 9223372036854775807 then (spec_Mark.f k kind (n : Int) ((⟨#[97, 114, 103]⟩ : ByteArray) ++ t111)) else none)) ⟨(markB kind ++ Lib.itoa (n : Int)).toArray⟩ := by
  have hd := decimal_is n (by omega)
  have hl := Lib.itoa_length_le (n : Int) (by omega) (by omega)
  refine Ev.bind hd ?_
  refine Ev.congr (f := fun k => spec_Mark.f k kind (n : Int) ((⟨#[97, 114, 103]⟩ : ByteArray) ++ ⟨(Lib.itoa (n : Int)).toArray⟩)) (fun k => by rw [if_pos (by show 3 + (Lib.itoa (n : Int)).length ≤ 9223372036854775807; omega)]) ?_
  rcases hk with rfl | rfl | rfl
  · refine Ev.congr (f := fun k => (spec_decimal.f k (n : Int)).bind fun t109 => (if 1 + t109.size ≤ 9223372036854775807 then (some ((⟨#[36]⟩ : ByteArray) ++ t109)) else (none))) (fun k => by simp only [spec_Mark.f, if_true]) (Ev.bind hd ?_)
    exact Ev.congr (f := fun _ => some ⟨(markB 2 ++ Lib.itoa (n : Int)).toArray⟩) (fun k => by rw [if_pos (by show 1 + (Lib.itoa (n : Int)).length ≤ 9223372036854775807; omega)]; exact congrArg some (cat_mk [36] _)) (Ev.now _)
  · refine Ev.congr (f := fun _ => some ⟨(markB 3 ++ Lib.itoa (n : Int)).toArray⟩) (fun k => ?_) (Ev.now _)
    have e := cat_mk [97, 114, 103] (Lib.itoa (n : Int))
    rw [show (⟨#[97, 114, 103]⟩ : ByteArray) = ⟨[97, 114, 103].toArray⟩ from rfl, e]
    simp only [spec_Mark.f]
    rw [if_neg (by decide), if_neg (by decide), if_pos trivial, if_pos (by show 1 + ([97, 114, 103] ++ Lib.itoa (n : Int)).length ≤ 9223372036854775807; rw [List.length_append]; simp only [List.length_cons, List.length_nil]; omega)]
    exact congrArg some (cat_mk [58] _)
  · refine Ev.congr (f := fun k => (spec_decimal.f k (n : Int)).bind fun t110 => (if 2 + t110.size ≤ 9223372036854775807 then (some ((⟨#[64, 112]⟩ : ByteArray) ++ t110)) else (none))) (fun k => by simp only [spec_Mark.f]; rw [if_neg (by decide), if_pos trivial]) (Ev.bind hd ?_)
    exact Ev.congr (f := fun _ => some ⟨(markB 4 ++ Lib.itoa (n : Int)).toArray⟩) (fun k => by rw [if_pos (by show 2 + (Lib.itoa (n : Int)).length ≤ 9223372036854775807; omega)]; exact congrArg some (cat_mk [64, 112] _)) (Ev.now _)
theorem mark_len (kind : Int) (n : Nat) (hn : n ≤ 1048576) : (markB kind ++ Lib.itoa (n : Int)).length ≤ 25 := by
  have hl := Lib.itoa_length_le (n : Int) (by omega) (by omega)
  have : (markB kind).length ≤ 4 := by
    unfold markB
    split
    · simp
    · split
      · simp
      · split <;> simp
  rw [List.length_append]
  omega
theorem reb_ev (kind : Int) (hk : kind = 2 ∨ kind = 3 ∨ kind = 4) (s : ByteArray) (hs : s.size ≤ 40000) : ∀ (d i n : Nat) (acc : List UInt8), s.size - i = d → i ≤ s.size → n ≤ i → acc.length ≤ 25 * i →
    Ev (fun k => spec_Rebound.l0 k kind s ⟨acc.toArray⟩ (n : Int) (i : Int)) ⟨(acc ++ rebL kind n (s.data.toList.drop i)).toArray⟩ := by
  have hl : s.data.toList.length = s.size := Array.length_toList
  intro d
  induction d with
  | zero =>
    intro i n acc hd hi hn ha
    refine Ev.step (f := fun _ => some ⟨acc.toArray⟩) (fun k => ?_) (by rw [List.drop_eq_nil_of_le (by omega), rebL, List.append_nil]; exact Ev.now _)
    simp only [spec_Rebound.l0]
    rw [if_neg (by omega)]
  | succ d ih =>
    intro i n acc hd hi hn ha
    have hlt : i < s.size := by omega
    have hn1 : n + 1 ≤ 1048576 := by omega
    have hm := mark_is kind hk (n + 1) hn1
    have hml := mark_len kind (n + 1) hn1
    have hihA := ih (i + 1) (n + 1) (acc ++ (markB kind ++ Lib.itoa ((n + 1 : Nat) : Int))) (by omega) (by omega) (by omega) (by rw [List.length_append]; omega)
    have hihB := ih (i + 1) n (acc ++ [s[i]'hlt]) (by omega) (by omega) (by omega) (by rw [List.length_append, List.length_singleton]; omega)
    have c1 : (i : Int) < (s.size : Int) := by omega
    have c2 : (0 : Int) ≤ (i : Int) := by omega
    have c3 : acc.length + (markB kind ++ Lib.itoa ((n + 1 : Nat) : Int)).length ≤ 9223372036854775807 := by omega
    have c4 : acc.length + 1 ≤ 9223372036854775807 := by omega
    have c5 : (i : Int) ≤ ((i + 1 : Nat) : Int) := by omega
    have c6 : ((i + 1 : Nat) : Int) ≤ (s.size : Int) := by omega
    have e1 : wrap64 ((i : Int) + 1) = ((i + 1 : Nat) : Int) := by rw [w64 _ (by omega)]; omega
    have e2 : wrap64 ((n : Int) + 1) = ((n + 1 : Nat) : Int) := by rw [w64 _ (by omega)]; omega
    have hb : bt s (i : Int) = ((s[i]'hlt).toNat : Int) := bt_n s i hlt
    have hg : s.data.toList[i]'(hl ▸ hlt) = s[i]'hlt := by rw [Array.getElem_toList]; rfl
    rw [List.drop_eq_getElem_cons (hl ▸ hlt), hg, rebL]
    by_cases h : s[i]'hlt = 63
    · have hb' : bt s (i : Int) = 63 := by rw [hb, h]; exact congrArg Int.ofNat (show (63 : UInt8).toNat = 63 by decide)
      rw [if_pos h]
      refine Ev.step (f := fun k => ((spec_decimal.f k ((n + 1 : Nat) : Int)).bind fun t111 => (if 3 + t111.size ≤ 9223372036854775807 then (spec_Mark.f k kind ((n + 1 : Nat) : Int) ((⟨#[97, 114, 103]⟩ : ByteArray) ++ t111)) else none)).bind fun t112 => (if (⟨acc.toArray⟩ : ByteArray).size + t112.size ≤ 9223372036854775807 then (spec_Rebound.l0 k kind s ((⟨acc.toArray⟩ : ByteArray) ++ t112) ((n + 1 : Nat) : Int) ((i + 1 : Nat) : Int)) else (none))) (fun k => ?_) (Ev.bind hm ?_)
      · simp only [spec_Rebound.l0]
        rw [if_pos c1, if_pos c2, if_pos hb', e1, e2]
        cases spec_decimal.f k ((n + 1 : Nat) : Int) with
        | none => rfl
        | some t =>
          simp only [Option.bind_some]
          split <;> rfl
      · refine Ev.congr (fun k => ?_) (by rw [List.append_assoc] at hihA; exact hihA)
        exact (if_pos c3).trans (congrArg (fun t => spec_Rebound.l0 k kind s t ((n + 1 : Nat) : Int) ((i + 1 : Nat) : Int)) (cat_mk acc _))
    · have hb' : ¬ bt s (i : Int) = 63 := by
        rw [hb]
        intro h'
        exact h (UInt8.toNat_inj.mp (Int.ofNat.inj h'))
      rw [if_neg h]
      rw [List.append_assoc] at hihB
      refine Ev.step (fun k => ?_) hihB
      have e3 : ((i + 1 : Nat) : Int).toNat = i + 1 := Int.toNat_natCast _
      simp only [spec_Rebound.l0]
      rw [if_pos c1, if_pos c2, if_neg hb', e1, if_pos c5, if_pos c6, e3, Int.toNat_natCast, one_extract s i hlt]
      refine (if_pos c4).trans ?_
      exact congrArg (fun t => spec_Rebound.l0 k kind s t (n : Int) ((i + 1 : Nat) : Int)) (cat_mk acc [s[i]'hlt])

theorem rebound_is (kind : Int) (hk : 0 ≤ kind ∧ kind ≤ 4) (s : ByteArray) (hs : s.size ≤ 40000) :
    Ev (fun k => spec_Rebound.f k kind s) (if kind = 1 ∨ kind = 0 then s else ⟨(rebL kind 0 s.data.toList).toArray⟩) := by
  have key : ∀ kind : Int, (kind = 2 ∨ kind = 3 ∨ kind = 4) → Ev (fun k => spec_Rebound.j0 k kind s false) ⟨(rebL kind 0 s.data.toList).toArray⟩ := by
    intro kind hk
    have := reb_ev kind hk s hs s.size 0 0 [] (by omega) (by omega) (by omega) (by simp)
    rw [List.nil_append, List.drop_zero] at this
    exact Ev.step (fun k => by simp only [spec_Rebound.j0, Bool.false_eq_true, if_false]; rfl) this
  have : kind = 0 ∨ kind = 1 ∨ kind = 2 ∨ kind = 3 ∨ kind = 4 := by omega
  rcases this with rfl | rfl | rfl | rfl | rfl
  · exact Ev.congr (fun k => by simp only [spec_Rebound.f]; rw [if_neg (by decide), if_neg (by decide)]) (Ev.step (f := fun _ => some s) (fun k => by simp [spec_Rebound.j0]) (Ev.now _))
  · exact Ev.congr (fun k => by simp only [spec_Rebound.f]; rw [if_neg (by decide), if_neg (by decide)]) (Ev.step (f := fun _ => some s) (fun k => by simp [spec_Rebound.j0]) (Ev.now _))
  · exact Ev.congr (fun k => by simp only [spec_Rebound.f]; rw [if_pos trivial]) (key 2 (by omega))
  · exact Ev.congr (fun k => by simp only [spec_Rebound.f]; rw [if_neg (by decide), if_neg (by decide)]; rfl) (key 3 (by omega))
  · exact Ev.congr (fun k => by simp only [spec_Rebound.f]; rw [if_neg (by decide), if_pos trivial]) (key 4 (by omega))

end Go.Proofs.YtnmhoghmhglimaaDoor.SR
