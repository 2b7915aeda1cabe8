/-
  PLAIN: the reference's decimal, at numbers from 0 to 2^31, writes the library's decimal digits.
-/
import Derived.Test.YtapnlnikeniomaaDoorHRow
import Derived.Test.YtapnlnikeniomaaDoorHNum
import Derived.Test.YtapnlnikeniomaaDoorQP1
namespace Go.Proofs.YtapnlnikeniomaaDoor.S
open Go.RowKit Go.Proofs.YtapnlnikeniomaaDoor.QP Go.Proofs.YtapnlnikeniomaaDoor.H Go.Proofs.YtapnlnikeniomaaDoorW.PrintWords Go.Proofs.YtapnlnikeniomaaDoorW.PrintLast Go.Proofs.YtapnlnikeniomaaDoorW.PrintMore

theorem str_one (u : Nat) : strOfNums [(u : Int)] = ⟨#[UInt8.ofNat u]⟩ := by
  apply ByteArray.ext
  simp [strOfNums]
theorem decimal_ev : ∀ (d n : Nat) (acc : List UInt8), n < 10 ^ (d + 1) → n ≤ 2147483648 → acc.length + d ≤ 1000 →
    Ev (fun k => spec_decimal.l0 k (n : Int) ⟨acc.toArray⟩) ⟨(Lib.decDigits n ++ acc).toArray⟩ := by
  have cat : ∀ (u : Nat) (acc : List UInt8), (⟨#[UInt8.ofNat u]⟩ : ByteArray) ++ ⟨acc.toArray⟩ = ⟨(UInt8.ofNat u :: acc).toArray⟩ := fun u acc => ByteArray.ext (by simp)
  have one : ∀ n : Nat, n < 10 → ∀ acc : List UInt8, acc.length ≤ 1000 → Ev (fun k => spec_decimal.l0 k (n : Int) ⟨acc.toArray⟩) ⟨(Lib.decDigits n ++ acc).toArray⟩ := by
    intro n h acc ha
    refine Ev.step (f := fun _ => some ⟨(Lib.decDigits n ++ acc).toArray⟩) (fun k => ?_) (Ev.now _)
    have e : (wrap64 (48 + (n : Int))) % 256 = ((48 + n : Nat) : Int) := by rw [w64 _ (by omega)]; omega
    simp only [spec_decimal.l0]
    rw [if_neg (by omega), Option.bind_some, e, str_one, if_pos (by show 1 + acc.length ≤ 9223372036854775807; omega), cat, Lib.decDigits_one h]
    rfl
  intro d
  induction d with
  | zero =>
    intro n acc h _ ha
    exact one n (by omega) acc (by omega)
  | succ d ih =>
    intro n acc h hn ha
    by_cases h9 : n < 10
    · exact one n h9 acc (by omega)
    · have h2 : n / 10 < 10 ^ (d + 1) := by rw [Nat.div_lt_iff_lt_mul (by omega)]; rw [Nat.pow_succ] at h; omega
      have hi := ih (n / 10) (UInt8.ofNat (48 + n % 10) :: acc) h2 (by omega) (by simp; omega)
      rw [Lib.decDigits, dif_neg h9, List.append_assoc]
      refine Ev.step (fun k => ?_) hi
      have e : (wrap64 (48 + (Int.tmod (n : Int) 10))) % 256 = ((48 + n % 10 : Nat) : Int) := by
        have : Int.tmod (n : Int) 10 = ((n % 10 : Nat) : Int) := rfl
        rw [this, w64 _ (by omega)]; omega
      have e2 : wrap64 (Int.tdiv (n : Int) 10) = ((n / 10 : Nat) : Int) := by
        have : Int.tdiv (n : Int) 10 = ((n / 10 : Nat) : Int) := rfl
        rw [this, w64 _ (by omega)]
      simp only [spec_decimal.l0]
      rw [if_pos (by omega), Option.bind_some, e, str_one, if_pos (by show 1 + acc.length ≤ 9223372036854775807; omega), cat, e2]
theorem decimal_is (n : Nat) (hn : n ≤ 2147483648) : Ev (fun k => spec_decimal.f k (n : Int)) ⟨(Lib.itoa (n : Int)).toArray⟩ := by
  have hi : Lib.itoa (n : Int) = Lib.decDigits n := by rw [Lib.itoa, if_neg (by omega)]; rfl
  have h := decimal_ev 10 n [] (by omega) hn (by simp)
  rw [List.append_nil] at h
  rw [hi]
  refine Ev.step (fun k => ?_) h
  simp only [spec_decimal.f]
  rw [if_neg (by omega)]
end Go.Proofs.YtapnlnikeniomaaDoor.S
