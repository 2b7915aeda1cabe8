/-
  A CONTRACT: the reference's Repeated writes the bracket behind VALUES so many times, with commas between (texts of at most 2^20 bytes, at most 2^20 times).
-/
import Derived.Test.YtnmhoghmhglimaaDoorHLeaf
import Derived.Test.YtnmhoghmhglimaaDoorHFix
import Derived.Deep.LoopGhost
namespace Go.Proofs.YtnmhoghmhglimaaDoor.H
open Go.RowKit Go.Proofs.YtnmhoghmhglimaaDoorW.PrintWords Go.Proofs.YtnmhoghmhglimaaDoorW.PrintLast Go.Proofs.YtnmhoghmhglimaaDoorW.PrintMore
set_option linter.unusedVariables false
set_option linter.unusedSimpArgs false

def spec_Repeated.f (k : Nat) (a0 : ByteArray) (a1 : Int) : Option ByteArray := (spec_ValuesAt.f k a0).bind fun at_ => if at_ < 0 then some a0 else (spec_Closing.f k a0 at_).bind fun to_ => if to_ < 0 then some a0 else if 0 ≤ at_ ∧ at_ ≤ to_ ∧ to_ < a0.size ∧ a0.size ≤ 1048576 ∧ a1 ≤ 1048576 ∧ -1048576 ≤ a1 then some (fixL a0 at_.toNat (to_.toNat + 1) (a1 - 1).toNat) else none
theorem spec_Repeated.mono : ∀ a0 a1 k, LeO (spec_Repeated.f k a0 a1) (spec_Repeated.f (k + 1) a0 a1) := by
  intro a0 a1 k
  unfold spec_Repeated.f
  refine LeO.bind (spec_ValuesAt.mono a0 k) (fun at_ => ?_)
  refine LeO.ite (LeO.refl _) (LeO.bind (spec_Closing.mono a0 at_ k) (fun to_ => LeO.refl _))
/-- The loop's state: g rounds left of n, place x: the text so far. -/
def RpRel (s : ByteArray) (y c n : Nat) (g : Nat) (t : ByteArray) (x : Int) : Prop := 1 ≤ x ∧ x - 1 + g = n ∧ t = ⟨((s.extract 0 c).data.toList ++ cyc (s.extract y c).data.toList (x - 1).toNat).toArray⟩

set_option maxHeartbeats 3200000 in
set_option maxRecDepth 100000 in
theorem spec_Repeated.calls (k : Nat) (a0 : ByteArray) (a1 : Int) (r : ByteArray) (w : World) (h : spec_Repeated.f k a0 a1 = some r) :
    Calls Tryd.prog 20 #[.string a0, .int .i64 a1] w fun e w' => e = .returned (.string r) ∧ Drawn0 w w' := by
  unfold spec_Repeated.f at h
  obtain ⟨at_, hat, h⟩ := Option.bind_eq_some_iff.mp h
  have HAT := Lib.hid hat
  clear hat
  by_cases h1 : at_ < 0
  · rw [if_pos h1] at h
    have HR := Lib.hid (Option.some.inj h)
    clear h
    go_enter Tryd.func20, Tryd.ntmps20
    go_wp2_with fail
    refine (spec_ValuesAt.calls k a0 at_ _ HAT.out).mono ?_
    rintro e w1 ⟨rfl, ⟨n1, rfl⟩⟩
    go_wp2_with fail
    go_ret
    refine ⟨?_, by repeat (first | exact Drawn0.refl _ | apply Drawn0.step)⟩
    rw [← HR.out]
    rfl
  · rw [if_neg h1] at h
    obtain ⟨to_, hto, h⟩ := Option.bind_eq_some_iff.mp h
    have HTO := Lib.hid hto
    clear hto
    by_cases h2 : to_ < 0
    · rw [if_pos h2] at h
      have HR := Lib.hid (Option.some.inj h)
      clear h
      go_enter Tryd.func20, Tryd.ntmps20
      go_wp2_with fail
      refine (spec_ValuesAt.calls k a0 at_ _ HAT.out).mono ?_
      rintro e w1 ⟨rfl, ⟨n1, rfl⟩⟩
      go_wp2_with fail
      refine (spec_Closing.calls k a0 at_ to_ _ HTO.out).mono ?_
      rintro e w1 ⟨rfl, ⟨n2, rfl⟩⟩
      go_wp2_with fail
      go_ret
      refine ⟨?_, by repeat (first | exact Drawn0.refl _ | apply Drawn0.step)⟩
      rw [← HR.out]
      rfl
    · rw [if_neg h2] at h
      by_cases h3 : 0 ≤ at_ ∧ at_ ≤ to_ ∧ to_ < a0.size ∧ a0.size ≤ 1048576 ∧ a1 ≤ 1048576 ∧ -1048576 ≤ a1
      · rw [if_pos h3] at h
        have HR := Lib.hid (Option.some.inj h)
        clear h
        obtain ⟨g1, g2, g3, hs, hn, hn0⟩ := h3
        obtain ⟨c, hc⟩ : ∃ c : Nat, c = to_.toNat + 1 := ⟨_, rfl⟩
        obtain ⟨y, hy⟩ : ∃ y : Nat, y = at_.toNat := ⟨_, rfl⟩
        have hcs : c ≤ a0.size := by omega
        have hyc : y ≤ c := by omega
        have hcI : to_ + 1 = (c : Int) := by omega
        have hyI : at_ = (y : Int) := by omega
        rw [← hc, ← hy] at HR
        have hlen : (a0.extract y c).size = c - y := by simp; omega
        have hlen0 : (a0.extract 0 c).size = c := by simp; omega
        clear hc hy g2 g3
        subst hyI
        have H : RpRel a0 y c (a1 - 1).toNat (a1 - 1).toNat (a0.extract 0 c) 1 := ⟨by omega, by omega, ByteArray.ext (by simp [cyc]; rw [← Array.toArray_toList (xs := a0.data.extract 0 c), Array.toList_extract]; rfl)⟩
        go_enter Tryd.func20, Tryd.ntmps20
        go_wp2_with fail
        refine (spec_ValuesAt.calls k a0 _ _ HAT.out).mono ?_
        rintro e w1 ⟨rfl, ⟨n1, rfl⟩⟩
        go_wp2_with fail
        refine (spec_Closing.calls k a0 _ to_ _ HTO.out).mono ?_
        rintro e w1 ⟨rfl, ⟨n2, rfl⟩⟩
        go_wp2_with fail
        have HCI := Lib.hid hcI
        clear HAT HTO g1 h1 h2
        go_loopg [7, 8] (a1 - 1).toNat (fun g v7 v8 w' => ∃ (t : ByteArray) (x : Int), v7 = .string t ∧ v8 = .int .i64 x ∧ RpRel a0 y c (a1 - 1).toNat g t x ∧ Drawn0 w w')
        case atStart => exact ⟨_, 1, rfl, rfl, H, by repeat (first | exact Drawn0.refl _ | apply Drawn0.step)⟩
        case round =>
          obtain ⟨t, x, rfl, rfl, HP, ⟨m1, rfl⟩⟩ := hrel
          clear H
          obtain ⟨hx0, hx1, HT⟩ := HP
          have htl : t.size + 2097152 ≤ 140737488355328 := by
            have := fx_limit a0 y c (x - 1).toNat hs (by omega) hyc hcs hlen hlen0
            rw [HT]
            exact this
          replace HT := Lib.hid HT
          cases gk with
          | zero =>
            have hge : ¬ x < a1 := by omega
            have e1 : (x - 1).toNat = (a1 - 1).toNat := by omega
            have E1 := Lib.hid e1
            clear e1
            go_wp2_with fail
            go_ret
            refine ⟨?_, by repeat (first | exact Drawn0.refl _ | apply Drawn0.step)⟩
            have e2 : List.take (a0.size - c) (List.drop c a0.data.toList) = List.drop c a0.data.toList := List.take_of_length_le (by simp)
            rw [← HR.out, ← E1.out, fixL, HT.out, List.drop_take]
            refine ret_string ?_
            apply ByteArray.ext
            simp [e2, List.extract_eq_take_drop]
          | succ g =>
            have hlt : x < a1 := by omega
            have HG := Lib.hid hx1
            clear hx1
            have hpl : 1 + (a0.extract y c).size ≤ 9223372036854775807 := by omega
            have hpl2 : t.size + ((⟨#[44]⟩ : ByteArray) ++ a0.extract y c).size ≤ 9223372036854775807 := by
              rw [ByteArray.size_append, show (⟨#[44]⟩ : ByteArray).size = 1 from rfl]
              omega
            go_wp2_with fail
            go_roundg g
            case measure => omega
            case rel =>
              refine ⟨_, x + 1, rfl, rfl, ⟨by omega, by have := HG.out; omega, ?_⟩, by repeat (first | exact Drawn0.refl _ | apply Drawn0.step)⟩
              have e1 : (x + 1 - 1).toNat = (x - 1).toNat + 1 := by omega
              rw [e1, cyc, HT.out]
              exact ByteArray.ext (by simp)
      · rw [if_neg h3] at h
        cases h
end Go.Proofs.YtnmhoghmhglimaaDoor.H
