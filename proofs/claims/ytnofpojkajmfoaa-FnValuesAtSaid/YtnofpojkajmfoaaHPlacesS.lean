/-
  A CONTRACT: the reference's Placeholders writes the same (numbers up to 2^20).
-/
import Derived.Test.YtnofpojkajmfoaaHPlaces
import Derived.Deep.LoopGhost
namespace Go.Proofs.Ytnofpojkajmfoaa.H
open Go.RowKit Go.Proofs.YtnofpojkajmfoaaW.PrintWords
set_option linter.unusedVariables false
set_option linter.unusedSimpArgs false
theorem qm_size : ∀ n, (qm n).length ≤ 2 * n
  | 0 => by simp [qm]
  | n + 1 => by
    have := qm_size n
    rw [qm]
    split <;> simp <;> omega
def spec_Placeholders.f (a0 : Int) : Option ByteArray := if a0 ≤ 1048576 then some ⟨(qm a0.toNat).toArray⟩ else none
/-- The loop's state with g rounds left: place x, the text so far. -/
def PlRel (a0 : Int) (g : Nat) (t : ByteArray) (x : Int) : Prop := 0 ≤ x ∧ x + g = a0.toNat ∧ t = ⟨(qm x.toNat).toArray⟩

set_option maxHeartbeats 1600000 in
set_option maxRecDepth 100000 in
theorem spec_Placeholders.calls (a0 : Int) (r : ByteArray) (w : World) (h : spec_Placeholders.f a0 = some r) :
    Calls Try.prog 25 #[.int .i64 a0] w fun e w' => e = .returned (.string r) ∧ Drawn0 w w' := by
  unfold spec_Placeholders.f at h
  by_cases hs : a0 ≤ 1048576
  · rw [if_pos hs] at h
    have HR := Lib.hid (Option.some.inj h)
    clear h
    have H : PlRel a0 a0.toNat ⟨#[]⟩ 0 := ⟨by omega, by omega, rfl⟩
    go_enter Try.func25, Try.ntmps25
    go_wp2
    go_loopg [3, 4] a0.toNat (fun g v3 v4 w' => ∃ (t : ByteArray) (x : Int), v3 = .string t ∧ v4 = .int .i64 x ∧ PlRel a0 g t x ∧ Drawn0 w w')
    case atStart => exact ⟨_, 0, rfl, rfl, H, Drawn0.refl _⟩
    case round =>
      obtain ⟨t, x, rfl, rfl, HP, ⟨m1, rfl⟩⟩ := hrel
      clear H
      obtain ⟨hx0, hx1, rfl⟩ := HP
      have hlen := qm_size x.toNat
      cases gk with
      | zero =>
        have hge : ¬ x < a0 := by omega
        have hr := HR.out
        have e1 : x.toNat = a0.toNat := by omega
        rw [e1]
        go_wp2_with fail
        go_ret
        exact ⟨rfl, by repeat (first | exact Drawn0.refl _ | apply Drawn0.step)⟩
      | succ g =>
        have hlt : x < a0 := by omega
        have e1 : (x + 1).toNat = x.toNat + 1 := by omega
        have HG := Lib.hid hx1
        clear hx1
        have hq : qm (x.toNat + 1) = qm x.toNat ++ ((if x.toNat = 0 then [] else [44]) ++ [63]) := rfl
        by_cases hz : x = 0
        · subst hz
          have HQ := Lib.hid hq
          clear hq
          go_wp2_with fail
          go_roundg g
          case measure => omega
          case rel => exact ⟨_, 0 + 1, rfl, rfl, ⟨by omega, by have := HG.out; omega, by rw [show ((0 : Int) + 1).toNat = (0 : Int).toNat + 1 from rfl, HQ.out]; rfl⟩, by repeat (first | exact Drawn0.refl _ | apply Drawn0.step)⟩
        · have hp : 0 < x := by omega
          rw [if_neg (by omega)] at hq
          have HQ := Lib.hid hq
          clear hq
          generalize qm x.toNat = q at *
          go_wp2_with fail
          go_roundg g
          case measure => omega
          case rel => exact ⟨_, x + 1, rfl, rfl, ⟨by omega, by have := HG.out; omega, by rw [e1, HQ.out]; exact ByteArray.ext (by simp)⟩, by repeat (first | exact Drawn0.refl _ | apply Drawn0.step)⟩
  · rw [if_neg hs] at h
    cases h
end Go.Proofs.Ytnofpojkajmfoaa.H
