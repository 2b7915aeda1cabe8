/-
  A CONTRACT: sqlx's zzValues comes to the first closing bracket, VALUES in any case and opening bracket, with white space between or none (texts of at most 2^20 bytes).
-/
import Derived.Test.YtnmhoghmhglimaaDoorHWords
import Derived.Test.YtnmhoghmhglimaaDoorWLast
import Derived.Test.YtnmhoghmhglimaaDoorWMore
import Derived.Handy
import Derived.Laws.RangeAny
import Derived.Lib.OthersKept
import Derived.Lib.Hide
import Derived.Outline
import Derived.Deep.LoopGhost
namespace Go.Proofs.YtnmhoghmhglimaaDoor.H
open Go.RowKit Go.Proofs.YtnmhoghmhglimaaDoorW.PrintWords Go.Proofs.YtnmhoghmhglimaaDoorW.PrintLast Go.Proofs.YtnmhoghmhglimaaDoorW.PrintMore Go.Proofs.YtnmhoghmhglimaaDoor.QL
set_option linter.unusedVariables false
set_option linter.unusedSimpArgs false

def word_values : List Int := [118, 97, 108, 117, 101, 115]
/-- The search from place i on, f rounds at most: nothing, or where it begins and ends. -/
def valN (s : ByteArray) : Nat → Nat → List Int
  | 0, _ => []
  | f + 1, i => if bt s i = 41 then (match wordN s word_values (spc s (i + 1)) with
      | none => valN s f (i + 1)
      | some p => if ((spc s p : Nat) : Int) < (s.size : Int) ∧ bt s ((spc s p : Nat) : Int) = 40 then [(i : Int), ((spc s p : Nat) : Int) + 1] else valN s f (i + 1)) else valN s f (i + 1)
def sqlx_zzValues.f (a0 : ByteArray) : Option (List Int) := if a0.size ≤ 1048576 then some (valN a0 a0.size 0) else none
theorem foldN_le (s : ByteArray) (i : Nat) (c : Int) : foldN s i c ≤ 2 ∧ (foldN s i c ≠ 0 → i + foldN s i c ≤ s.size) := by
  unfold foldN
  split
  · omega
  · split
    · omega
    · omega
theorem wordN_le (s : ByteArray) : ∀ (cs : List Int) (p q : Nat), p ≤ s.size → wordN s cs p = some q → q ≤ s.size
  | [], p, q, hp, h => by
    simp [wordN] at h
    omega
  | c :: cs, p, q, hp, h => by
    rw [wordN] at h
    split at h
    · cases h
    · exact wordN_le s cs _ q ((foldN_le s p c).2 (by assumption)) h
def vtext : ByteArray := ⟨#[118, 97, 108, 117, 101, 115]⟩
/-- The word's letter j, as the range over it gives it. -/
theorem letter (j : Nat) (h : j < 6) : ∃ (c : Nat) (hj : j < vtext.size), 97 ≤ c ∧ c ≤ 122 ∧ (vtext[j]'hj).toNat = c ∧ word_values.drop j = (c : Int) :: word_values.drop (j + 1) := by
  have hz : vtext.size = 6 := rfl
  have : j = 0 ∨ j = 1 ∨ j = 2 ∨ j = 3 ∨ j = 4 ∨ j = 5 := by omega
  rcases this with rfl | rfl | rfl | rfl | rfl | rfl
  · exact ⟨118, by omega, by omega, by omega, rfl, rfl⟩
  · exact ⟨97, by omega, by omega, by omega, rfl, rfl⟩
  · exact ⟨108, by omega, by omega, by omega, rfl, rfl⟩
  · exact ⟨117, by omega, by omega, by omega, rfl, rfl⟩
  · exact ⟨101, by omega, by omega, by omega, rfl, rfl⟩
  · exact ⟨115, by omega, by omega, by omega, rfl, rfl⟩
def ValsPost (r : List Int) (w : World) (e : Ending) (w' : World) : Prop := ∃ v0_ : Value, e = .returned v0_ ∧ Kd.R (Kd.int .i64) 3 w' w.heap.size (fun _ => True) v0_ r ∧ Below w.heap.size w w'
/-- The outer loop's relation at place x: g rounds left. -/
def ValRel (a0 : ByteArray) (r : List Int) (g : Nat) (x : Int) : Prop := 0 ≤ x ∧ x + g = a0.size ∧ valN a0 g x.toNat = r
def WordRel (a0 : ByteArray) (W : Option Nat) (g : Nat) (p : Int) : Prop := g ≤ 6 ∧ 0 ≤ p ∧ p ≤ a0.size ∧ wordN a0 (word_values.drop (6 - g)) p.toNat = W

set_option maxHeartbeats 3200000 in
set_option maxRecDepth 100000 in
theorem values_walk (a0 : ByteArray) (r : List Int) (w : World) (hs : a0.size ≤ 1048576) (h : valN a0 a0.size 0 = r) :
    Calls Tryd.prog 77 #[.string a0] w (ValsPost r w) := by
  have H : ValRel a0 r a0.size 0 := ⟨by omega, by omega, h⟩
  clear h
  go_enter Tryd.func77, Tryd.ntmps77
  go_wp2
  go_loopg [3] a0.size (fun g v3 w' => ∃ (x : Int), v3 = .int .i64 x ∧ ValRel a0 r g x ∧ Below w.heap.size w w')
  case atStart => exact ⟨0, rfl, H, Below.refl _ _⟩
  case round =>
    obtain ⟨x, rfl, HF, HB⟩ := hrel
    clear H
    cases gk with
    | zero =>
      obtain ⟨hx0, hx1, hr⟩ := HF
      have hge : ¬ x < (a0.size : Int) := by omega
      simp only [valN] at hr
      subst hr
      clear hx1
      go_wp2_with fail
      go_ret
      exact ⟨_, rfl, Kd.R_nil _ _ _ _ _, HB⟩
    | succ g =>
      obtain ⟨hx0, hx1, hr⟩ := HF
      have hlt : x < (a0.size : Int) := by omega
      have hge := hx0
      have hx5 := bt_at a0 x
      have e1 : x.toNat + 1 = (x + 1).toNat := by omega
      rw [valN, Int.toNat_of_nonneg hx0, e1] at hr
      have hg1 : x + 1 + g = a0.size := by omega
      have HG := Lib.hid hg1
      clear hg1 hx1
      by_cases hb : bt a0 x = 41
      · rw [if_pos hb] at hr
        have HR := Lib.hid hr
        clear hr
        have hb0 : (bt a0 x != 41) = false := bne_eq_false_iff_eq.mpr hb
        clear hb
        have p5 := eq_true hge
        have q5 := eq_true hlt
        obtain ⟨k0, hk0⟩ := space_is a0 hs (x + 1).toNat (by omega)
        rw [Int.toNat_of_nonneg (by omega)] at hk0
        have HK0 := Lib.hid hk0
        clear hk0
        have hp0 := spc_le a0 (x + 1).toNat
        have hp0' := hp0.2 (by omega)
        clear hp0
        generalize spc a0 (x + 1).toNat = p0 at HR HK0 hp0'
        go_wp2_with fail
        refine (sqlx_zzSpace.calls k0 a0 (x + 1) p0 _ HK0.out).mono ?_
        rintro e w1 ⟨rfl, ⟨n1, rfl⟩⟩
        go_wp2_with fail
        obtain ⟨W, hW⟩ : ∃ W, W = wordN a0 word_values p0 := ⟨_, rfl⟩
        rw [← hW] at HR
        have HW : WordRel a0 W 6 (p0 : Int) := ⟨by omega, by omega, by omega, by rw [Int.toNat_natCast, hW]; rfl⟩
        clear hW
        obtain ⟨wo, hwo⟩ : ∃ wo, wo = (wr.drewN n1).iter vtext 0 := ⟨_, rfl⟩
        have HI0 : Hid (wo.heap[wr.heap.size]? = some (.stringIter vtext 0)) := by rw [hwo]; exact Lib.hid (World.iter_heap (wr.drewN n1) vtext 0)
        have HB0 : Below w.heap.size w wo := by
          rw [hwo]
          exact below_alloc (pw_below_drewN HB n1) _
        have HL := HB.size
        show Code.wp _ _ _ _ ((wr.drewN n1).iter vtext 0)
        rw [← hwo]
        clear hwo HB
        generalize wr.heap.size = B at HI0 HL ⊢
        clear wr
        go_loopg [4] 6 (fun g2 v4 w2 => ∃ (p : Int), v4 = .int .i64 p ∧ WordRel a0 W g2 p ∧ Hid (w2.heap[B]? = some (.stringIter vtext (6 - g2))) ∧ Below w.heap.size w w2)
        case atStart => exact ⟨p0, rfl, HW, HI0, HB0⟩
        case round =>
          obtain ⟨p, rfl, HP, HI, HB⟩ := hrel
          clear HW HI0 HB0
          cases gk with
          | zero =>
            have hnx : ∀ ty, (Instr.next (.pointer (some ⟨B, 0, none⟩)) true ty).run Tryd.prog wr = _ := fun ty => Lib.run_next_end_at wr B vtext 6 ty HI.out (by decide)
            obtain ⟨_, hp1, hp2, hpw⟩ := HP
            have hW2 : W = some p.toNat := by rw [← hpw]; rfl
            subst hW2
            clear hpw
            have hr := HR.out
            simp only [] at hr
            clear HR
            obtain ⟨k1, hk1⟩ := space_is a0 hs p.toNat (by omega)
            rw [Int.toNat_of_nonneg hp1] at hk1
            have HK1 := Lib.hid hk1
            clear hk1
            have hy0 : 0 ≤ ((spc a0 p.toNat : Nat) : Int) := by omega
            have hy1 : ((spc a0 p.toNat : Nat) : Int) ≤ a0.size := by have := (spc_le a0 p.toNat).2 (by omega); omega
            generalize ((spc a0 p.toNat : Nat) : Int) = y at hr HK1 hy0 hy1
            by_cases hql : y < (a0.size : Int)
            · have hx6 := bt_at a0 y
              have p6 := eq_true hy0
              have q6 := eq_true hql
              by_cases hb2 : bt a0 y = 40
              · rw [if_pos ⟨hql, hb2⟩] at hr
                have HR := Lib.hid hr
                clear hr
                have hb3 : (bt a0 y == 40) = true := beq_iff_eq.mpr hb2
                clear hb2
                go_wp2_with fail
                refine (sqlx_zzSpace.calls k1 a0 p y _ HK1.out).mono ?_
                rintro e w2 ⟨rfl, ⟨n2, rfl⟩⟩
                go_wp2_with fail
                go_ret
                refine ⟨_, rfl, ?_, below_alloc (pw_below_drewN HB n2) _⟩
                rw [← HR.out]
                have hbase := (pw_below_drewN HB n2).size
                exact Kd.R_of_own (own_lit (wr.drewN n2) w.heap.size 3 .i64 [x, y + 1] hbase (by simp)) (fun _ _ => trivial)
              · rw [if_neg (fun h => hb2 h.2)] at hr
                have HR := Lib.hid hr
                clear hr
                have hb3 : (bt a0 y == 40) = false := beq_eq_false_iff_ne.mpr hb2
                clear hb2
                go_wp2_with fail
                refine (sqlx_zzSpace.calls k1 a0 p y _ HK1.out).mono ?_
                rintro e w2 ⟨rfl, ⟨n2, rfl⟩⟩
                go_wp2_with fail
                go_roundg g
                case measure => omega
                case rel => exact ⟨x + 1, rfl, ⟨by omega, HG.out, HR.out⟩, pw_below_drewN HB n2⟩
            · have dqi : decide (y < (a0.size : Int)) = false := decide_eq_false hql
              rw [if_neg (fun h => hql h.1)] at hr
              have HR := Lib.hid hr
              clear hr
              go_wp2_with fail
              refine (sqlx_zzSpace.calls k1 a0 p y _ HK1.out).mono ?_
              rintro e w2 ⟨rfl, ⟨n2, rfl⟩⟩
              go_wp2_with fail
              go_roundg g
              case measure => omega
              case rel => exact ⟨x + 1, rfl, ⟨by omega, HG.out, HR.out⟩, pw_below_drewN HB n2⟩
          | succ g2 =>
            obtain ⟨hg6, hp1, hp2, hpw⟩ := HP
            obtain ⟨c, hj, hc1, hc2, hcv, hdrop⟩ := letter (6 - (g2 + 1)) (by omega)
            rw [hdrop, wordN] at hpw
            have hje : 6 - (g2 + 1) + 1 = 6 - g2 := by omega
            have hnx : ∀ ty, (Instr.next (.pointer (some ⟨B, 0, none⟩)) true ty).run Tryd.prog wr = .ok (.tuple #[.bool true, .int .i64 ((6 - (g2 + 1) : Nat) : Int), .int .i32 (c : Int)]) (wr.iterAt B vtext (6 - g2)) := fun ty => by
              have := Lib.run_next_ascii_at (P := Tryd.prog) wr B vtext (6 - (g2 + 1)) ty HI.out hj (by omega)
              rw [hcv, hje] at this
              exact this
            have HI2 : Hid ((wr.iterAt B vtext (6 - g2)).heap[B]? = some (.stringIter vtext (6 - g2))) := Lib.hid (Lib.iterAt_heap wr B vtext _ _ HI.out)
            have HB2 : Below w.heap.size w (wr.iterAt B vtext (6 - g2)) := Lib.below_iterAt HB HL _ _
            clear hcv hdrop HI HB
            obtain ⟨k1, hk1⟩ := fold_is a0 hs p.toNat (by omega) (c : Int) (by omega)
            rw [Int.toNat_of_nonneg hp1] at hk1
            have HK1 := Lib.hid hk1
            clear hk1
            have hfl := foldN_le a0 p.toNat (c : Int)
            generalize foldN a0 p.toNat (c : Int) = m at hpw HK1 hfl
            by_cases hm : m = 0
            · rw [if_pos hm] at hpw
              subst hm
              subst hpw
              have HR2 := Lib.hid (show valN a0 g (x + 1).toNat = r from HR.out)
              clear HR hje hj
              go_wp2_with fail
              refine (sqlx_zzFold.calls k1 a0 p c 0 _ HK1.out).mono ?_
              rintro e w2 ⟨rfl, ⟨n2, rfl⟩⟩
              go_wp2_with fail
              go_roundg g
              case measure => omega
              case rel => exact ⟨x + 1, rfl, ⟨by omega, HG.out, HR2.out⟩, pw_below_drewN HB2 n2⟩
            · rw [if_neg hm, hje] at hpw
              have HPW := Lib.hid hpw
              have hml := hfl.1
              have hms := hfl.2 hm
              have hm0 : ((m : Int) == 0) = false := by rw [beq_eq_false_iff_ne]; omega
              clear hje hj hpw hfl
              go_wp2_with fail
              refine (sqlx_zzFold.calls k1 a0 p c m _ HK1.out).mono ?_
              rintro e w2 ⟨rfl, ⟨n2, rfl⟩⟩
              go_wp2_with fail
              go_roundg g2
              case measure => omega
              case rel => exact ⟨p + m, rfl, ⟨by omega, by omega, by omega, by rw [show (p + (m : Int)).toNat = p.toNat + m by omega]; exact HPW.out⟩, HI2, pw_below_drewN HB2 n2⟩
      · rw [if_neg hb] at hr
        have HR := Lib.hid hr
        clear hr
        have hb0 : (bt a0 x != 41) = true := bne_iff_ne.mpr hb
        clear hb
        have p5 := eq_true hge
        have q5 := eq_true hlt
        go_wp2_with fail
        go_roundg g
        case measure => omega
        case rel => exact ⟨x + 1, rfl, ⟨by omega, HG.out, HR.out⟩, HB⟩

theorem sqlx_zzValues.calls (a0 : ByteArray) (r : List Int) (w : World) (h : sqlx_zzValues.f a0 = some r) :
    Calls Tryd.prog 77 #[.string a0] w fun e w' => ∃ v0_ : Value, e = .returned v0_ ∧ Kd.R (Kd.int .i64) 3 w' w.heap.size (fun _ => True) v0_ r ∧ Below w.heap.size w w' := by
  unfold sqlx_zzValues.f at h
  split at h
  · exact values_walk a0 r w ‹_› (Option.some.inj h)
  · cases h
end Go.Proofs.YtnmhoghmhglimaaDoor.H
