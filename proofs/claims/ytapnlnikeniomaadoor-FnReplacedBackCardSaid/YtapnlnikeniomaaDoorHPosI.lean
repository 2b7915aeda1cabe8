/-
  CONTRACTS: squirrel.Positional and impl.Replaced (texts of at most 2^20 bytes; the forms 1 to 4; a world in which strconv's table lies).
-/
import Derived.Test.YtapnlnikeniomaaDoorHPos
import Derived.Deep.Cut
import Derived.Deep.QuietTactic
import Derived.BigQuiet
namespace Go.Proofs.YtapnlnikeniomaaDoor.H
open Go.RowKit Go.Proofs.YtapnlnikeniomaaDoorW.PrintWords Go.Proofs.YtapnlnikeniomaaDoorW.PrintLast Go.Proofs.YtapnlnikeniomaaDoorW.PrintMore
set_option linter.unusedVariables false
set_option linter.unusedSimpArgs false

def signB (form : Int) : List UInt8 := if form = 2 then [36] else if form = 3 then [58] else if form = 4 then [64, 112] else []
def repF [Inhabited TabT] (form : Int) (s : ByteArray) : ByteArray := if form = 1 then s else ⟨(numL (signB form) 0 s.data.toList).toArray⟩
def impl_Replaced.f [Inhabited TabT] (a0 : Int) (a1 : ByteArray) : Option (ByteArray × Bool) := if a1.size ≤ 1048576 ∧ mkL a1.data.toList ≤ 511 ∧ 1 ≤ a0 ∧ a0 ≤ 4 then some (repF a0 a1, true) else none
set_option maxRecDepth 100000 in
theorem form_at (n : Int) (t : TypeId) (h : n = 0 ∧ t = 47 ∨ n = 1 ∧ t = 48 ∨ n = 2 ∧ t = 49 ∨ n = 3 ∧ t = 50) (w : World) :
    Calls Tryd.prog 21 #[.int .i64 n] w fun e w' => e = .returned (.tuple #[.iface t (.agg #[]), .bool true]) ∧ w' = w := by
  rcases h with ⟨rfl, rfl⟩ | ⟨rfl, rfl⟩ | ⟨rfl, rfl⟩ | ⟨rfl, rfl⟩
  all_goals
    go_enter Tryd.func21, Tryd.ntmps21
    go_wp2_with fail
    go_ret2
    exact ⟨rfl, rfl⟩
set_option maxRecDepth 100000 in
theorem rep_question (s : ByteArray) (w : World) : Calls Tryd.prog 68 #[.agg #[], .string s] w fun e w' => e = .returned (.tuple #[.string s, .nilIface]) ∧ Below w.heap.size w w' := by
  go_enter Tryd.func68, Tryd.ntmps68
  go_wp2_with fail
  go_ret2
  exact ⟨rfl, below_alloc (Below.refl _ _) _⟩
set_option maxRecDepth 100000 in
theorem rep_dollar [Inhabited TabT] (s : ByteArray) (hs : s.size ≤ 1048576) (hmk : mkL s.data.toList ≤ 511) (w : World) (ht : Tab w) : Calls Tryd.prog 70 #[.agg #[], .string s] w fun e w' => e = .returned (.tuple #[.string (numF ⟨#[36]⟩ s), .nilIface]) ∧ Below w.heap.size w w' := by
  have HW := Lib.hid (pos_walk s ⟨#[36]⟩ (w.alloc (.cells #[] 48)) (tab_at (tab_below ht) (below_alloc (Below.refl _ _) _)) hs (by decide) hmk)
  clear ht hs hmk
  obtain ⟨r, hr⟩ : ∃ r, r = numF ⟨#[36]⟩ s := ⟨_, rfl⟩
  rw [← hr] at HW ⊢
  clear hr
  go_enter Tryd.func70, Tryd.ntmps70
  go_wp2_with fail
  refine HW.out.mono ?_
  rintro e w1 ⟨rfl, b1⟩
  have HB := Lib.hid b1
  clear b1 HW
  go_wp2_with fail
  go_ret2
  exact ⟨rfl, below_step (below_alloc (Below.refl _ _) _) HB.out⟩
set_option maxRecDepth 100000 in
theorem rep_colon [Inhabited TabT] (s : ByteArray) (hs : s.size ≤ 1048576) (hmk : mkL s.data.toList ≤ 511) (w : World) (ht : Tab w) : Calls Tryd.prog 72 #[.agg #[], .string s] w fun e w' => e = .returned (.tuple #[.string (numF ⟨#[58]⟩ s), .nilIface]) ∧ Below w.heap.size w w' := by
  have HW := Lib.hid (pos_walk s ⟨#[58]⟩ (w.alloc (.cells #[] 49)) (tab_at (tab_below ht) (below_alloc (Below.refl _ _) _)) hs (by decide) hmk)
  clear ht hs hmk
  obtain ⟨r, hr⟩ : ∃ r, r = numF ⟨#[58]⟩ s := ⟨_, rfl⟩
  rw [← hr] at HW ⊢
  clear hr
  go_enter Tryd.func72, Tryd.ntmps72
  go_wp2_with fail
  refine HW.out.mono ?_
  rintro e w1 ⟨rfl, b1⟩
  have HB := Lib.hid b1
  clear b1 HW
  go_wp2_with fail
  go_ret2
  exact ⟨rfl, below_step (below_alloc (Below.refl _ _) _) HB.out⟩
set_option maxRecDepth 100000 in
theorem rep_atp [Inhabited TabT] (s : ByteArray) (hs : s.size ≤ 1048576) (hmk : mkL s.data.toList ≤ 511) (w : World) (ht : Tab w) : Calls Tryd.prog 74 #[.agg #[], .string s] w fun e w' => e = .returned (.tuple #[.string (numF ⟨#[64, 112]⟩ s), .nilIface]) ∧ Below w.heap.size w w' := by
  have HW := Lib.hid (pos_walk s ⟨#[64, 112]⟩ (w.alloc (.cells #[] 50)) (tab_at (tab_below ht) (below_alloc (Below.refl _ _) _)) hs (by decide) hmk)
  clear ht hs hmk
  obtain ⟨r, hr⟩ : ∃ r, r = numF ⟨#[64, 112]⟩ s := ⟨_, rfl⟩
  rw [← hr] at HW ⊢
  clear hr
  go_enter Tryd.func74, Tryd.ntmps74
  go_wp2_with fail
  refine HW.out.mono ?_
  rintro e w1 ⟨rfl, b1⟩
  have HB := Lib.hid b1
  clear b1 HW
  go_wp2_with fail
  go_ret2
  exact ⟨rfl, below_step (below_alloc (Below.refl _ _) _) HB.out⟩
set_option maxHeartbeats 3200000 in
set_option maxRecDepth 100000 in
theorem impl_Replaced.calls [Inhabited TabT] (a0 : Int) (a1 : ByteArray) (r1 : ByteArray) (r2 : Bool) (w : World) (ht : Tab w) (h : impl_Replaced.f a0 a1 = some (r1, r2)) :
    Calls Tryd.prog 13 #[.int .i64 a0, .string a1] w fun e w' => e = .returned (.tuple #[.string r1, .bool r2]) ∧ Below w.heap.size w w' := by
  unfold impl_Replaced.f at h
  by_cases hs : a1.size ≤ 1048576 ∧ mkL a1.data.toList ≤ 511 ∧ 1 ≤ a0 ∧ a0 ≤ 4
  · rw [if_pos hs] at h
    have h2 := Option.some.inj h
    simp only [Prod.mk.injEq] at h2
    obtain ⟨h3, h4⟩ := h2
    have HR := Lib.hid h3
    subst h4
    have hsz := And.intro hs.1 hs.2.1
    have : a0 = 1 ∨ a0 = 2 ∨ a0 = 3 ∨ a0 = 4 := by omega
    clear h h3
    have HSZ := Lib.hid hsz
    clear hs hsz
    rcases this with rfl | rfl | rfl | rfl
    · have HF := Lib.hid (form_at 0 47 (.inl ⟨rfl, rfl⟩) w)
      have HW := Lib.hid (rep_question a1 w)
      clear ht
      go_enter Tryd.func13, Tryd.ntmps13
      go_wp2_with fail
      refine HF.out.mono ?_
      rintro e w1 ⟨rfl, hw1⟩
      subst hw1
      go_wp2_with fail
      refine HW.out.mono ?_
      rintro e w2 ⟨rfl, b2⟩
      have HB := Lib.hid b2
      clear b2 HW HF
      go_upto_region 5 with (fail)
      go_quiet (fail)
      go_wp2_with fail
      go_ret2
      exact ⟨by rw [← HR.out]; rfl, pw_below_drewN HB.out _⟩
    · have HF := Lib.hid (form_at 1 48 (.inr (.inl ⟨rfl, rfl⟩)) w)
      have HW := Lib.hid (rep_dollar a1 HSZ.out.1 HSZ.out.2 w ht)
      clear ht
      go_enter Tryd.func13, Tryd.ntmps13
      go_wp2_with fail
      refine HF.out.mono ?_
      rintro e w1 ⟨rfl, hw1⟩
      subst hw1
      go_wp2_with fail
      refine HW.out.mono ?_
      rintro e w2 ⟨rfl, b2⟩
      have HB := Lib.hid b2
      clear b2 HW HF
      go_upto_region 5 with (fail)
      go_quiet (fail)
      go_wp2_with fail
      go_ret2
      exact ⟨by rw [← HR.out]; rfl, pw_below_drewN HB.out _⟩
    · have HF := Lib.hid (form_at 2 49 (.inr (.inr (.inl ⟨rfl, rfl⟩))) w)
      have HW := Lib.hid (rep_colon a1 HSZ.out.1 HSZ.out.2 w ht)
      clear ht
      go_enter Tryd.func13, Tryd.ntmps13
      go_wp2_with fail
      refine HF.out.mono ?_
      rintro e w1 ⟨rfl, hw1⟩
      subst hw1
      go_wp2_with fail
      refine HW.out.mono ?_
      rintro e w2 ⟨rfl, b2⟩
      have HB := Lib.hid b2
      clear b2 HW HF
      go_upto_region 5 with (fail)
      go_quiet (fail)
      go_wp2_with fail
      go_ret2
      exact ⟨by rw [← HR.out]; rfl, pw_below_drewN HB.out _⟩
    · have HF := Lib.hid (form_at 3 50 (.inr (.inr (.inr ⟨rfl, rfl⟩))) w)
      have HW := Lib.hid (rep_atp a1 HSZ.out.1 HSZ.out.2 w ht)
      clear ht
      go_enter Tryd.func13, Tryd.ntmps13
      go_wp2_with fail
      refine HF.out.mono ?_
      rintro e w1 ⟨rfl, hw1⟩
      subst hw1
      go_wp2_with fail
      refine HW.out.mono ?_
      rintro e w2 ⟨rfl, b2⟩
      have HB := Lib.hid b2
      clear b2 HW HF
      go_upto_region 5 with (fail)
      go_quiet (fail)
      go_wp2_with fail
      go_ret2
      exact ⟨by rw [← HR.out]; rfl, pw_below_drewN HB.out _⟩
  · rw [if_neg hs] at h
    cases h
end Go.Proofs.YtapnlnikeniomaaDoor.H
