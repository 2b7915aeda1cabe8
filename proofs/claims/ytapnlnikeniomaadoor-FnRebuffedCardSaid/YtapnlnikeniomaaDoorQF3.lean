-- WRITTEN BY A PROGRAM OF THIS SESSION (wip/print2.py): the print, with contracts of this session's own let in. Not trusted: Lean checks it.
import Derived.Test.YtapnlnikeniomaaDoorHRow
import Derived.Test.YtapnlnikeniomaaDoorQF0
import Derived.Test.YtapnlnikeniomaaDoorQF2
import Derived.Test.YtapnlnikeniomaaDoorHReb
import Derived.Test.YtapnlnikeniomaaDoorHUtf
namespace Go.Proofs.YtapnlnikeniomaaDoor.QF
open Go.RowKit Go.Proofs.YtapnlnikeniomaaDoorW.PrintWords Go.Proofs.YtapnlnikeniomaaDoorW.PrintLast Go.Proofs.YtapnlnikeniomaaDoorW.PrintMore
attribute [local go_sem] max2_int min2_int max_two min_two max_three min_three max_four min_four   -- for this text's walks alone
set_option linter.unusedVariables false
set_option linter.unusedSimpArgs false

open Go.Proofs.YtapnlnikeniomaaDoor.H
/-! ### laws_FnRebuffed: function 4 -/
def laws_FnRebuffed.j0 : Nat → ByteArray → Bool → Option (Bool)
  | 0, _, _ => none
  | k + 1, x0, x13 => if x13 = true then (some true) else ((impl_Rebuffed.f x0).bind fun t113 => ((spec_Rebound.f k 2 x0).bind fun t114 => (if t113.toList = t114.toList then ((impl_Rebuffed.f (⟨#[63]⟩ : ByteArray)).bind fun t115 => (some (t115.toList == ([36, 49] : List UInt8)))) else (some false))))
def laws_FnRebuffed.f (k : Nat) (a0 : ByteArray) : Option (Bool) := if (a0.size : Int) > 2147483647 then (some true) else (if (a0.size : Int) > 1000 then (laws_FnRebuffed.j0 k a0 true) else ((spec_UTF8.f a0).bind fun t112 => (laws_FnRebuffed.j0 k a0 (!t112))))
theorem laws_FnRebuffed.mono_l : ∀ k, (∀ y0 y1, LeO (laws_FnRebuffed.j0 k y0 y1) (laws_FnRebuffed.j0 (k + 1) y0 y1))
  | 0 => fun _ _ r h => by simp [laws_FnRebuffed.j0] at h
  | k + 1 => by
    have ih0 := laws_FnRebuffed.mono_l k
    · intro y0 y1
      unfold laws_FnRebuffed.j0
      repeat' first
      | (with_reducible exact ih0 _ _)
      | (with_reducible exact spec_Rebound.mono _ _ _)
      | (with_reducible exact LeO.refl _)
      | (with_reducible exact LeO.none _)
      | (with_reducible refine LeO.ite ?_ ?_)
      | (with_reducible refine LeO.bind ?_ (fun _ => ?_))
      | exact ih0 _ _
      | exact spec_Rebound.mono _ _ _
      | exact LeO.none _
      | refine LeO.ite ?_ ?_
      | refine LeO.bind ?_ (fun _ => ?_)
theorem laws_FnRebuffed.mono : ∀ a0 k, LeO (laws_FnRebuffed.f k a0) (laws_FnRebuffed.f (k + 1) a0) := by
  intro a0 k
  have ih0 := laws_FnRebuffed.mono_l k
  unfold laws_FnRebuffed.f
  repeat' first
      | (with_reducible exact ih0 _ _)
      | (with_reducible exact spec_Rebound.mono _ _ _)
      | (with_reducible exact LeO.refl _)
      | (with_reducible exact LeO.none _)
      | (with_reducible refine LeO.ite ?_ ?_)
      | (with_reducible refine LeO.bind ?_ (fun _ => ?_))
      | exact ih0 _ _
      | exact spec_Rebound.mono _ _ _
      | exact LeO.none _
      | refine LeO.ite ?_ ?_
      | refine LeO.bind ?_ (fun _ => ?_)
set_option maxHeartbeats 8000000 in
set_option maxRecDepth 100000 in
theorem laws_FnRebuffed.calls (k : Nat) (a0 : ByteArray) (r : Bool) (w : World) (ht_ : Tab w) (h : laws_FnRebuffed.f k a0 = some r) :
    Calls Tryd.prog 4 #[.string a0] w fun e w' => e = .returned (.bool r) ∧ Below w.heap.size w w' := by
  have HB := Aside0.mk (Below.refl w.heap.size w)
  have HT_ := Aside0.mk (tab_below ht_)
  clear ht_
  have H : (if (a0.size : Int) > 2147483647 then (some true) else (if (a0.size : Int) > 1000 then (laws_FnRebuffed.j0 k a0 true) else ((spec_UTF8.f a0).bind fun t112 => (laws_FnRebuffed.j0 k a0 (!t112))))) = some r := h
  clear h
  by_cases c2 : (a0.size : Int) > 2147483647
  · rw [if_pos c2] at H
    have c2b0 : decide (2147483647 < (a0.size : Int)) = true := decide_eq_true c2
    have c2b1 : decide (2147483647 < a0.size) = true := decide_eq_true (by omega)
    clear c2
    obtain rfl := Option.some.inj H
    go_enter Tryd.func4, Tryd.ntmps4
    go_wp2
    go_ret
    exact ⟨by first | rfl | (simp [errW_none, errW_some] <;> rfl) | (simp [*, errW_none, errW_some] <;> rfl), by repeat (first | (with_reducible first | exact HB.out | apply below_alloc | apply pw_below_drewN | apply below_drew1) | exact HB.out)⟩
  · rw [if_neg c2] at H
    have c2b0 : decide (2147483647 < (a0.size : Int)) = false := decide_eq_false c2
    have c2b1 : decide (2147483647 < a0.size) = false := decide_eq_false (by omega)
    clear c2
    have HC3 := Aside0.mk H
    clear H
    go_enter Tryd.func4, Tryd.ntmps4
    go_upto_region 3 with (fail)
    go_cut [13] (fun v13 wc => ∃ (kq : Nat) (x13_2 : Bool), v13 = .bool x13_2 ∧ Aside0 (laws_FnRebuffed.j0 kq a0 x13_2 = some r) ∧ Aside0 (kq ≤ k) ∧ Aside0 (Below w.heap.size w wc))
    case first =>
      have H := HC3.out
      clear HC3
      by_cases c4 : (a0.size : Int) > 1000
      · rw [if_pos c4] at H
        have c4b0 : decide (1000 < (a0.size : Int)) = true := decide_eq_true c4
        have c4b1 : decide (1000 < a0.size) = true := decide_eq_true (by omega)
        clear c4
        (first | rw [c4b0] | (simp only [i64_w, i32_w]; rw [c4b0]) | skip)
        have H' := Aside0.mk H
        clear H
        go_wp2
        go_meet
        case rel => exact ⟨_, (true), (by first | rfl | (simp; done) | (simp [*]; done)), H', ⟨by first | omega | exact Nat.le_refl _⟩, ⟨by repeat (first | (with_reducible first | exact HB.out | apply below_alloc | apply pw_below_drewN | apply below_drew1) | exact HB.out)⟩⟩
      · rw [if_neg c4] at H
        have c4b0 : decide (1000 < (a0.size : Int)) = false := decide_eq_false c4
        have c4b1 : decide (1000 < a0.size) = false := decide_eq_false (by omega)
        clear c4
        (first | rw [c4b0] | (simp only [i64_w, i32_w]; rw [c4b0]) | skip)
        replace H := Option.bind_eq_some_iff.mp H
        obtain ⟨t112, A50, H⟩ := H
        replace H : (laws_FnRebuffed.j0 k a0 (!t112)) = some r := H
        have A5 := Aside0.mk A50
        clear A50
        have H' := Aside0.mk H
        clear H
        go_wp2_with (first | (go_at_call 10; (with_reducible refine (spec_UTF8.calls a0 t112 _ A5.out).mono ?_); rintro e w6 ⟨rfl, hb⟩; have n0_ := Aside0.mk (below_step (by repeat (first | (with_reducible first | exact HB.out | apply below_alloc | apply pw_below_drewN | apply below_drew1) | exact HB.out)) hb); clear HB; have HB := n0_; clear n0_; (try clear hb); (try clear hb2); (try clear hk); (try clear hi)))
        go_meet
        case rel => exact ⟨_, (!t112), (by first | rfl | (simp; done) | (simp [*]; done)), H', ⟨by first | omega | exact Nat.le_refl _⟩, ⟨by repeat (first | (with_reducible first | exact HB.out | apply below_alloc | apply pw_below_drewN | apply below_drew1) | exact HB.out)⟩⟩
    case rest =>
      clear HC3
      try clear c2
      try clear c2b0
      try clear c2b1
      try clear p2
      try clear c4
      try clear c4b0
      try clear c4b1
      obtain ⟨kq, x13_2, rfl, HA, HJ2, HB⟩ := hcut
      cases kq with
      | zero => exact absurd HA.out (by simp [laws_FnRebuffed.j0])
      | succ kj2 =>
        have H := HA.out
        clear HA
        simp only [laws_FnRebuffed.j0] at H
        by_cases c7 : x13_2 = true
        · subst c7
          have H1 : (some true) = some r := by rw [if_pos rfl] at H; exact H
          clear H
          have H := H1
          clear H1
          obtain rfl := Option.some.inj H
          go_wp2
          go_ret
          exact ⟨by first | rfl | (simp [errW_none, errW_some] <;> rfl) | (simp [*, errW_none, errW_some] <;> rfl), by repeat (first | (with_reducible first | exact HB.out | apply below_alloc | apply pw_below_drewN | apply below_drew1) | exact HB.out)⟩
        · replace c7 := Bool.eq_false_iff.mpr c7
          subst c7
          have H1 : ((impl_Rebuffed.f a0).bind fun t113 => ((spec_Rebound.f kj2 2 a0).bind fun t114 => (if t113.toList = t114.toList then ((impl_Rebuffed.f (⟨#[63]⟩ : ByteArray)).bind fun t115 => (some (t115.toList == ([36, 49] : List UInt8)))) else (some false)))) = some r := by rw [if_neg (show ¬ (false = true) by decide)] at H; exact H
          clear H
          have H := H1
          clear H1
          replace H := Option.bind_eq_some_iff.mp H
          obtain ⟨t113, A80, H⟩ := H
          replace H : ((spec_Rebound.f kj2 2 a0).bind fun t114 => (if t113.toList = t114.toList then ((impl_Rebuffed.f (⟨#[63]⟩ : ByteArray)).bind fun t115 => (some (t115.toList == ([36, 49] : List UInt8)))) else (some false))) = some r := H
          have A8 := Aside0.mk A80
          clear A80
          replace H := Option.bind_eq_some_iff.mp H
          obtain ⟨t114, A90, H⟩ := H
          replace H : (if t113.toList = t114.toList then ((impl_Rebuffed.f (⟨#[63]⟩ : ByteArray)).bind fun t115 => (some (t115.toList == ([36, 49] : List UInt8)))) else (some false)) = some r := H
          have A9 := Aside0.mk A90
          clear A90
          by_cases c10 : t113.toList = t114.toList
          · rw [if_pos c10] at H
            have c10b0 : (t113.toList == t114.toList) = true := beq_iff_eq.mpr c10
            have c10b1 : (t113.toList != t114.toList) = false := bne_eq_false_iff_eq.mpr c10
            clear c10
            replace H := Option.bind_eq_some_iff.mp H
            obtain ⟨t115, A110, H⟩ := H
            replace H : (some (t115.toList == ([36, 49] : List UInt8))) = some r := H
            have A11 := Aside0.mk A110
            clear A110
            obtain rfl := Option.some.inj H
            go_wp2_with (first | ((with_reducible refine gate_callee (f := 11) rfl ?_); refine goesL_ (some 15) rfl rfl Tryd.func11 (by kernel_rfl) rfl #[.string a0] rfl (by (try simp only [List.map_toArray, List.map_cons, List.map_nil]); first | done | rfl | (simp only [List.length_drop, List.length_take]; rfl)) ?_; (with_reducible refine (impl_Rebuffed.calls a0 t113 _ (tab_at HT_.out (by repeat (first | (with_reducible first | exact HB.out | apply below_alloc | apply pw_below_drewN | apply below_drew1) | exact HB.out))) A8.out).mono ?_); rintro e w12 ⟨rfl, hb⟩; refine ⟨_, rfl, ?_⟩; have n0_ := Aside0.mk (below_step (by repeat (first | (with_reducible first | exact HB.out | apply below_alloc | apply pw_below_drewN | apply below_drew1) | exact HB.out)) hb); clear HB; have HB := n0_; clear n0_; (try clear hb); (try clear hb2); (try clear hk); (try clear hi)) | ((with_reducible refine gate_callee (f := 12) rfl ?_); refine goesL_ (some 17) rfl rfl Tryd.func12 (by kernel_rfl) rfl #[.int .i64 2, .string a0] rfl (by (try simp only [List.map_toArray, List.map_cons, List.map_nil]); first | done | rfl | (simp only [List.length_drop, List.length_take]; rfl)) ?_; (with_reducible refine (spec_Rebound.calls kj2 2 a0 t114 _ A9.out).mono ?_); rintro e w13 ⟨rfl, hb⟩; refine ⟨_, rfl, ?_⟩; have n0_ := Aside0.mk (below_step (by repeat (first | (with_reducible first | exact HB.out | apply below_alloc | apply pw_below_drewN | apply below_drew1) | exact HB.out)) hb); clear HB; have HB := n0_; clear n0_; (try clear hb); (try clear hb2); (try clear hk); (try clear hi)) | (go_at_call 11; (with_reducible refine (impl_Rebuffed.calls (⟨#[63]⟩ : ByteArray) t115 _ (tab_at HT_.out (by repeat (first | (with_reducible first | exact HB.out | apply below_alloc | apply pw_below_drewN | apply below_drew1) | exact HB.out))) A11.out).mono ?_); rintro e w14 ⟨rfl, hb⟩; have n0_ := Aside0.mk (below_step (by repeat (first | (with_reducible first | exact HB.out | apply below_alloc | apply pw_below_drewN | apply below_drew1) | exact HB.out)) hb); clear HB; have HB := n0_; clear n0_; (try clear hb); (try clear hb2); (try clear hk); (try clear hi)))
            go_ret
            exact ⟨by first | rfl | (simp [errW_none, errW_some] <;> rfl) | (simp [*, errW_none, errW_some] <;> rfl), by repeat (first | (with_reducible first | exact HB.out | apply below_alloc | apply pw_below_drewN | apply below_drew1) | exact HB.out)⟩
          · rw [if_neg c10] at H
            have c10b0 : (t113.toList == t114.toList) = false := beq_eq_false_iff_ne.mpr c10
            have c10b1 : (t113.toList != t114.toList) = true := bne_iff_ne.mpr c10
            obtain rfl := Option.some.inj H
            go_wp2_with (first | ((with_reducible refine gate_callee (f := 11) rfl ?_); refine goesL_ (some 15) rfl rfl Tryd.func11 (by kernel_rfl) rfl #[.string a0] rfl (by (try simp only [List.map_toArray, List.map_cons, List.map_nil]); first | done | rfl | (simp only [List.length_drop, List.length_take]; rfl)) ?_; (with_reducible refine (impl_Rebuffed.calls a0 t113 _ (tab_at HT_.out (by repeat (first | (with_reducible first | exact HB.out | apply below_alloc | apply pw_below_drewN | apply below_drew1) | exact HB.out))) A8.out).mono ?_); rintro e w15 ⟨rfl, hb⟩; refine ⟨_, rfl, ?_⟩; have n0_ := Aside0.mk (below_step (by repeat (first | (with_reducible first | exact HB.out | apply below_alloc | apply pw_below_drewN | apply below_drew1) | exact HB.out)) hb); clear HB; have HB := n0_; clear n0_; (try clear hb); (try clear hb2); (try clear hk); (try clear hi)) | ((with_reducible refine gate_callee (f := 12) rfl ?_); refine goesL_ (some 17) rfl rfl Tryd.func12 (by kernel_rfl) rfl #[.int .i64 2, .string a0] rfl (by (try simp only [List.map_toArray, List.map_cons, List.map_nil]); first | done | rfl | (simp only [List.length_drop, List.length_take]; rfl)) ?_; (with_reducible refine (spec_Rebound.calls kj2 2 a0 t114 _ A9.out).mono ?_); rintro e w16 ⟨rfl, hb⟩; refine ⟨_, rfl, ?_⟩; have n0_ := Aside0.mk (below_step (by repeat (first | (with_reducible first | exact HB.out | apply below_alloc | apply pw_below_drewN | apply below_drew1) | exact HB.out)) hb); clear HB; have HB := n0_; clear n0_; (try clear hb); (try clear hb2); (try clear hk); (try clear hi)))
            go_ret
            exact ⟨by first | rfl | (simp [errW_none, errW_some] <;> rfl) | (simp [*, errW_none, errW_some] <;> rfl), by repeat (first | (with_reducible first | exact HB.out | apply below_alloc | apply pw_below_drewN | apply below_drew1) | exact HB.out)⟩

/-- THE ONE PURE STATEMENT of laws_FnRebuffed: yours. -/
def laws_FnRebuffed.Pure : Prop := ∀ (a0 : ByteArray), a0.size ≤ 140737488351232 → ∃ k, laws_FnRebuffed.f k a0 = some true
theorem laws_FnRebuffed.walk (P : laws_FnRebuffed.Pure) (a0 : ByteArray) (w : World) (ht_ : Tab w) (w0 : a0.size ≤ 140737488351232) :
    Calls Tryd.prog 4 #[.string a0] w fun e w' => e = .returned (.bool true) ∧ Below w.heap.size w w' := by
  obtain ⟨k, h⟩ := P a0 w0
  refine (laws_FnRebuffed.calls k a0 true w ht_ h).mono ?_
  rintro e w' ⟨rfl, hd⟩
  exact ⟨rfl, hd⟩

end Go.Proofs.YtapnlnikeniomaaDoor.QF
