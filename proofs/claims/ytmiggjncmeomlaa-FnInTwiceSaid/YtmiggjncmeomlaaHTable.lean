/-
  A CONTRACT: impl's tableOf of one name and one right value: a map of that name alone.
-/
import Derived.Test.YtmiggjncmeomlaaHMap
import Derived.Test.YtmiggjncmeomlaaHRight
import Derived.Lib.SliceRun
namespace Go.Proofs.Ytmiggjncmeomlaa.H
open Go.RowKit Go.Proofs.YtmiggjncmeomlaaW.PrintWords Go.Proofs.YtmiggjncmeomlaaW.PrintLast Go.Proofs.YtmiggjncmeomlaaW.PrintMore Go.Proofs.Ytmiggjncmeomlaa.QS
set_option linter.unusedVariables false
set_option linter.unusedSimpArgs false

theorem row_one {w : World} {base : Nat} {ok : Nat → Prop} {v : Value} {x : S24} (h : kG.R 20 w base ok v [x]) : ∃ ad c u, v = .slice (some ad) 1 c ∧ 1 ≤ c ∧ kG.M w base ok x [u] ∧ w.cell? ad = some u := by
  obtain ⟨A, c, rfl, hl, hr⟩ := OwnRow.reads h.2
  obtain ⟨ad, rfl, hc⟩ := hr.2.2 (by simp)
  obtain ⟨cs, hcl, hM, hcell⟩ := hc 0 x rfl
  obtain ⟨u, rfl⟩ : ∃ u, cs = [u] := List.length_eq_one_iff.1 hcl
  exact ⟨ad, c, u, rfl, hl, kG.M_mono (fun k hk => hk.1) hM, by simpa [Addr.add] using hcell 0 u rfl⟩
def TabPost (s : ByteArray) (v : S24) (w : World) (e : Ending) (w' : World) : Prop := ∃ b, e = .returned (.tuple #[.map (some b), .bool true]) ∧ MapIs (fun k => w.heap.size ≤ k) w' b [⟨s, v⟩] ∧ Below w.heap.size w w'
set_option maxHeartbeats 3200000 in
set_option maxRecDepth 100000 in
theorem table_one (s : ByteArray) (v : S24) (hv : rightR v) (hl : v.f3.length ≤ 1048576) (hs : s.size ≤ maxLen) (A0 A1 : Option Addr) (c0 c1 : Nat) (w : World) (hC0 : Kd.C Kd.string w A0 1 [s]) (hC1 : k24.C w A1 1 [v]) :
    Calls Try.prog 13 #[.slice A0 1 c0, .slice A1 1 c1] w (TabPost s v w) := by
  have HG := Lib.hid (goList_right [v] (fun x hx => by rw [List.mem_singleton.1 hx]; exact ⟨hv, hl⟩) (by simp) A1 c1 w hC1)
  have HS := Lib.hid hs
  have HC0 := Lib.hid hC0
  clear hv hl hs hC1 hC0
  have hmm := @run_makeMap Try.prog
  go_enter Try.func13, Try.ntmps13
  go_wp2_with fail
  refine HG.out.mono ?_
  rintro e w1 ⟨v1, rfl, hR, hB⟩
  obtain ⟨ad, c, u, rfl, hc1, hM, hcell⟩ := row_one hR
  have HM := Lib.hid (kG.M_bound hM)
  have HB1 := Lib.hid hB
  have HCELL := Lib.hid hcell
  have HUC := Lib.hid (Kd.C_below HC0.out hB)
  have hcA : ∃ a0, A0 = some a0 ∧ w1.cell? a0 = some (.string s) := by
    obtain ⟨a0, h1, h2⟩ := (Kd.C_below HC0.out hB).2.2 (by omega)
    obtain ⟨cs, _, hK, hc⟩ := h2 0 s rfl
    have hK' : cs = [.string s] := hK
    subst hK'
    exact ⟨a0, h1, by simpa [Addr.add] using hc 0 _ rfl⟩
  obtain ⟨a0, rfl, hcell0⟩ := hcA
  have HM0 := Lib.hid (MapIs.made (fun k => w.heap.size ≤ k) w1)
  have HB2 := Lib.hid (below_alloc hB (.map #[] 0))
  have HM2 : Hid (kG.M (w1.alloc (.map #[] 0)) 0 (fun k => w.heap.size ≤ k) v [u]) := Lib.hid (kG.M_lower (Nat.zero_le _) (kG.M_mono (ok' := fun k => w.heap.size ≤ k) (fun k hk => hk.2.1) (Kd.M_step HM.out (fun k _ hk => (MapKept.heap_alloc w1 _).2 k hk))))
  have HUIF := Lib.hid (kG_if _ _ _ (kG.K_of_M HM.out))
  have hcell0' : (w1.alloc (.map #[] 0)).cell? a0 = some (.string s) := Lib.cell?_alloc_some _ hcell0
  have hcell1' : (w1.alloc (.map #[] 0)).cell? ad = some u := Lib.cell?_alloc_some _ hcell
  clear hR hM hB hcell HG HC0 HUC hcell0 HCELL
  go_wp2_with fail
  refine wp_loop_rounds 2 ?_
  rw [rounds_succ]
  rcases HUIF.out with rfl | ⟨t, y, rfl⟩
  all_goals
    go_wp2_with (first | (at_lookup; refine wp_look_miss _ rfl (.tmp 36) (.tmp 37) rfl w1.heap.size [] s rfl rfl HM0.out (fun x hx => by cases hx) HS.out ?_) | (at_mapUpdate; refine wp_store _ rfl (.tmp 42) (.tmp 43) (.tmp 47) rfl w1.heap.size [] ⟨s, v⟩ _ rfl rfl rfl HM0.out (fun x hx => by cases hx) HS.out (by simp [maxLen]) HM2.out ?_))
    intro w3 hM3 hg3
    have HM3 := Lib.hid hM3
    have HB3 := Lib.hid (HB2.out.grown hg3 HB2.out.size (fun k hk => by injection hk with hk; have := HB1.out.size; omega))
    clear hM3 hg3
    go_wp2_with fail
    rw [rounds_succ]
    go_wp2_with fail
    go_ret2
    exact ⟨_, rfl, HM3.out, HB3.out⟩
end Go.Proofs.Ytmiggjncmeomlaa.H
