/-
  A CONTRACT: impl.Compiled: what compileNamedQuery answers; not ok if it is refused (texts of at most 2^20 bytes; the kinds 0 to 4; a world in which strconv's table lies).
-/
import Derived.Test.YtnmhoghmhglimaaDoorHComp
namespace Go.Proofs.YtnmhoghmhglimaaDoor.H
open Go.RowKit Go.Proofs.YtnmhoghmhglimaaDoorW.PrintWords Go.Proofs.YtnmhoghmhglimaaDoorW.PrintLast Go.Proofs.YtnmhoghmhglimaaDoorW.PrintMore
set_option linter.unusedVariables false
set_option linter.unusedSimpArgs false

def textsL (l : List (List UInt8)) : List ByteArray := l.map fun x => ⟨x.toArray⟩
def impl_Compiled.f (a0 : Int) (a1 : ByteArray) : Option (ByteArray × List ByteArray × Bool) := if a1.size ≤ 1048576 ∧ 0 ≤ a0 ∧ a0 ≤ 4 then some (match runC a0 a1.data.toList false [] [] [] with
  | some (nms, out) => (⟨out.toArray⟩, textsL nms, true)
  | none => (⟨#[]⟩, [], false)) else none
theorem texts_R {B : Nat} {l : List (List UInt8)} {v : Value} {w : World} (h : SRow B l v w) : Kd.R Kd.string 9 w B (fun _ => True) v (textsL l) := by
  refine Kd.R_of_own ?_ (fun _ _ => trivial)
  have e : encs Value.string (textsL l) = txCells l := by simp [encs, textsL, txCells]
  rw [e, show (textsL l).length = l.length by simp [textsL]]
  exact h
theorem own_lower {B B' : Nat} {e : TypeId} {k : Nat} {v : Value} {n : Nat} {xs : List Value} {w : World} (h : w.ownsRow B e k v n xs) (hb : B' ≤ B) : w.ownsRow B' e k v n xs := by
  refine ⟨h.1, ?_⟩
  rcases h.2 with hn | ⟨g, cap, cur, rfl, hB, rest⟩
  · exact .inl hn
  · exact .inr ⟨g, cap, cur, rfl, Nat.le_trans hb hB, rest⟩
theorem byte_cell (s : ByteArray) (c : Nat) (w : World) (fr : Nat × Nat) (i : Nat) (h : i < s.size) : (w.alloc (.cells (bytesRow s c) 5 fr)).cell? ⟨w.heap.size, i, none⟩ = some (.int .u8 ((s[i]'h).toNat : Int)) := by
  have h' : i < s.data.size := h
  have e : (bytesRow s c)[i]? = some (.int .u8 ((s[i]'h).toNat : Int)) := bytesRow_at s c i h'
  have hb : (w.alloc (.cells (bytesRow s c) 5 fr)).heap[w.heap.size]? = some (.cells (bytesRow s c) 5 fr) := heap_alloc_new w _
  simp only [World.cell?, hb]
  simpa using e
set_option maxHeartbeats 3200000 in
set_option maxRecDepth 100000 in
theorem compile_at (kind : Int) (hk : 0 ≤ kind ∧ kind ≤ 4) (s : ByteArray) (hs : s.size ≤ 1048576) (w : World) (ht : Tab w) :
    Calls Tryd.prog 52 #[.string s, .int .i64 kind] w fun e w' => Below w.heap.size w w' ∧ CmPost (runC kind s.data.toList false [] [] []) w.heap.size e w' := by
  have HK := Lib.hid hk
  have hcv := run_bytes_of_string (P := Tryd.prog) w 9 92 5 s Tryd.underlying9 Tryd.underlying92 Tryd.underlying5
  go_enter Tryd.func52, Tryd.ntmps52
  go_wp2_with fail
  have hB0 : Below w.heap.size w (w.alloc (.cells (bytesRow s (grownCap w s.size 0 5)) 5 ((bytesRow s (grownCap w s.size 0 5)).size, (bytesRow s (grownCap w s.size 0 5)).size + 1))).drew := below_drew (below_alloc (Below.refl _ _) _)
  have hC0 := fun i h => byte_cell s (grownCap w s.size 0 5) w ((bytesRow s (grownCap w s.size 0 5)).size, (bytesRow s (grownCap w s.size 0 5)).size + 1) i h
  have hlt : w.heap.size < (w.alloc (.cells (bytesRow s (grownCap w s.size 0 5)) 5 ((bytesRow s (grownCap w s.size 0 5)).size, (bytesRow s (grownCap w s.size 0 5)).size + 1))).drew.heap.size := by
    show w.heap.size < (w.heap.push _).size
    simp
  refine (comp_walk kind hk s hs w.heap.size (grownCap w s.size 0 5) _ (tab_at (tab_below ht) hB0) hlt hC0).mono ?_
  rintro e w1 ⟨b1, p1⟩
  have HB1 := Lib.hid (below_step hB0 b1)
  have hle := hB0.size
  clear hB0 hC0 hlt b1 hcv
  obtain ⟨R, hR⟩ : ∃ R, R = runC kind s.data.toList false [] [] [] := ⟨_, rfl⟩
  rw [← hR] at p1
  have HR := Lib.hid hR
  clear hR
  cases R with
  | none =>
    obtain ⟨v, t, x, rfl⟩ := p1
    go_wp2_with fail
    go_ret3
    refine ⟨HB1.out, ?_⟩
    rw [← HR.out]
    exact ⟨_, _, _, rfl⟩
  | some r =>
    obtain ⟨nms, out⟩ := r
    obtain ⟨v, rfl, hrow⟩ := p1
    have HROW : Hid (SRow w.heap.size nms v w1) := Lib.hid (own_lower hrow hle)
    clear hrow
    go_wp2_with fail
    go_ret3
    refine ⟨HB1.out, ?_⟩
    rw [← HR.out]
    exact ⟨_, rfl, HROW.out⟩
set_option maxHeartbeats 3200000 in
set_option maxRecDepth 100000 in
theorem impl_Compiled.calls (a0 : Int) (a1 : ByteArray) (r1 : ByteArray) (r2 : List ByteArray) (r3 : Bool) (w : World) (ht : Tab w) (h : impl_Compiled.f a0 a1 = some (r1, r2, r3)) :
    Calls Tryd.prog 27 #[.int .i64 a0, .string a1] w fun e w' => ∃ v1_ : Value, e = .returned (.tuple #[.string r1, v1_, .bool r3]) ∧ Kd.R Kd.string 9 w' w.heap.size (fun _ => True) v1_ r2 ∧ Below w.heap.size w w' := by
  unfold impl_Compiled.f at h
  by_cases hs : a1.size ≤ 1048576 ∧ 0 ≤ a0 ∧ a0 ≤ 4
  · rw [if_pos hs] at h
    have H := Lib.hid (Option.some.inj h)
    have HC := compile_at a0 hs.2 a1 hs.1 w ht
    have HCC := Lib.hid HC
    clear h HC hs ht
    go_enter Tryd.func27, Tryd.ntmps27
    go_wp2_with fail
    refine HCC.out.mono ?_
    rintro e w1 ⟨b1, p1⟩
    have HB := Lib.hid b1
    clear b1 HCC
    revert H p1
    generalize runC a0 a1.data.toList false [] [] [] = R
    intro H p1
    cases R with
    | none =>
      obtain ⟨v, t, x, rfl⟩ := p1
      go_wp2_with fail
      go_ret3
      have h := H.out
      simp only [Prod.mk.injEq] at h
      obtain ⟨rfl, rfl, rfl⟩ := h
      exact ⟨_, rfl, Kd.R_nil _ _ _ _ _, HB.out⟩
    | some r =>
      obtain ⟨nms, out⟩ := r
      obtain ⟨v, rfl, hrow⟩ := p1
      have HROW := Lib.hid hrow
      clear hrow
      go_wp2_with fail
      go_ret3
      have h := H.out
      simp only [Prod.mk.injEq] at h
      obtain ⟨rfl, rfl, rfl⟩ := h
      exact ⟨_, rfl, texts_R HROW.out, HB.out⟩
  · rw [if_neg hs] at h
    cases h
end Go.Proofs.YtnmhoghmhglimaaDoor.H
