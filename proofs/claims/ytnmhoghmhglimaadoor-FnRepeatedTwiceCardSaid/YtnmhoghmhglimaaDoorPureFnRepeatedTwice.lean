/-
  PROVED: 'laws.FnRepeatedTwice': what stands so many times is what stands once, and further times. No condition.
-/
import Derived.Test.YtnmhoghmhglimaaDoorPureFnRepeated
import Derived.Test.YtnmhoghmhglimaaDoorQR2
namespace Go.Proofs.YtnmhoghmhglimaaDoor.Pure
open Go.RowKit Go.Proofs.YtnmhoghmhglimaaDoor.QR Go.Proofs.YtnmhoghmhglimaaDoor.H Go.Proofs.YtnmhoghmhglimaaDoor.S Go.Proofs.YtnmhoghmhglimaaDoorW.PrintWords Go.Proofs.YtnmhoghmhglimaaDoorW.PrintLast Go.Proofs.YtnmhoghmhglimaaDoorW.PrintMore

theorem fixL_size (s : ByteArray) (y c k : Nat) (hc : c ≤ s.size) : (fixL s y c k).size = s.size + k * (c - y + 1) := by
  show (s.data.toList.take c ++ cyc ((s.data.toList.take c).drop y) k ++ s.data.toList.drop c).toArray.size = _
  have hl : s.data.toList.length = s.size := Array.length_toList
  rw [List.size_toArray, List.length_append, List.length_append, cyc_len, List.length_drop, List.length_take, List.length_drop, hl, Nat.min_eq_left hc]
  omega
theorem fixL_zero (s : ByteArray) (y c : Nat) : fixL s y c 0 = s := by
  apply ByteArray.ext
  show (s.data.toList.take c ++ [] ++ s.data.toList.drop c).toArray = s.data
  rw [List.append_nil, List.take_append_drop]
theorem fixL_head (s : ByteArray) (y c k : Nat) (hy : y ≤ c) (hc : c ≤ s.size) : (fixL s y c k).extract 0 y = ⟨(s.data.toList.take y).toArray⟩ := by
  apply ByteArray.ext
  have hl : s.data.toList.length = s.size := Array.length_toList
  rw [ByteArray.data_extract]
  apply Array.ext'
  rw [Array.toList_extract, List.extract_eq_take_drop, List.drop_zero, Nat.sub_zero]
  show List.take y (s.data.toList.take c ++ cyc ((s.data.toList.take c).drop y) k ++ s.data.toList.drop c) = s.data.toList.take y
  rw [List.append_assoc, List.take_append_of_le_length (by rw [List.length_take, hl]; omega), List.take_take, Nat.min_eq_left hy]

theorem twice_len (z d P : Nat) (hz : z ≤ 1000) (hd : d ≤ 1000) (hP : P ≤ 20020) : ((z + (P + (d + 1)) : Nat) : Int) = wrap64 (wrap64 (((z + P : Nat) : Int) + ((d : Nat) : Int)) + 1) := by
  have ha : wrap64 (((z + P : Nat) : Int) + ((d : Nat) : Int)) = ((z + P + d : Nat) : Int) := by rw [w64 _ (by omega)]; omega
  rw [ha, w64 _ (by omega)]
  omega
set_option maxHeartbeats 1600000 in
theorem FnRepeatedTwice : laws_FnRepeatedTwice.Pure := by
  intro s n _ _
  have done_ : ∀ k, laws_FnRepeatedTwice.j0 (k + 1) s n true = some true := fun k => by simp only [laws_FnRepeatedTwice.j0, if_true]
  by_cases h1 : (s.size : Int) > 2147483647
  · exact ⟨0, by simp only [laws_FnRepeatedTwice.f]; rw [if_pos h1]⟩
  by_cases h2 : (s.size : Int) > 1000
  · exact ⟨1, by simp only [laws_FnRepeatedTwice.f]; rw [if_neg h1, if_pos h2]; exact done_ 0⟩
  by_cases h3 : n < 1
  · exact ⟨1, by simp only [laws_FnRepeatedTwice.f]; rw [if_neg h1, if_neg h2, if_pos h3]; exact done_ 0⟩
  by_cases h4 : n > 20
  · exact ⟨1, by simp only [laws_FnRepeatedTwice.f]; rw [if_neg h1, if_neg h2, if_neg h3, if_pos h4]; exact done_ 0⟩
  have hs : s.size ≤ 1048576 := by omega
  obtain ⟨b, hb0, hf, _⟩ := long_is s hs
  have hb : Ev (fun k => H.spec_LongS.f k s) b := hb0
  have doneE : Ev (fun k => laws_FnRepeatedTwice.j0 k s n true) true := Ev.step (f := fun _ => some true) (fun k => done_ k) (Ev.now _)
  have key : Ev (fun k => if b = true then (laws_FnRepeatedTwice.j0 k s n true) else ((H.spec_ValuesAt.f k s).bind fun t108 => (if t108 < 0 then (laws_FnRepeatedTwice.j0 k s n true) else ((H.spec_ValuesAt.f k s).bind fun t109 => ((H.spec_Closing.f k s t109).bind fun t110 => (laws_FnRepeatedTwice.j0 k s n (decide (t110 < 0)))))))) true := by
    cases b with
    | true => exact Ev.congr (fun k => by rw [if_pos rfl]) doneE
    | false =>
      have hn := hf rfl
      have hat : Ev (fun k => H.spec_ValuesAt.f k s) (atOf (valN s s.size 0)) := valuesAt_is s hs hn
      refine Ev.congr (f := fun k => (H.spec_ValuesAt.f k s).bind fun t108 => (if t108 < 0 then (laws_FnRepeatedTwice.j0 k s n true) else ((H.spec_ValuesAt.f k s).bind fun t109 => ((H.spec_Closing.f k s t109).bind fun t110 => (laws_FnRepeatedTwice.j0 k s n (decide (t110 < 0))))))) (fun k => by rw [if_neg (by decide)]) (Ev.bind hat ?_)
      rcases valN_found s hn s.size 0 (by omega) (by omega) with hv | ⟨a, y, hv, _, hay, hy, _, h40, _⟩
      · exact Ev.congr (fun k => by rw [if_pos (by rw [hv]; simp [atOf])]) doneE
      · have e : atOf (valN s s.size 0) = (y : Int) := by rw [hv]; simp [atOf]
        rw [e] at hat ⊢
        refine Ev.congr (f := fun k => (H.spec_ValuesAt.f k s).bind fun t109 => ((H.spec_Closing.f k s t109).bind fun t110 => (laws_FnRepeatedTwice.j0 k s n (decide (t110 < 0))))) (fun k => by rw [if_neg (by omega)]) (Ev.bind hat ?_)
        rcases closing_is s hs y (by omega) hy h40 with ⟨hc, hz⟩ | ⟨hz, hlt, hc⟩
        · have hc' : Ev (fun k => H.spec_Closing.f k s (y : Int)) (-1) := hc
          exact Ev.bind hc' doneE
        · have hc' : Ev (fun k => H.spec_Closing.f k s (y : Int)) (y + idxOf s y) := hc
          refine Ev.bind hc' ?_
          obtain ⟨c, hcd⟩ : ∃ c : Nat, c = y + (idxOf s y).toNat + 1 := ⟨_, rfl⟩
          have hci : (y : Int) + idxOf s y + 1 = (c : Int) := by omega
          have hF : ∀ m : Int, fixF s m = fixL s y c (m - 1).toNat := by
            intro m
            have e2 : ((y : Int) + 1 - 1).toNat = y := by omega
            unfold fixF
            rw [hv]
            simp only [e2]
            rw [if_neg (by omega), ← hcd]
          have ew : wrap64 ((y : Int) + idxOf s y + 1) = (c : Int) := by rw [hci]; exact w64 _ (by omega)
          have en : wrap64 (n + 1) = n + 1 := w64 _ (by omega)
          have hex : (s.extract y c).size = c - y := by simp; omega
          have s1 := fixL_size s y c (n - 1).toNat (by omega)
          have s2 := fixL_size s y c (n + 1 - 1).toNat (by omega)
          have hm := Nat.mul_le_mul (show (n - 1).toNat ≤ 20 by omega) (show c - y + 1 ≤ 1001 by omega)
          have hk : (n + 1 - 1).toNat = (n - 1).toNat + 1 := by omega
          rw [hk, Nat.succ_mul] at s2
          have hw := fun P hP => twice_len s.size (c - y) P (by omega) (by omega) hP
          have d0 : decide ((y : Int) + idxOf s y < 0) = false := decide_eq_false (by omega)
          rw [d0]
          refine Ev.step (f := fun k => (H.spec_ValuesAt.f k s).bind fun t113 => ((H.spec_Closing.f k s t113).bind fun t114 => (if 0 ≤ t113 then (if t113 ≤ (wrap64 (t114 + 1)) then (if (wrap64 (t114 + 1)) ≤ (s.size : Int) then (if ((fixF s (n + 1)).size : Int) = (wrap64 ((wrap64 (((fixF s n).size : Int) + ((s.extract (t113 : Int).toNat ((wrap64 (t114 + 1)) : Int).toNat).size : Int))) + 1)) then ((impl_Repeated.f s 1).bind fun t115 => (if t115.toList = s.toList then (if t113 ≤ ((fixF s n).size : Int) then (if t113 ≤ ((fixF s (n + 1)).size : Int) then (some (((fixF s n).extract 0 (t113 : Int).toNat).toList == ((fixF s (n + 1)).extract 0 (t113 : Int).toNat).toList)) else (none)) else (none)) else (some false))) else (some false)) else (none)) else (none)) else (none)))) (fun k => ?_) (Ev.bind hat (Ev.bind hc' (Ev.congr (f := fun _ => some true) (fun k => ?_) (Ev.now _))))
          · simp only [laws_FnRepeatedTwice.j0, Bool.false_eq_true, if_false, en, impl_rep s hs n (by omega) (by omega), impl_rep s hs (n + 1) (by omega) (by omega), Option.bind_some]
          · have e1 : (1 : Int) - 1 = 0 := rfl
            rw [ew, if_pos (by omega), if_pos (by omega), if_pos (by omega), hF n, hF (n + 1), Int.toNat_natCast, Int.toNat_natCast, hex, hk, s1, s2, if_pos (hw _ (by omega)), impl_rep s hs 1 (by omega) (by omega), hF 1, Option.bind_some, e1, Int.toNat_zero, fixL_zero, if_pos rfl, if_pos (by omega), if_pos (by omega), fixL_head s y c _ (by omega) (by omega), fixL_head s y c _ (by omega) (by omega)]
            simp
  obtain ⟨k, hk⟩ := (Ev.bind (f := fun k b => if b = true then (laws_FnRepeatedTwice.j0 k s n true) else ((H.spec_ValuesAt.f k s).bind fun t108 => (if t108 < 0 then (laws_FnRepeatedTwice.j0 k s n true) else ((H.spec_ValuesAt.f k s).bind fun t109 => ((H.spec_Closing.f k s t109).bind fun t110 => (laws_FnRepeatedTwice.j0 k s n (decide (t110 < 0)))))))) hb key).rounds
  exact ⟨k, by simp only [laws_FnRepeatedTwice.f]; rw [if_neg h1, if_neg h2, if_neg h3, if_neg h4]; exact hk⟩
end Go.Proofs.YtnmhoghmhglimaaDoor.Pure
