/-
  PROVED: 'laws.FnInTwice': Eq of a list has the question marks that In makes of it for IN (?), but for blanks behind commas, and the same arguments. No condition.
-/
import Derived.Test.YtmiggjncmeomlaaSCond
import Derived.Test.YtmiggjncmeomlaaHEqI
import Derived.Test.YtmiggjncmeomlaaHExpI
import Derived.Test.YtmiggjncmeomlaaQS7
namespace Go.Proofs.Ytmiggjncmeomlaa.Pure
open Go.RowKit Go.Proofs.Ytmiggjncmeomlaa.QS Go.Proofs.Ytmiggjncmeomlaa.H Go.Proofs.Ytmiggjncmeomlaa.SD Go.Proofs.YtmiggjncmeomlaaW.PrintWords Go.Proofs.YtmiggjncmeomlaaW.PrintLast Go.Proofs.YtmiggjncmeomlaaW.PrintMore
set_option linter.unusedVariables false
set_option linter.unusedSimpArgs false

theorem list_size (x : ByteArray) : x.data.toList.length = x.size := by simp
theorem app_list (x y : ByteArray) : (x ++ y).data.toList = x.data.toList ++ y.data.toList := by simp
theorem bt_s (s : ByteArray) (i : Nat) (h : i < s.size) : bt s (i : Int) = ((s[i]'h).toNat : Int) := by simp [bt, h]
theorem byte_num {c d : UInt8} : ((c.toNat : Int) = (d.toNat : Int)) ↔ c = d := by
  constructor
  · intro h
    exact UInt8.toNat_inj.1 (by omega)
  · intro h
    rw [h]
theorem drop_byte (s : ByteArray) (i : Nat) (h : i < s.size) : s.data.toList.drop i = s[i]'h :: s.data.toList.drop (i + 1) := by
  rw [List.drop_eq_getElem_cons (by rw [list_size]; exact h)]
  rfl
theorem one_byte (s : ByteArray) (i : Nat) (h : i < s.size) : (s.extract i (i + 1)).data.toList = [s[i]'h] := by
  rw [ByteArray.data_extract, Array.toList_extract, List.extract_eq_take_drop, drop_byte s i h, show i + 1 - i = 1 by omega]
  rfl
/-- A byte more of a text without the blanks behind commas: what there is, and the byte ahead. -/
def stepS (q : List UInt8 × UInt8) (c : UInt8) : List UInt8 × UInt8 := if c = 32 ∧ q.2 = 44 then (q.1, c) else (q.1 ++ [c], c)
def foldS (l : List UInt8) (q : List UInt8 × UInt8) : List UInt8 × UInt8 := l.foldl stepS q
theorem foldS_pre : ∀ (pre acc : List UInt8) (p : UInt8), (∀ c ∈ pre, c ≠ 44) → p ≠ 44 → ∃ q, q ≠ 44 ∧ foldS pre (acc, p) = (acc ++ pre, q)
  | [], acc, p, _, hp => ⟨p, hp, by rw [List.append_nil]; rfl⟩
  | c :: t, acc, p, h, hp => by
    have h1 := List.forall_mem_cons.1 h
    obtain ⟨q, hq, e⟩ := foldS_pre t (acc ++ [c]) c h1.2 h1.1
    refine ⟨q, hq, ?_⟩
    show foldS t (stepS (acc, p) c) = _
    have e2 : stepS (acc, p) c = (acc ++ [c], c) := by
      unfold stepS
      rw [if_neg (fun h => hp h.2)]
    rw [e2, e, List.append_assoc]
    rfl
theorem foldS_marks : ∀ (m : Nat) (acc : List UInt8) (p : UInt8), p ≠ 44 → foldS (63 :: repQ m) (acc, p) = (acc ++ qm (m + 1), 63)
  | 0, acc, p, hp => by
    show stepS (acc, p) 63 = _
    unfold stepS
    rw [if_neg (fun h => by cases h.1)]
    rfl
  | m + 1, acc, p, hp => by
    have ih := foldS_marks m acc p hp
    have e : (63 :: repQ (m + 1) : List UInt8) = (63 :: repQ m) ++ [44, 32, 63] := rfl
    rw [e]
    unfold foldS at ih ⊢
    rw [List.foldl_append, ih]
    show stepS (stepS (stepS (acc ++ qm (m + 1), 63) 44) 32) 63 = _
    have e1 : stepS (acc ++ qm (m + 1), 63) 44 = (acc ++ qm (m + 1) ++ [44], 44) := by
      unfold stepS
      rw [if_neg (fun h => by cases h.1)]
    have e2 : stepS (acc ++ qm (m + 1) ++ [44], 44) 32 = (acc ++ qm (m + 1) ++ [44], 32) := by
      unfold stepS
      rw [if_pos ⟨rfl, rfl⟩]
    rw [e1, e2]
    unfold stepS
    rw [if_neg (fun h => by cases h.1)]
    show (_, _) = (acc ++ (qm (m + 1) ++ ((if m + 1 = 0 then [] else [44]) ++ [63])), (63 : UInt8))
    rw [if_neg (by omega)]
    simp
def prevB (b : ByteArray) (i : Nat) : UInt8 := if h : 0 < i ∧ i - 1 < b.size then b[i - 1]'h.2 else 0
theorem prev_next (b : ByteArray) (i : Nat) (h : i < b.size) : prevB b (i + 1) = b[i]'h := by
  unfold prevB
  rw [dif_pos ⟨by omega, by simpa using h⟩]
  rfl
section
variable (T b : ByteArray) (vs : List S24) (v : S24) (hd : ∀ x ∈ vs, deep 2 x) (hn : vs.length = v.f3.length) (hb : b.size ≤ 1048576)
include hd hn hb
theorem in_l : ∀ (d i : Nat), b.size - i = d → i ≤ b.size → ∀ acc : ByteArray, acc.size ≤ i → (foldS (b.data.toList.drop i) (acc.data.toList, prevB b i)).1 = T.data.toList →
    Ev (fun k => laws_FnInTwice.l0 k T vs true b vs true acc (i : Int) v.f0 v.f1 v.f2 v.f3) true := by
  intro d
  induction d with
  | zero =>
    intro i hd' hi acc ha hf
    have c1 : ¬ (i : Int) < (b.size : Int) := by omega
    rw [List.drop_eq_nil_of_le (by rw [list_size]; omega)] at hf
    have he : acc = T := ByteArray.ext (Array.toList_inj.1 hf)
    refine Ev.step (f := fun _ => some true) (fun k => ?_) (Ev.now _)
    simp only [laws_FnInTwice.l0]
    rw [if_neg c1, if_pos trivial, if_pos trivial, if_pos (by rw [he]), equal_self vs hd, Option.bind_some, if_pos rfl, hn]
    simp
  | succ d ih =>
    intro i hd' hi acc ha hf
    have hlt : i < b.size := by omega
    have c1 : (i : Int) < (b.size : Int) := by omega
    have c0 : (0 : Int) ≤ (i : Int) := by omega
    have hw := w64s i (by omega)
    have hbt := bt_s b i hlt
    rw [drop_byte b i hlt] at hf
    have hf' : (foldS (b.data.toList.drop (i + 1)) (stepS (acc.data.toList, prevB b i) (b[i]'hlt))).1 = T.data.toList := hf
    -- a byte that stays
    have hkeep : ¬ (b[i]'hlt = 32 ∧ prevB b i = 44) → Ev (fun k => laws_FnInTwice.j3 k T vs true b vs true acc (i : Int) false v.f0 v.f1 v.f2 v.f3) true := by
      intro hk
      have e2 : stepS (acc.data.toList, prevB b i) (b[i]'hlt) = (acc.data.toList ++ [b[i]'hlt], b[i]'hlt) := by
        unfold stepS
        rw [if_neg hk]
      rw [e2] at hf'
      have hx : (b.extract i (i + 1)).size = 1 := by rw [← list_size, one_byte b i hlt]; rfl
      refine Ev.step (fun k => ?_) (ih (i + 1) (by omega) (by omega) (acc ++ b.extract i (i + 1)) (by rw [ByteArray.size_append, hx]; omega) (by rw [app_list, one_byte b i hlt, prev_next b i hlt]; exact hf'))
      simp only [laws_FnInTwice.j3]
      rw [if_neg (by decide), if_pos c0, hw, if_pos (by omega), if_pos (by omega), Int.toNat_natCast, Int.toNat_natCast, if_pos (by rw [hx]; omega)]
    by_cases h32 : b[i]'hlt = 32
    · have hb32 : bt b (i : Int) = 32 := by
        rw [hbt, h32]
        rfl
      by_cases hi0 : i = 0
      · have hp : prevB b i ≠ 44 := by
          unfold prevB
          rw [dif_neg (by omega)]
          decide
        refine Ev.step (fun k => ?_) (hkeep (fun h => hp h.2))
        simp only [laws_FnInTwice.l0]
        rw [if_pos c1, if_pos c0, if_pos hb32, if_neg (by omega)]
      · have hw1 : wrap64 ((i : Int) - 1) = ((i - 1 : Nat) : Int) := by
          rw [IntWalk.wrap64_in _ (by omega)]
          omega
        have hpe : prevB b i = b[i - 1]'(by omega) := by
          unfold prevB
          rw [dif_pos ⟨by omega, by omega⟩]
        have hbt1 := bt_s b (i - 1) (by omega)
        have hstep : ∀ {r : Bool}, Ev (fun k => laws_FnInTwice.j3 k T vs true b vs true acc (i : Int) (((b[i - 1]'(by omega)).toNat : Int) == 44) v.f0 v.f1 v.f2 v.f3) r → Ev (fun k => laws_FnInTwice.l0 k T vs true b vs true acc (i : Int) v.f0 v.f1 v.f2 v.f3) r := fun h => Ev.step (fun k => by
          simp only [laws_FnInTwice.l0]
          rw [if_pos c1, if_pos c0, if_pos hb32, if_pos (by omega), hw1, if_pos (by omega), if_pos (by omega), hbt1]) h
        by_cases h44 : b[i - 1]'(by omega) = 44
        · have hf1 : (((b[i - 1]'(by omega)).toNat : Int) == 44) = true := by
            rw [h44]
            rfl
          have e2 : stepS (acc.data.toList, prevB b i) (b[i]'hlt) = (acc.data.toList, b[i]'hlt) := by
            unfold stepS
            rw [if_pos ⟨h32, hpe.trans h44⟩]
          rw [e2] at hf'
          refine hstep ?_
          rw [hf1]
          refine Ev.step (fun k => ?_) (ih (i + 1) (by omega) (by omega) acc (by omega) (by rw [prev_next b i hlt]; exact hf'))
          simp only [laws_FnInTwice.j3]
          rw [if_pos trivial, hw]
        · have hf1 : (((b[i - 1]'(by omega)).toNat : Int) == 44) = false := beq_eq_false_iff_ne.2 (fun h => h44 ((@byte_num _ 44).1 h))
          refine hstep ?_
          rw [hf1]
          exact hkeep (fun h => h44 (hpe.symm.trans h.2))
    · have hb32 : ¬ bt b (i : Int) = 32 := by
        rw [hbt]
        exact fun h => h32 ((@byte_num _ 32).1 h)
      refine Ev.step (fun k => ?_) (hkeep (fun h => h32 h.1))
      simp only [laws_FnInTwice.l0]
      rw [if_pos c1, if_pos c0, if_neg hb32]
end
theorem name_bytes {a : ByteArray} (h : ∀ j : Nat, j < a.size → bt a (j : Int) ≠ 44 ∧ bt a (j : Int) ≠ 32 ∧ bt a (j : Int) ≠ 63) : ∀ c ∈ a.data.toList, c ≠ 44 ∧ c ≠ 63 := by
  intro c hc
  obtain ⟨j, hj, rfl⟩ := List.mem_iff_getElem.1 hc
  have hj' : j < a.size := by rw [← list_size]; exact hj
  obtain ⟨h1, _, h2⟩ := h j hj'
  rw [bt_s a j hj'] at h1 h2
  exact ⟨fun e => h1 (by rw [show a[j]'hj' = 44 from e]; rfl), fun e => h2 (by rw [show a[j]'hj' = 63 from e]; rfl)⟩
theorem exp_one (a : ByteArray) (ha : a.size ≤ 40) (hc : ∀ c ∈ a.data.toList, c ≠ 44 ∧ c ≠ 63) (v : S24) (hv : rightR v) (h5 : v.f0 = 5) (hl : v.f3.length ≤ 12) (n : Nat) (hn : v.f3.length = n + 1) :
    impl_Expanded.f (a ++ (⟨#[32, 73, 78, 32, 40, 63, 41]⟩ : ByteArray)) [v] = some (⟨((a.data.toList ++ [32, 73, 78, 32, 40]) ++ 63 :: repQ n ++ [41]).toArray⟩, v.f3, true) := by
  have hne : v.f3.isEmpty = false := by
    cases hx : v.f3 with
    | nil =>
      rw [hx] at hn
      cases hn
    | cons y t => rfl
  have hE : hasE [v] = false := by simp [hasE, hne]
  have hL : hasL [v] = true := by simp [hasL, h5]
  have e : (a ++ (⟨#[32, 73, 78, 32, 40, 63, 41]⟩ : ByteArray)).data.toList = (a.data.toList ++ [32, 73, 78, 32, 40]) ++ 63 :: [41] := by simp
  have hin : inF (a ++ (⟨#[32, 73, 78, 32, 40, 63, 41]⟩ : ByteArray)) [v] = some (⟨((a.data.toList ++ [32, 73, 78, 32, 40]) ++ 63 :: repQ n ++ [41]).toArray⟩, v.f3) := by
    unfold inF
    rw [hE, hL, if_neg (by decide), if_neg (by decide), e, expL_pre [v] [] _ _ _ (fun c hcm => by
      rcases List.mem_append.1 hcm with h | h
      · exact (hc c h).2
      · simp at h
        rcases h with rfl | rfl | rfl | rfl | rfl <;> decide), expL_list _ _ _ _ _ h5, expL_end _ _ _ _ (by simp), if_pos rfl, hn]
    simp
  unfold impl_Expanded.f
  rw [if_pos ⟨by rw [ByteArray.size_append]; show a.size + 7 ≤ _; omega, by simp, by simp only [List.all_cons, List.all_nil, Bool.and_true, Bool.and_eq_true, decide_eq_true_eq]; exact ⟨(rightB_iff v).2 hv, by omega⟩⟩, hin]
theorem FnInTwice (a : ByteArray) (v : S24) : ∃ k, laws_FnInTwice.f k a v.f0 v.f1 v.f2 v.f3 = some true := by
  have j0T : Ev (fun k => laws_FnInTwice.j0 k a true v.f0 v.f1 v.f2 v.f3) true := Ev.step (f := fun _ => some true) (fun k => by simp only [laws_FnInTwice.j0]; rw [if_pos trivial]) (Ev.now _)
  have j1T : Ev (fun k => laws_FnInTwice.j1 k a true v.f0 v.f1 v.f2 v.f3) true := Ev.step (f := fun _ => some true) (fun k => by simp only [laws_FnInTwice.j1]; rw [if_pos trivial]) (Ev.now _)
  refine Ev.rounds (g := fun k => laws_FnInTwice.f k a v.f0 v.f1 v.f2 v.f3) ?_
  by_cases h1 : (a.size : Int) > 2147483647
  · exact Ev.congr (fun k => by simp only [laws_FnInTwice.f]; rw [if_pos h1]) j0T
  have hz : ∃ b, laws_zzFits2.f v.f0 v.f1 v.f2 v.f3 = some b := by
    unfold laws_zzFits2.f
    split
    · exact ⟨_, rfl⟩
    · split <;> exact ⟨_, rfl⟩
  obtain ⟨z, hz⟩ := hz
  refine Ev.congr (f := fun k => laws_FnInTwice.j0 k a (!z) v.f0 v.f1 v.f2 v.f3) (fun k => by simp only [laws_FnInTwice.f]; rw [if_neg h1, hz, Option.bind_some]) ?_
  cases z with
  | false => exact j0T
  | true =>
    obtain ⟨b, hN, hna⟩ := name_is a (by omega)
    obtain ⟨b2, hV, hv⟩ := value_right v
    refine Ev.step (f := fun k => (spec_NameOnly.f k a).bind fun t135 => (if t135 = true then ((spec_ValueRight.f k v.f0 v.f1 v.f2 v.f3 true).bind fun t136 => (if t136 = true then (if v.f0 = 5 then (if (v.f3.length : Int) = 0 then (laws_FnInTwice.j1 k a true v.f0 v.f1 v.f2 v.f3) else (laws_FnInTwice.j1 k a (decide ((a.size : Int) > 40)) v.f0 v.f1 v.f2 v.f3)) else (laws_FnInTwice.j1 k a true v.f0 v.f1 v.f2 v.f3)) else (laws_FnInTwice.j1 k a true v.f0 v.f1 v.f2 v.f3))) else (laws_FnInTwice.j1 k a true v.f0 v.f1 v.f2 v.f3))) (fun k => ?_) (Ev.bind hN ?_)
    · simp only [laws_FnInTwice.j0]
      rw [if_neg (by decide)]
    cases b with
    | false => exact Ev.congr (fun k => by rw [if_neg (by decide)]) j1T
    | true =>
      refine Ev.congr (f := fun k => (spec_ValueRight.f k v.f0 v.f1 v.f2 v.f3 true).bind fun t136 => (if t136 = true then (if v.f0 = 5 then (if (v.f3.length : Int) = 0 then (laws_FnInTwice.j1 k a true v.f0 v.f1 v.f2 v.f3) else (laws_FnInTwice.j1 k a (decide ((a.size : Int) > 40)) v.f0 v.f1 v.f2 v.f3)) else (laws_FnInTwice.j1 k a true v.f0 v.f1 v.f2 v.f3)) else (laws_FnInTwice.j1 k a true v.f0 v.f1 v.f2 v.f3))) (fun k => by rw [if_pos rfl]) (Ev.bind hV ?_)
      cases b2 with
      | false => exact Ev.congr (fun k => by rw [if_neg (by decide)]) j1T
      | true =>
        by_cases h5 : v.f0 = 5
        · by_cases hl0 : (v.f3.length : Int) = 0
          · exact Ev.congr (fun k => by rw [if_pos rfl, if_pos h5, if_pos hl0]) j1T
          · by_cases h40 : (a.size : Int) > 40
            · exact Ev.congr (fun k => by rw [if_pos rfl, if_pos h5, if_neg hl0, decide_eq_true h40]) j1T
            obtain ⟨hr, hl⟩ := hv rfl
            obtain ⟨n, hn⟩ : ∃ n, v.f3.length = n + 1 := ⟨v.f3.length - 1, by omega⟩
            have hne : v.f3 ≠ [] := fun h => hl0 (by rw [h]; rfl)
            have hc := name_bytes (hna rfl)
            have e1 : impl_EqOf.f [a] [v] = some (eqTxt false a v, v.f3, true) := by
              show eqF false [a] [v] = _
              simp only [eqF]
              rw [if_pos ⟨by omega, (rightB_iff v).2 hr, by omega⟩]
              unfold eqVals
              rw [if_neg (by omega), if_pos h5]
            have e2 := exp_one a (by omega) hc v hr h5 hl n hn
            have hd : ∀ x ∈ v.f3, deep 2 x := by
              rcases hr with ha | ⟨_, _, _, ha⟩
              · exact absurd h5 (by have := ha.2.1; omega)
              · exact fun x hx => right_deep (.inl (ha x hx))
            have hql := qm_len (n + 1)
            have hrl := repQ_len n
            have ht : (eqTxt false a v).data.toList = (a.data.toList ++ [32, 73, 78, 32, 40]) ++ qm (n + 1) ++ [41] := by
              unfold eqTxt
              rw [if_neg (by omega), if_pos h5, if_neg hne, if_neg (by decide), hn]
              simp
            have hbs : (⟨((a.data.toList ++ [32, 73, 78, 32, 40]) ++ 63 :: repQ n ++ [41]).toArray⟩ : ByteArray).size ≤ 1048576 := by
              show (((a.data.toList ++ [32, 73, 78, 32, 40]) ++ 63 :: repQ n ++ [41]).toArray).size ≤ _
              have hal : a.data.toList.length = a.size := list_size a
              simp only [List.size_toArray, List.length_append, List.length_cons, List.length_nil]
              omega
            have hfold : (foldS ((⟨((a.data.toList ++ [32, 73, 78, 32, 40]) ++ 63 :: repQ n ++ [41]).toArray⟩ : ByteArray).data.toList.drop 0) ((⟨#[]⟩ : ByteArray).data.toList, prevB ⟨((a.data.toList ++ [32, 73, 78, 32, 40]) ++ 63 :: repQ n ++ [41]).toArray⟩ 0)).1 = (eqTxt false a v).data.toList := by
              rw [ht]
              have hp0 : prevB ⟨((a.data.toList ++ [32, 73, 78, 32, 40]) ++ 63 :: repQ n ++ [41]).toArray⟩ 0 = 0 := by
                unfold prevB
                rw [dif_neg (by omega)]
              rw [hp0]
              show (foldS ((a.data.toList ++ [32, 73, 78, 32, 40]) ++ 63 :: repQ n ++ [41]) ([], 0)).1 = _
              obtain ⟨q, hq, hpre⟩ := foldS_pre (a.data.toList ++ [32, 73, 78, 32, 40]) [] 0 (fun c hcm => by
                rcases List.mem_append.1 hcm with h | h
                · exact (hc c h).1
                · simp at h
                  rcases h with rfl | rfl | rfl | rfl | rfl <;> decide) (by decide)
              have hm := foldS_marks n ([] ++ (a.data.toList ++ [32, 73, 78, 32, 40])) q hq
              unfold foldS at hpre hm ⊢
              rw [List.foldl_append, List.foldl_append, hpre, hm]
              show (stepS ([] ++ (a.data.toList ++ [32, 73, 78, 32, 40]) ++ qm (n + 1), 63) 41).1 = _
              unfold stepS
              rw [if_neg (fun h => by cases h.1), List.nil_append]
            have hrun := in_l (eqTxt false a v) _ v.f3 v hd rfl hbs _ 0 rfl (by omega) ⟨#[]⟩ (by show (0 : Nat) ≤ 0; omega) hfold
            refine Ev.congr (f := fun k => laws_FnInTwice.j1 k a false v.f0 v.f1 v.f2 v.f3) (fun k => by rw [if_pos rfl, if_pos h5, if_neg hl0, decide_eq_false h40]) (Ev.step (fun k => ?_) hrun)
            simp only [laws_FnInTwice.j1]
            rw [if_neg (by decide), eta_val, e1, Option.bind_some, if_pos (by omega), e2, Option.bind_some]
            rfl
        · exact Ev.congr (fun k => by rw [if_pos rfl, if_neg h5]) j1T
end Go.Proofs.Ytmiggjncmeomlaa.Pure
