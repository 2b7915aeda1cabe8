/-
  PROVED: 'laws.FnCompiledWritten', plain: a text that is written of names and texts has these names. No condition.
-/
import Derived.Test.YtnmhoghmhglimaaDoorSComp
import Derived.Test.YtnmhoghmhglimaaDoorQC9
namespace Go.Proofs.YtnmhoghmhglimaaDoor.Pure
open Go.RowKit Go.Proofs.YtnmhoghmhglimaaDoor.QC Go.Proofs.YtnmhoghmhglimaaDoor.H Go.Proofs.YtnmhoghmhglimaaDoor.SC Go.Proofs.YtnmhoghmhglimaaDoorW.PrintWords Go.Proofs.YtnmhoghmhglimaaDoorW.PrintLast Go.Proofs.YtnmhoghmhglimaaDoorW.PrintMore

theorem wBig (i : Nat) (h : i ≤ 4294967296) : wrap64 ((i : Int) + 1) = ((i + 1 : Nat) : Int) := by
  rw [IntWalk.wrap64_in _ (by omega)]
  omega
theorem fits_ev (l : List ByteArray) : ∃ b, Ev (fun k => laws_zzFits1.f k l) b ∧ (b = true → l.length ≤ 2147483647 ∧ ∀ x ∈ l, x.size ≤ 2147483647) := by
  by_cases h : (l.length : Int) > 2147483647
  · exact ⟨false, Ev.congr (fun k => by simp only [laws_zzFits1.f]; rw [if_pos h]) (Ev.now _), fun h => by cases h⟩
  have key : ∀ (d i : Nat), l.length - i = d → i ≤ l.length → ∃ b, Ev (fun k => laws_zzFits1.l0 k l (l.length : Int) (i : Int)) b ∧ (b = true → ∀ x ∈ l.drop i, x.size ≤ 2147483647) := by
    intro d
    induction d with
    | zero =>
      intro i hd hi
      have c1 : ¬ (i : Int) < (l.length : Int) := by omega
      exact ⟨true, Ev.step (f := fun _ => some true) (fun k => by simp only [laws_zzFits1.l0]; rw [if_neg c1]) (Ev.now _), fun _ => by rw [List.drop_eq_nil_of_le (by omega)]; simp⟩
    | succ d ih =>
      intro i hd hi
      have hlt : i < l.length := by omega
      have c1 : (i : Int) < (l.length : Int) := by omega
      have c0 : (0 : Int) ≤ (i : Int) := by omega
      have e1 := wBig i (by omega)
      have hr : rdOf ByteArray.empty l (i : Int) = l[i]'hlt := by simp [rdOf, hlt]
      obtain ⟨b, h1, h2⟩ := ih (i + 1) (by omega) (by omega)
      by_cases hb : ((l[i]'hlt).size : Int) > 2147483647
      · exact ⟨false, Ev.step (f := fun _ => some false) (fun k => by simp only [laws_zzFits1.l0]; rw [if_pos c1, if_pos c0, if_pos c1, hr, if_pos hb]) (Ev.now _), fun h => by cases h⟩
      · refine ⟨b, Ev.step (fun k => by simp only [laws_zzFits1.l0]; rw [if_pos c1, if_pos c0, if_pos c1, hr, if_neg hb, e1]) h1, fun hh => ?_⟩
        rw [List.drop_eq_getElem_cons hlt]
        exact List.forall_mem_cons.2 ⟨by omega, h2 hh⟩
  obtain ⟨b, h1, h2⟩ := key l.length 0 (by omega) (by omega)
  refine ⟨b, Ev.congr (fun k => by simp only [laws_zzFits1.f]; rw [if_neg h]; rfl) h1, fun hb => ⟨by omega, ?_⟩⟩
  have := h2 hb
  rwa [List.drop_zero] at this
theorem name_ev (s : ByteArray) (hs : s.size ≤ 2147483647) : ∃ b, Ev (fun k => spec_IsName.f k s) b ∧ (b = true → s.data.toList ≠ [] ∧ ∀ c ∈ s.data.toList, isNm c = true) := by
  have key : ∀ (d i : Nat), s.size - i = d → i ≤ s.size → ∃ b, Ev (fun k => spec_IsName.l0 k s (i : Int)) b ∧ (b = true → s.data.toList ≠ [] ∧ ∀ c ∈ s.data.toList.drop i, isNm c = true) := by
    intro d
    induction d with
    | zero =>
      intro i hd hi
      have c1 : ¬ (i : Int) < (s.size : Int) := by omega
      by_cases he : s.toList = ([] : List UInt8)
      · exact ⟨false, Ev.step (f := fun _ => some false) (fun k => by simp only [spec_IsName.l0]; rw [if_neg c1, if_pos he]) (Ev.now _), fun h => by cases h⟩
      · have hne : s.data.toList ≠ [] := by rwa [ByteArray.toList_eq] at he
        have hpos : 1 ≤ s.size := by
          have hl : s.data.toList.length = s.size := Array.length_toList
          have := List.length_pos_iff.2 hne
          omega
        have e1 : wrap64 ((s.size : Int) - 1) = ((s.size - 1 : Nat) : Int) := by
          rw [IntWalk.wrap64_in _ (by omega)]
          omega
        have c2 : (0 : Int) ≤ ((s.size - 1 : Nat) : Int) := by omega
        have c3 : ((s.size - 1 : Nat) : Int) < (s.size : Int) := by omega
        have hd2 : ∀ c ∈ s.data.toList.drop i, isNm c = true := by
          rw [drop_end s i (by omega)]
          simp
        by_cases h95 : bt s ((s.size - 1 : Nat) : Int) = 95
        · exact ⟨false, Ev.step (f := fun _ => some false) (fun k => by simp only [spec_IsName.l0]; rw [if_neg c1, if_neg he, e1, if_pos c2, if_pos c3, if_pos h95]) (Ev.now _), fun h => by cases h⟩
        · exact ⟨bt s ((s.size - 1 : Nat) : Int) != 46, Ev.step (f := fun _ => some (bt s ((s.size - 1 : Nat) : Int) != 46)) (fun k => by simp only [spec_IsName.l0]; rw [if_neg c1, if_neg he, e1, if_pos c2, if_pos c3, if_neg h95]) (Ev.now _), fun _ => ⟨hne, hd2⟩⟩
    | succ d ih =>
      intro i hd hi
      have hlt : i < s.size := by omega
      have c1 : (i : Int) < (s.size : Int) := by omega
      have c0 : (0 : Int) ≤ (i : Int) := by omega
      have e1 := wBig i (by omega)
      obtain ⟨b, h1, h2⟩ := ih (i + 1) (by omega) (by omega)
      have hb := bt_n s i hlt
      cases hn : isNm (s[i]'hlt) with
      | false => exact ⟨false, Ev.step (f := fun _ => some false) (fun k => by simp only [spec_IsName.l0]; rw [if_pos c1, if_pos c0, hb, name_byte, hn, Option.bind_some, if_neg (by decide)]) (Ev.now _), fun h => by cases h⟩
      | true =>
        refine ⟨b, Ev.step (fun k => by simp only [spec_IsName.l0]; rw [if_pos c1, if_pos c0, hb, name_byte, hn, Option.bind_some, if_pos rfl, e1]) h1, fun hh => ⟨(h2 hh).1, ?_⟩⟩
        rw [drop_cons s i hlt]
        exact List.forall_mem_cons.2 ⟨hn, (h2 hh).2⟩
  obtain ⟨b, h1, h2⟩ := key s.size 0 (by omega) (by omega)
  refine ⟨b, Ev.congr (fun k => by simp only [spec_IsName.f]; rfl) h1, fun hb => ?_⟩
  have := h2 hb
  rwa [List.drop_zero] at this
theorem gap_ev (s : ByteArray) (hs : s.size ≤ 2147483647) : ∃ b, Ev (fun k => spec_IsGap.f k s) b ∧ (b = true → IsGapL s.data.toList) := by
  have key : ∀ (d i : Nat), s.size - i = d → i ≤ s.size → ∃ b, Ev (fun k => spec_IsGap.l0 k s (i : Int)) b ∧ (b = true → ∀ c ∈ s.data.toList.drop i, c ≠ 58) := by
    intro d
    induction d with
    | zero =>
      intro i hd hi
      have c1 : ¬ (i : Int) < (s.size : Int) := by omega
      exact ⟨true, Ev.step (f := fun _ => some true) (fun k => by simp only [spec_IsGap.l0]; rw [if_neg c1]) (Ev.now _), fun _ => by rw [drop_end s i (by omega)]; simp⟩
    | succ d ih =>
      intro i hd hi
      have hlt : i < s.size := by omega
      have c1 : (i : Int) < (s.size : Int) := by omega
      have c0 : (0 : Int) ≤ (i : Int) := by omega
      have e1 := wBig i (by omega)
      obtain ⟨b, h1, h2⟩ := ih (i + 1) (by omega) (by omega)
      have hb := bt_n s i hlt
      by_cases h58 : s[i]'hlt = 58
      · exact ⟨false, Ev.step (f := fun _ => some false) (fun k => by simp only [spec_IsGap.l0]; rw [if_pos c1, if_pos c0, hb, if_pos ((byte_eq (c := 58) (k := 58) rfl).2 h58)]) (Ev.now _), fun h => by cases h⟩
      · refine ⟨b, Ev.step (fun k => by simp only [spec_IsGap.l0]; rw [if_pos c1, if_pos c0, hb, if_neg (fun h => h58 ((byte_eq (c := 58) (k := 58) rfl).1 h)), e1]) h1, fun hh => ?_⟩
        rw [drop_cons s i hlt]
        exact List.forall_mem_cons.2 ⟨h58, h2 hh⟩
  have hjt : Ev (fun k => spec_IsGap.j0 k s true) false := Ev.step (f := fun _ => some false) (fun k => by simp only [spec_IsGap.j0]; rw [if_pos trivial]) (Ev.now _)
  by_cases he : s.toList = ([] : List UInt8)
  · exact ⟨false, Ev.congr (fun k => by simp only [spec_IsGap.f]; rw [if_pos he]) hjt, fun h => by cases h⟩
  · have hne : s.data.toList ≠ [] := by rwa [ByteArray.toList_eq] at he
    have hpos : 0 < s.size := by
      have hl : s.data.toList.length = s.size := Array.length_toList
      have := List.length_pos_iff.2 hne
      omega
    have c1 : (0 : Int) < (s.size : Int) := by omega
    have hb : bt s 0 = ((s[0]'hpos).toNat : Int) := bt_n s 0 hpos
    have hcons := drop_cons s 0 hpos
    rw [List.drop_zero] at hcons
    obtain ⟨b, h1, h2⟩ := key s.size 0 (by omega) (by omega)
    rw [List.drop_zero] at h2
    cases hn : isNm (s[0]'hpos) with
    | true => exact ⟨false, Ev.congr (fun k => by simp only [spec_IsGap.f]; rw [if_neg he, if_pos c1, hb, name_byte, hn, Option.bind_some, if_pos rfl]) hjt, fun h => by cases h⟩
    | false =>
      by_cases h128 : 128 ≤ (s[0]'hpos).toNat
      · have hd : decide (bt s 0 ≥ 128) = true := decide_eq_true (by rw [hb]; exact (ge128 _).2 h128)
        exact ⟨false, Ev.congr (fun k => by simp only [spec_IsGap.f]; rw [if_neg he, if_pos c1, hd, hb, name_byte, hn, Option.bind_some, if_neg (by decide)]) hjt, fun h => by cases h⟩
      · have hd : decide (bt s 0 ≥ 128) = false := decide_eq_false (by rw [hb]; exact fun h => h128 ((ge128 _).1 h))
        refine ⟨b, Ev.congr (f := fun k => spec_IsGap.j0 k s false) (fun k => by simp only [spec_IsGap.f]; rw [if_neg he, if_pos c1, hd, hb, name_byte, hn, Option.bind_some, if_neg (by decide)]) (Ev.step (fun k => by simp only [spec_IsGap.j0]; rw [if_neg (by decide)]; rfl) h1), fun hh => ⟨_, _, hcons, hn, by omega, h2 hh⟩⟩
/-- Names and texts, side by side. -/
def pairs (names texts : List ByteArray) : List (List UInt8 × List UInt8) := (names.zip texts).map fun p => (p.1.data.toList, p.2.data.toList)
theorem pairs_len (a b : List ByteArray) (h : b.length = a.length) : (pairs a b).length = a.length := by simp [pairs, h]
theorem pairs_names (a b : List ByteArray) (h : b.length = a.length) : textsL ((pairs a b).map (·.1)) = a := by
  have h2 : (a.zip b).map Prod.fst = a := List.map_fst_zip (by omega)
  have : textsL ((pairs a b).map (·.1)) = (a.zip b).map Prod.fst := by
    simp only [textsL, pairs, List.map_map]
    rfl
  rw [this, h2]
theorem wrote_snoc : ∀ (l : List (List UInt8 × List UInt8)) (p : List UInt8 × List UInt8), wroteL (l ++ [p]) = wroteL l ++ (58 :: (p.1 ++ p.2))
  | [], (n, x) => by simp [wroteL]
  | (n, x) :: t, p => by
    rw [List.cons_append, wroteL, wrote_snoc t p, wroteL]
    simp
theorem want_snoc (kind : Int) : ∀ (l : List (List UInt8 × List UInt8)) (p : List UInt8 × List UInt8) (i : Nat), wantL kind (l ++ [p]) i = wantL kind l i ++ (markC kind (i + l.length + 1) p.1 ++ p.2)
  | [], (n, x), i => by simp [wantL]
  | (n, x) :: t, p, i => by
    rw [List.cons_append, wantL, want_snoc kind t p, wantL]
    simp only [List.length_cons, List.append_assoc]
    rw [show i + 1 + t.length + 1 = i + (t.length + 1) + 1 by omega]
theorem written_ev (l0 l1 : List ByteArray) (a2 kd : Int) (hk : laws_kind9.f a2 = some kd) (k0 : 0 ≤ kd ∧ kd ≤ 4) (hlen : l0.length = l1.length) (h20 : l1.length ≤ 20) (hf0 : ∀ x ∈ l0, x.size ≤ 2147483647) (hf1 : ∀ x ∈ l1, x.size ≤ 2147483647) :
    ∀ (d i : Nat), l1.length - i = d → i ≤ l1.length → (∀ p ∈ (pairs l1 l0).take i, p.1 ≠ [] ∧ (∀ c ∈ p.1, isNm c = true) ∧ IsGapL p.2) → (wroteL ((pairs l1 l0).take i)).length ≤ i * 101 → (wantL kd ((pairs l1 l0).take i) 0).length ≤ i * 200 →
      Ev (fun k => laws_FnCompiledWritten.l0 k l0 l1 a2 ⟨(wroteL ((pairs l1 l0).take i)).toArray⟩ ⟨(wantL kd ((pairs l1 l0).take i) 0).toArray⟩ (i : Int)) true := by
  have hpl := pairs_len l1 l0 hlen
  have hj3 : ∀ a b (i : Int), Ev (fun k => laws_FnCompiledWritten.j3 k l0 l1 a2 a b i true) true := fun a b i => Ev.step (f := fun _ => some true) (fun k => by simp only [laws_FnCompiledWritten.j3]; rw [if_pos trivial]) (Ev.now _)
  intro d
  induction d with
  | zero =>
    intro i hd hi hp hw1 hw2
    have c1 : ¬ (i : Int) < (l1.length : Int) := by omega
    have ht : (pairs l1 l0).take i = pairs l1 l0 := List.take_of_length_le (by omega)
    rw [ht] at hp hw1 hw2 ⊢
    have hrun := run_wrote kd (pairs l1 l0) [] [] [] hp
    rw [List.nil_append, List.nil_append] at hrun
    have hsz : (⟨(wroteL (pairs l1 l0)).toArray⟩ : ByteArray).size ≤ 1048576 := by rw [mk_size]; omega
    have himp : impl_Compiled.f kd ⟨(wroteL (pairs l1 l0)).toArray⟩ = some (⟨(wantL kd (pairs l1 l0) 0).toArray⟩, l1, true) := by
      unfold impl_Compiled.f
      rw [if_pos ⟨hsz, k0.1, k0.2⟩]
      show some (match runC kd (wroteL (pairs l1 l0)) false [] [] [] with
        | some (nms, out) => ((⟨out.toArray⟩ : ByteArray), textsL nms, true)
        | none => (⟨#[]⟩, [], false)) = _
      rw [hrun]
      simp only [pairs_names l1 l0 hlen]
      rfl
    refine Ev.step (f := fun k => (laws_sameTexts9.f k l1 l1).bind fun t => some t) (fun k => ?_) (Ev.bind (same_ev l1 (by omega)) (Ev.now _))
    simp only [laws_FnCompiledWritten.l0]
    rw [if_neg c1, hk, Option.bind_some, himp]
    simp only [Option.bind_some, if_true]
  | succ d ih =>
    intro i hd hi hp hw1 hw2
    have hlt : i < l1.length := by omega
    have hlt0 : i < l0.length := by omega
    have c1 : (i : Int) < (l1.length : Int) := by omega
    have c10 : (i : Int) < (l0.length : Int) := by omega
    have c0 : (0 : Int) ≤ (i : Int) := by omega
    have e1 := wBig i (by omega)
    have hr1 : rdOf ByteArray.empty l1 (i : Int) = l1[i]'hlt := by simp [rdOf, hlt]
    have hr0 : rdOf ByteArray.empty l0 (i : Int) = l0[i]'hlt0 := by simp [rdOf, hlt0]
    obtain ⟨nb, hn1, hn2⟩ := name_ev (l1[i]'hlt) (hf1 _ (List.getElem_mem hlt))
    obtain ⟨gb, hg1, hg2⟩ := gap_ev (l0[i]'hlt0) (hf0 _ (List.getElem_mem hlt0))
    refine Ev.step (f := fun k => (spec_IsName.f k (l1[i]'hlt)).bind fun t188 => (if t188 = true then ((spec_IsGap.f k (l0[i]'hlt0)).bind fun t190 => (if t190 = true then (if ((l1[i]'hlt).size : Int) > 50 then (laws_FnCompiledWritten.j3 k l0 l1 a2 ⟨(wroteL ((pairs l1 l0).take i)).toArray⟩ ⟨(wantL kd ((pairs l1 l0).take i) 0).toArray⟩ (i : Int) true) else (laws_FnCompiledWritten.j3 k l0 l1 a2 ⟨(wroteL ((pairs l1 l0).take i)).toArray⟩ ⟨(wantL kd ((pairs l1 l0).take i) 0).toArray⟩ (i : Int) (decide (((l0[i]'hlt0).size : Int) > 50)))) else (laws_FnCompiledWritten.j3 k l0 l1 a2 ⟨(wroteL ((pairs l1 l0).take i)).toArray⟩ ⟨(wantL kd ((pairs l1 l0).take i) 0).toArray⟩ (i : Int) true))) else (laws_FnCompiledWritten.j3 k l0 l1 a2 ⟨(wroteL ((pairs l1 l0).take i)).toArray⟩ ⟨(wantL kd ((pairs l1 l0).take i) 0).toArray⟩ (i : Int) true))) (fun k => ?_) (Ev.bind hn1 ?_)
    · simp only [laws_FnCompiledWritten.l0]
      rw [if_pos c1, if_pos c0, hr1, hr0, if_pos c10]
    cases nb with
    | false => exact Ev.congr (fun k => by rw [if_neg (by decide)]) (hj3 _ _ _)
    | true =>
      refine Ev.congr (fun k => by rw [if_pos rfl]) (Ev.bind hg1 ?_)
      cases gb with
      | false => exact Ev.congr (fun k => by rw [if_neg (by decide)]) (hj3 _ _ _)
      | true =>
        by_cases h50 : ((l1[i]'hlt).size : Int) > 50
        · exact Ev.congr (fun k => by rw [if_pos rfl, if_pos h50]) (hj3 _ _ _)
        refine Ev.congr (fun k => by rw [if_pos rfl, if_neg h50]) ?_
        by_cases h51 : ((l0[i]'hlt0).size : Int) > 50
        · rw [decide_eq_true h51]
          exact hj3 _ _ _
        rw [decide_eq_false h51]
        obtain ⟨n, hn⟩ : ∃ n, n = (l1[i]'hlt).data.toList := ⟨_, rfl⟩
        obtain ⟨x, hx⟩ : ∃ x, x = (l0[i]'hlt0).data.toList := ⟨_, rfl⟩
        have en : l1[i]'hlt = ⟨n.toArray⟩ := by rw [hn]
        have ex : l0[i]'hlt0 = ⟨x.toArray⟩ := by rw [hx]
        have ln : n.length ≤ 50 := by
          have : n.length = (l1[i]'hlt).size := by rw [hn]; exact Array.length_toList
          omega
        have lx : x.length ≤ 50 := by
          have : x.length = (l0[i]'hlt0).size := by rw [hx]; exact Array.length_toList
          omega
        have htake : (pairs l1 l0).take (i + 1) = (pairs l1 l0).take i ++ [(n, x)] := by
          rw [List.take_add_one, List.getElem?_eq_getElem (by omega)]
          simp [pairs, hn, hx]
        have hwl : ((pairs l1 l0).take i).length = i := by rw [List.length_take]; omega
        have hm := mark_is kd (i + 1) (by omega) n (by omega)
        have hml := markC_le kd (i + 1) n (by omega)
        have hih := ih (i + 1) (by omega) (by omega) (by
          rw [htake]
          intro p hpp
          rcases List.mem_append.1 hpp with h | h
          · exact hp p h
          · rw [List.mem_singleton.1 h, hn, hx]
            exact ⟨(hn2 rfl).1, (hn2 rfl).2, hg2 rfl⟩) (by rw [htake, wrote_snoc, List.length_append, List.length_cons, List.length_append]; simp only []; omega) (by rw [htake, want_snoc, hwl, Nat.zero_add, List.length_append, List.length_append]; simp only []; omega)
        rw [htake, wrote_snoc, want_snoc, hwl, Nat.zero_add] at hih
        rw [en] at hr1
        rw [ex] at hr0
        generalize wroteL ((pairs l1 l0).take i) = W1 at *
        generalize wantL kd ((pairs l1 l0).take i) 0 = W2 at *
        have s1 : (⟨#[58]⟩ : ByteArray) ++ ⟨n.toArray⟩ ++ ⟨x.toArray⟩ = ⟨(58 :: (n ++ x)).toArray⟩ := by
          rw [show (⟨#[58]⟩ : ByteArray) = ⟨[58].toArray⟩ from rfl, cat_mk, cat_mk]
          rfl
        have d1 : 1 + (⟨n.toArray⟩ : ByteArray).size ≤ 9223372036854775807 := by rw [mk_size]; omega
        have d2 : ((⟨#[58]⟩ : ByteArray) ++ ⟨n.toArray⟩).size + (⟨x.toArray⟩ : ByteArray).size ≤ 9223372036854775807 := by
          rw [show (⟨#[58]⟩ : ByteArray) = ⟨[58].toArray⟩ from rfl, cat_mk, mk_size, mk_size, List.length_append]
          simp only [List.length_cons, List.length_nil]
          omega
        have d3 : (⟨W1.toArray⟩ : ByteArray).size + ((⟨#[58]⟩ : ByteArray) ++ ⟨n.toArray⟩ ++ ⟨x.toArray⟩).size ≤ 9223372036854775807 := by
          rw [s1, mk_size, mk_size, List.length_cons, List.length_append]
          omega
        have d4 : (⟨(markC kd (i + 1) n).toArray⟩ : ByteArray).size + (⟨x.toArray⟩ : ByteArray).size ≤ 9223372036854775807 := by rw [mk_size, mk_size]; omega
        have d5 : (⟨W2.toArray⟩ : ByteArray).size + ((⟨(markC kd (i + 1) n).toArray⟩ : ByteArray) ++ ⟨x.toArray⟩).size ≤ 9223372036854775807 := by
          rw [cat_mk, mk_size, mk_size, List.length_append]
          omega
        refine Ev.step (f := fun k => (spec_Mark.f k kd ((i + 1 : Nat) : Int) ⟨n.toArray⟩).bind fun t197 => (if t197.size + (⟨x.toArray⟩ : ByteArray).size ≤ 9223372036854775807 then (if (⟨W2.toArray⟩ : ByteArray).size + (t197 ++ ⟨x.toArray⟩).size ≤ 9223372036854775807 then (laws_FnCompiledWritten.l0 k l0 l1 a2 ((⟨W1.toArray⟩ : ByteArray) ++ ((⟨#[58]⟩ : ByteArray) ++ ⟨n.toArray⟩ ++ ⟨x.toArray⟩)) ((⟨W2.toArray⟩ : ByteArray) ++ (t197 ++ ⟨x.toArray⟩)) ((i + 1 : Nat) : Int)) else none) else none)) (fun k => ?_) (Ev.bind hm ?_)
        · simp only [laws_FnCompiledWritten.j3]
          rw [if_neg (by decide), if_pos c0, if_pos c1, hr1, if_pos d1, if_pos c10, hr0, if_pos d2, if_pos d3, hk, Option.bind_some, e1]
        · refine Ev.congr (fun k => ?_) hih
          rw [if_pos d4, if_pos d5, s1, cat_mk, cat_mk, cat_mk]
theorem FnCompiledWritten (l0 l1 : List ByteArray) (a2 : Int) (h : (Lit.int .u8 a2).wf = true) : ∃ k, laws_FnCompiledWritten.f k l0 l1 a2 = some true := by
  obtain ⟨kd, hk, k0, k4⟩ := kind_is a2 h
  have hj0 : Ev (fun k => laws_FnCompiledWritten.j0 k l0 l1 a2 true) true := Ev.step (f := fun _ => some true) (fun k => by simp only [laws_FnCompiledWritten.j0]; rw [if_pos trivial]) (Ev.now _)
  have hj1 : Ev (fun k => laws_FnCompiledWritten.j1 k l0 l1 a2 true) true := Ev.step (f := fun _ => some true) (fun k => by simp only [laws_FnCompiledWritten.j1]; rw [if_pos trivial]) (Ev.now _)
  refine Ev.rounds (g := fun k => laws_FnCompiledWritten.f k l0 l1 a2) ?_
  obtain ⟨b0, f0, g0⟩ := fits_ev l0
  obtain ⟨b1, f1, g1⟩ := fits_ev l1
  refine Ev.congr (f := fun k => (laws_zzFits1.f k l0).bind fun t178 => (if t178 = true then ((laws_zzFits1.f k l1).bind fun t179 => (laws_FnCompiledWritten.j0 k l0 l1 a2 (!t179))) else (laws_FnCompiledWritten.j0 k l0 l1 a2 true))) (fun k => rfl) (Ev.bind f0 ?_)
  cases b0 with
  | false => exact Ev.congr (fun k => by rw [if_neg (by decide)]) hj0
  | true =>
    refine Ev.congr (fun k => by rw [if_pos rfl]) (Ev.bind f1 ?_)
    cases b1 with
    | false => exact hj0
    | true =>
      by_cases hl : (l0.length : Int) = (l1.length : Int)
      · by_cases h20 : (l1.length : Int) > 20
        · exact Ev.step (fun k => by simp only [laws_FnCompiledWritten.j0]; rw [if_neg (by decide), if_pos hl, decide_eq_true h20]) hj1
        · have := written_ev l0 l1 a2 kd hk ⟨k0, k4⟩ (by omega) (by omega) (g0 rfl).2 (g1 rfl).2 l1.length 0 (by omega) (by omega) (by simp) (by simp [wroteL]) (by simp [wantL])
          refine Ev.step (f := fun k => laws_FnCompiledWritten.j1 k l0 l1 a2 false) (fun k => by simp only [laws_FnCompiledWritten.j0]; rw [if_neg (by decide), if_pos hl, decide_eq_false h20]) (Ev.step (fun k => ?_) this)
          simp only [laws_FnCompiledWritten.j1]
          rw [if_neg (by decide)]
          rfl
      · exact Ev.step (fun k => by simp only [laws_FnCompiledWritten.j0]; rw [if_neg (by decide), if_neg hl]) hj1
end Go.Proofs.YtnmhoghmhglimaaDoor.Pure
