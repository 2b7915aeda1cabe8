/-
  PROVED: 'laws.FnCompiledKinds': compiled for question marks and bound again is compiled for a kind. No condition.
-/
import Derived.Test.YtnmhoghmhglimaaDoorSLaw
import Derived.Test.YtnmhoghmhglimaaDoorQC11
namespace Go.Proofs.YtnmhoghmhglimaaDoor.Pure
open Go.RowKit Go.Proofs.YtnmhoghmhglimaaDoor.QC Go.Proofs.YtnmhoghmhglimaaDoor.H Go.Proofs.YtnmhoghmhglimaaDoor.SC Go.Proofs.YtnmhoghmhglimaaDoorW.PrintWords Go.Proofs.YtnmhoghmhglimaaDoorW.PrintLast Go.Proofs.YtnmhoghmhglimaaDoorW.PrintMore

theorem marks_none (s : ByteArray) (hs : s.size ≤ 1000) : ∀ (d i n : Nat), s.size - i = d → i ≤ s.size → n ≤ i → ∃ m : Nat, Ev (fun k => laws_marks9.l0 k s (n : Int) (i : Int)) (m : Int) ∧ n ≤ m ∧ (m = n → ∀ c ∈ s.data.toList.drop i, c ≠ 63) := by
  intro d
  induction d with
  | zero =>
    intro i n hd hi hn
    have c1 : ¬ (i : Int) < (s.size : Int) := by omega
    refine ⟨n, Ev.step (f := fun _ => some (n : Int)) (fun k => by simp only [laws_marks9.l0]; rw [if_neg c1]) (Ev.now _), Nat.le_refl _, fun _ => ?_⟩
    rw [drop_end s i (by omega)]
    simp
  | succ d ih =>
    intro i n hd hi hn
    have hlt : i < s.size := by omega
    have c1 : (i : Int) < (s.size : Int) := by omega
    have c0 : (0 : Int) ≤ (i : Int) := by omega
    have e1 : wrap64 ((i : Int) + 1) = ((i + 1 : Nat) : Int) := w64n i 1 (i + 1) (by omega) (by omega)
    have e2 : wrap64 ((n : Int) + 1) = ((n + 1 : Nat) : Int) := w64n n 1 (n + 1) (by omega) (by omega)
    obtain ⟨m1, a1, b1, d1⟩ := ih (i + 1) (n + 1) (by omega) (by omega) (by omega)
    obtain ⟨m2, a2, b2, d2⟩ := ih (i + 1) n (by omega) (by omega) (by omega)
    have hb := bt_n s i hlt
    by_cases h : s[i]'hlt = 63
    · refine ⟨m1, Ev.step (fun k => ?_) a1, by omega, fun h => by omega⟩
      simp only [laws_marks9.l0]
      rw [if_pos c1, if_pos c0, hb, if_pos ((byte_eq (c := 63) (k := 63) rfl).2 h), e1, e2]
    · refine ⟨m2, Ev.step (fun k => ?_) a2, b2, fun hm => ?_⟩
      · simp only [laws_marks9.l0]
        rw [if_pos c1, if_pos c0, hb, if_neg (fun h2 => h ((byte_eq (c := 63) (k := 63) rfl).1 h2)), e1]
      · rw [drop_cons s i hlt]
        exact List.forall_mem_cons.2 ⟨h, d2 hm⟩
theorem reb_tB (kind : Int) (hk : kind = 2 ∨ kind = 4) : ∀ (l : List (Bool × List UInt8)) (n : Nat), (∀ p ∈ l, ∀ c ∈ p.2, c ≠ 63) → rebL kind n (tB 1 l n) = tB kind l n
  | [], n, h => rfl
  | (true, x) :: t, n, h => by
    have ht := (List.forall_mem_cons.1 h).2
    rw [tB, tB]
    show rebL kind n (63 :: tB 1 t (n + 1)) = _
    rw [rebL, if_pos rfl, reb_tB kind hk t (n + 1) ht]
    rcases hk with rfl | rfl <;> rfl
  | (false, x) :: t, n, h => by
    have h1 := List.forall_mem_cons.1 h
    rw [tB, tB, rebL_pre kind n x _ h1.1, reb_tB kind hk t n h1.2]
theorem tB_01 (kind : Int) (hk : kind = 0 ∨ kind = 1) : ∀ (l : List (Bool × List UInt8)) (n : Nat), tB kind l n = tB 1 l n
  | [], n => rfl
  | (true, x) :: t, n => by
    rw [tB, tB, tB_01 kind hk t]
    rcases hk with rfl | rfl <;> rfl
  | (false, x) :: t, n => by rw [tB, tB, tB_01 kind hk t]
theorem tB_len : ∀ (l : List (Bool × List UInt8)) (n M : Nat), (∀ p ∈ l, p.2.length ≤ M) → (tB 1 l n).length ≤ l.length * (M + 1)
  | [], n, M, h => by simp [tB]
  | (true, x) :: t, n, M, h => by
    have h1 := List.forall_mem_cons.1 h
    have := tB_len t (n + 1) M h1.2
    rw [tB, List.length_append, List.length_cons, Nat.succ_mul]
    have e : (markC 1 (n + 1) x).length = 1 := rfl
    omega
  | (false, x) :: t, n, M, h => by
    have h1 := List.forall_mem_cons.1 h
    have := tB_len t n M h1.2
    rw [tB, List.length_append, List.length_cons, Nat.succ_mul]
    have : x.length ≤ M := h1.1
    omega
theorem reb_at : impl_Rebound.f 4 (⟨#[63]⟩ : ByteArray) = some ⟨#[64, 112, 49]⟩ := by
  have : Lib.itoa ((0 + 1 : Nat) : Int) = [49] := by rw [Lib.itoa, if_neg (by omega)]; exact Lib.decDigits_one (by omega)
  have e : (⟨(rebL 4 0 (⟨#[63]⟩ : ByteArray).data.toList).toArray⟩ : ByteArray) = ⟨#[64, 112, 49]⟩ := by
    show (⟨(rebL 4 0 [63]).toArray⟩ : ByteArray) = _
    rw [rebL, if_pos rfl, this]
    rfl
  simp only [impl_Rebound.f, sqlx_Rebind.f]
  rw [if_pos (by decide), if_neg (by decide), e]
  rfl
theorem FnCompiledKinds : laws_FnCompiledKinds.Pure := by
  intro s a1 _ h0
  have hjt : ∀ s, Ev (fun k => laws_FnCompiledKinds.j0 k s a1 true) true := fun s => Ev.step (f := fun _ => some true) (fun k => by simp only [laws_FnCompiledKinds.j0]; rw [if_pos trivial]) (Ev.now _)
  refine Ev.rounds (g := fun k => laws_FnCompiledKinds.f k s a1) ?_
  by_cases h1 : (s.size : Int) > 2147483647
  · exact Ev.congr (fun k => by simp only [laws_FnCompiledKinds.f]; rw [if_pos h1]) (Ev.now true)
  by_cases h2 : (s.size : Int) > 1000
  · exact Ev.congr (fun k => by simp only [laws_FnCompiledKinds.f]; rw [if_neg h1, if_pos h2]) (hjt s)
  have hs : s.size ≤ 1000 := by omega
  obtain ⟨kd, hk, k0, k4⟩ := kind_is a1 h0
  by_cases h3 : kd = 3
  · exact Ev.congr (fun k => by simp only [laws_FnCompiledKinds.f]; rw [if_neg h1, if_neg h2, hk, Option.bind_some, if_pos h3]) (hjt s)
  obtain ⟨m, hm, _, hm0⟩ := marks_none s hs s.size 0 0 (by omega) (by omega) (by omega)
  have hmm : Ev (fun k => laws_marks9.f k s) (m : Int) := Ev.congr (fun k => rfl) hm
  refine Ev.congr (f := fun k => (laws_marks9.f k s).bind fun t201 => (laws_FnCompiledKinds.j0 k s a1 (decide (t201 > 0)))) (fun k => by simp only [laws_FnCompiledKinds.f]; rw [if_neg h1, if_neg h2, hk, Option.bind_some, if_neg h3]) (Ev.bind hmm ?_)
  by_cases hz : m = 0
  · have hno := hm0 hz
    rw [List.drop_zero] at hno
    have hd : decide ((m : Int) > 0) = false := decide_eq_false (by omega)
    rw [hd]
    refine Ev.step (f := fun k => (spec_Compiled.f k 1 s).bind fun bt202 => (if bt202.2.2.2 = true then ((impl_Compiled.f 1 s).bind fun bt208 => ((laws_kind9.f a1).bind fun t213 => ((impl_Compiled.f t213 s).bind fun bt214 => (if (bt208.2.2 == bt214.2.2) = true then (if bt208.2.2 = true then ((laws_kind9.f a1).bind fun t219 => ((impl_Rebound.f t219 bt208.1).bind fun t220 => (if t220.toList = bt214.1.toList then ((laws_sameTexts9.f k bt208.2.1 bt214.2.1).bind fun t221 => (if t221 = true then ((impl_Rebound.f 4 (⟨#[63]⟩ : ByteArray)).bind fun t222 => (some (t222.toList == ([64, 112, 49] : List UInt8)))) else (some false))) else (some false)))) else ((impl_Rebound.f 4 (⟨#[63]⟩ : ByteArray)).bind fun t223 => (some (t223.toList == ([64, 112, 49] : List UInt8))))) else (some false))))) else (some true))) (fun k => by simp only [laws_FnCompiledKinds.j0]; rw [if_neg (by decide)]) (Ev.bind (compiled_is 1 s (by omega)) ?_)
    have hlast : ((⟨#[64, 112, 49]⟩ : ByteArray).toList == ([64, 112, 49] : List UInt8)) = true := by
      rw [ByteArray.toList_eq]
      rfl
    by_cases hsure : (bitsOf s).2.2 = true
    · rcases law_sure s (by omega) hsure with ⟨more, _, hml, hpl, hmem, _, h⟩ | h
      · obtain ⟨e1, e2⟩ := h 1 (by decide) (by decide)
        obtain ⟨_, e3⟩ := h kd k0 k4
        have hn := names_short more 1048576 (by omega)
        have hlen : (tB 1 more 0).length ≤ 1048576 := by
          have h5 := tB_len more 0 1001 (fun p hp => by have := hpl p hp; omega)
          have h6 := Nat.mul_le_mul_right 1002 (show more.length ≤ 1000 by omega)
          omega
        have hq : ∀ p ∈ more, ∀ c ∈ p.2, c ≠ 63 := fun p hp c hc => hno c (hmem p hp c hc)
        have hr : impl_Rebound.f kd ⟨(tB 1 more 0).toArray⟩ = some ⟨(tB kd more 0).toArray⟩ := by
          simp only [impl_Rebound.f, sqlx_Rebind.f]
          have hsz : (⟨(tB 1 more 0).toArray⟩ : ByteArray).size ≤ 1048576 := hlen
          rw [if_pos hsz, Option.bind_some]
          by_cases h01 : kd = 1 ∨ kd = 0
          · rw [if_pos h01, tB_01 kd (by omega)]
          · rw [if_neg h01]
            show some (⟨(rebL kd 0 (tB 1 more 0)).toArray⟩ : ByteArray) = _
            rw [reb_tB kd (by omega) more 0 hq]
        rw [e1]
        refine Ev.congr (f := fun k => (laws_sameTexts9.f k (bytesL (nB more)) (bytesL (nB more))).bind fun t221 => (if t221 = true then ((impl_Rebound.f 4 (⟨#[63]⟩ : ByteArray)).bind fun t222 => (some (t222.toList == ([64, 112, 49] : List UInt8)))) else (some false))) (fun k => ?_) (Ev.bind (same_ev _ hn) ?_)
        · simp only [if_true, e2, e3, hk, Option.bind_some, beq_self_eq_true, hr]
        · exact Ev.congr (f := fun _ => some true) (fun k => by rw [if_pos rfl, reb_at, Option.bind_some, hlast]) (Ev.now _)
      · obtain ⟨e1, e2⟩ := h 1 (by decide) (by decide)
        obtain ⟨_, e3⟩ := h kd k0 k4
        rw [e1]
        refine Ev.congr (f := fun _ => some true) (fun k => ?_) (Ev.now _)
        simp only [if_true, e2, e3, hk, Option.bind_some, beq_self_eq_true, Bool.false_eq_true, if_false, reb_at, hlast]
    · have hu := comp_unsure 1 s hsure
      refine Ev.congr (f := fun _ => some true) (fun k => ?_) (Ev.now _)
      rw [hu, if_neg (by decide)]
  · have hd : decide ((m : Int) > 0) = true := decide_eq_true (by omega)
    rw [hd]
    exact hjt s
end Go.Proofs.YtnmhoghmhglimaaDoor.Pure
