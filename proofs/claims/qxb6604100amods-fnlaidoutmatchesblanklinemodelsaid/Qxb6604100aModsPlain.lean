/-
  PLAIN MATHEMATICS OF laidOut: a text is a list of bytes as integers, a line map a list of pairs. No Go in sight but the wrap of 64 bits.
-/
import Derived.RowKit
namespace Go.Proofs.Qxb6604100aMods.Lay
open Go.RowKit

/-! ### lines -/
def nl : List Int → Option Nat
  | [] => none
  | c :: t => if c = 10 then some 0 else (nl t).map (· + 1)

theorem nl_lt : ∀ {t : List Int} {i : Nat}, nl t = some i → i < t.length := by
  intro t
  induction t with
  | nil => intro i h; simp [nl] at h
  | cons c t ih =>
    intro i h
    simp only [nl] at h
    split at h
    · simp at h; subst h; simp
    · cases hn : nl t with
      | none => simp [hn] at h
      | some k => simp [hn] at h; have := ih hn; simp; omega

def stepE (t : List Int) (e : Nat) : Nat := match nl (t.drop e) with
  | some i => e + (i + 1)
  | none => t.length
def cut (t : List Int) : Nat → Nat
  | 0 => 0
  | k + 1 => stepE t (cut t k)

theorem stepE_le {t : List Int} {e : Nat} (h : e ≤ t.length) : e ≤ stepE t e ∧ stepE t e ≤ t.length := by
  unfold stepE
  cases hn : nl (t.drop e) with
  | none => simp; exact h
  | some i => have := nl_lt hn; simp at this ⊢; omega
theorem cut_le (t : List Int) (k : Nat) : cut t k ≤ t.length := by
  induction k with
  | zero => simp [cut]
  | succ k ih => exact (stepE_le ih).2

/-! ### the state of laidOut's loop -/
structure S where
  L : List Int
  A : List (Int × Int)
  nx : Int
  pos : Nat

def adv (T : List Int) (s : S) (r : Int × Int) : S where
  L := (if r.1 = s.nx then s.L else s.L ++ [10]) ++ (T.drop s.pos).take (cut (T.drop s.pos) r.2.toNat)
  A := (if r.1 = s.nx then s.A else s.A ++ [(wrap64 (r.1 - 1), 1)]) ++ [r]
  nx := wrap64 (r.1 + r.2)
  pos := s.pos + cut (T.drop s.pos) r.2.toNat
def s0 : S := { L := [], A := [], nx := 1, pos := 0 }
def run (T : List Int) (s : S) (rs : List (Int × Int)) : S := rs.foldl (adv T) s
def st (T : List Int) (rs : List (Int × Int)) : S := run T s0 rs

theorem st_snoc (T : List Int) (rs : List (Int × Int)) (r : Int × Int) : st T (rs ++ [r]) = adv T (st T rs) r := by simp [st, run]
theorem run_cons (T : List Int) (s : S) (r : Int × Int) (rs : List (Int × Int)) : run T s (r :: rs) = run T (adv T s r) rs := rfl

theorem adv_pos (T : List Int) (s : S) (r : Int × Int) (h : s.pos ≤ T.length) : s.pos ≤ (adv T s r).pos ∧ (adv T s r).pos ≤ T.length := by
  have := cut_le (T.drop s.pos) r.2.toNat
  simp at this
  simp only [adv]; omega

theorem run_facts (T : List Int) (rs : List (Int × Int)) : ∀ s : S, s.pos ≤ T.length →
    (run T s rs).pos ≤ T.length ∧ s.A.length + rs.length ≤ (run T s rs).A.length ∧ (run T s rs).A.length ≤ s.A.length + 2 * rs.length ∧
    (run T s rs).L.length + rs.length + s.A.length + s.pos = s.L.length + (run T s rs).A.length + (run T s rs).pos := by
  induction rs with
  | nil => intro s h; simp [run, h]
  | cons r rs ih =>
    intro s h
    have h1 := adv_pos T s r h
    have h2 := ih (adv T s r) h1.2
    have h3 : (adv T s r).L.length + 1 + s.A.length + s.pos = s.L.length + (adv T s r).A.length + (adv T s r).pos := by
      have := cut_le (T.drop s.pos) r.2.toNat
      simp at this
      simp only [adv, List.length_append, List.length_take, List.length_drop]
      split <;> simp <;> omega
    have h4 : s.A.length + 1 ≤ (adv T s r).A.length ∧ (adv T s r).A.length ≤ s.A.length + 2 := by
      simp only [adv]; split <;> simp
    rw [run_cons]
    simp only [List.length_cons]
    refine ⟨h2.1, by omega, by omega, by omega⟩

theorem st_facts (T : List Int) (rs : List (Int × Int)) : (st T rs).pos ≤ T.length ∧ rs.length ≤ (st T rs).A.length ∧ (st T rs).A.length ≤ 2 * rs.length ∧
    (st T rs).L.length + rs.length = (st T rs).A.length + (st T rs).pos := by
  have := run_facts T rs s0 (by simp [s0])
  simp [s0] at this
  refine ⟨this.1, by have := this.2.1; simpa [st, s0] using this, by have := this.2.2.1; simpa [st, s0] using this, by have := this.2.2.2; simpa [st, s0] using this⟩

/-! ### the map -/
def expand (nx : Int) : List (Int × Int) → List (Int × Int)
  | [] => []
  | r :: rs => (if r.1 = nx then [r] else [(wrap64 (r.1 - 1), 1), r]) ++ expand (wrap64 (r.1 + r.2)) rs

theorem run_A (T : List Int) (rs : List (Int × Int)) : ∀ s : S, (run T s rs).A = s.A ++ expand s.nx rs := by
  induction rs with
  | nil => intro s; simp [run, expand]
  | cons r rs ih =>
    intro s
    rw [run_cons, ih]
    simp only [adv, expand]
    split <;> simp
theorem st_A (T : List Int) (rs : List (Int × Int)) : (st T rs).A = expand 1 rs := by
  rw [st, run_A]; simp [s0]

/-! ### newlines put in -/
def Ins : List Int → List Int → Nat → Prop
  | [], ls, k => ls = [] ∧ k = 0
  | c :: T, ls, k => (∃ ls', ls = c :: ls' ∧ Ins T ls' k) ∨ (c = 10 ∧ ∃ k', k = k' + 1 ∧ Ins T ls k')

theorem Ins_refl (l : List Int) : Ins l l 0 := by
  induction l with
  | nil => exact ⟨rfl, rfl⟩
  | cons c l ih => exact .inl ⟨l, rfl, ih⟩
theorem Ins_append : ∀ (a : List Int) {la b lb : List Int} {ka kb : Nat}, Ins a la ka → Ins b lb kb → Ins (a ++ b) (la ++ lb) (ka + kb) := by
  intro a
  induction a with
  | nil => rintro la b lb ka kb ⟨rfl, rfl⟩ h; simpa using h
  | cons c a ih =>
    intro la b lb ka kb h h2
    rcases h with ⟨ls', rfl, h⟩ | ⟨rfl, k', rfl, h⟩
    · exact .inl ⟨ls' ++ lb, by simp, ih h h2⟩
    · refine .inr ⟨rfl, k' + kb, by omega, ih h h2⟩
theorem Ins_nl : Ins [10] [] 1 := .inr ⟨rfl, 0, rfl, rfl, rfl⟩

theorem run_Ins (T : List Int) (rs : List (Int × Int)) : ∀ (s : S) (k : Nat), s.pos ≤ T.length → Ins s.L (T.take s.pos) k →
    Ins (run T s rs).L (T.take (run T s rs).pos) (k + ((run T s rs).A.length - s.A.length - rs.length)) := by
  induction rs with
  | nil => intro s k _ h; simpa [run] using h
  | cons r rs ih =>
    intro s k hp h
    have h1 := adv_pos T s r hp
    have hf := run_facts T rs (adv T s r) h1.2
    have e : T.take (adv T s r).pos = T.take s.pos ++ (T.drop s.pos).take (cut (T.drop s.pos) r.2.toNat) := by
      simp only [adv]; rw [List.take_add]
    by_cases hr : r.1 = s.nx
    · have hA : (adv T s r).A.length = s.A.length + 1 := by simp [adv, hr]
      have hI : Ins (adv T s r).L (T.take (adv T s r).pos) k := by
        rw [e]
        have : (adv T s r).L = s.L ++ (T.drop s.pos).take (cut (T.drop s.pos) r.2.toNat) := by simp [adv, hr]
        rw [this]
        exact Ins_append _ h (Ins_refl _)
      have := ih (adv T s r) k h1.2 hI
      rw [run_cons]
      simp only [List.length_cons]
      have e2 : (run T (adv T s r) rs).A.length - s.A.length - (rs.length + 1) = (run T (adv T s r) rs).A.length - (adv T s r).A.length - rs.length := by omega
      rw [e2]; exact this
    · have hA : (adv T s r).A.length = s.A.length + 2 := by simp [adv, hr]
      have hI : Ins (adv T s r).L (T.take (adv T s r).pos) (k + 1) := by
        rw [e]
        have : (adv T s r).L = (s.L ++ [10]) ++ (T.drop s.pos).take (cut (T.drop s.pos) r.2.toNat) := by simp [adv, hr]
        rw [this]
        have h3 := Ins_append _ h Ins_nl
        rw [List.append_nil] at h3
        have h4 := Ins_append _ h3 (Ins_refl ((T.drop s.pos).take (cut (T.drop s.pos) r.2.toNat)))
        exact h4
      have := ih (adv T s r) (k + 1) h1.2 hI
      rw [run_cons]
      simp only [List.length_cons]
      have e2 : k + ((run T (adv T s r) rs).A.length - s.A.length - (rs.length + 1)) = k + 1 + ((run T (adv T s r) rs).A.length - (adv T s r).A.length - rs.length) := by omega
      rw [e2]; exact this

/-- laidOut's text and map. -/
def outT (T : List Int) (rs : List (Int × Int)) : List Int := (st T rs).L ++ T.drop (st T rs).pos
def outA (rs : List (Int × Int)) : List (Int × Int) := expand 1 rs

theorem out_Ins (T : List Int) (rs : List (Int × Int)) : Ins (outT T rs) T ((outA rs).length - rs.length) := by
  have h := run_Ins T rs s0 0 (by simp [s0]) (by simp [s0]; exact ⟨rfl, rfl⟩)
  have h2 := Ins_append _ h (Ins_refl (T.drop (run T s0 rs).pos))
  rw [List.take_append_drop] at h2
  have e : (run T s0 rs).A = outA rs := st_A T rs
  rw [e] at h2
  simpa [outT, st, s0] using h2
theorem outA_len (rs : List (Int × Int)) : rs.length ≤ (outA rs).length ∧ (outA rs).length ≤ 2 * rs.length := by
  have := st_facts [] rs
  rw [st_A] at this
  exact ⟨this.2.1, this.2.2.1⟩

/-! ### the law's own check of the text -/
def G (out T : List Int) (i k ex added : Nat) : Prop :=
  ∃ t rem, Ins (out.drop i) (T.drop t) rem ∧ t ≤ k ∧ k ≤ T.length ∧ (∀ j, t ≤ j → j < k → T[j]? = some 10) ∧ k + ex + rem = added + t

theorem G_start {out T : List Int} {added : Nat} (h : Ins out T added) : G out T 0 0 0 added :=
  ⟨0, added, by simpa using h, Nat.le_refl _, Nat.zero_le _, fun j _ h => absurd h (by omega), by omega⟩

theorem drop_cons_of {T : List Int} {t : Nat} {c : Int} {ls : List Int} (h : T.drop t = c :: ls) : ∃ ht : t < T.length, T[t] = c ∧ T.drop (t + 1) = ls := by
  have ht : t < T.length := by
    rcases Nat.lt_or_ge t T.length with h1 | h1
    · exact h1
    · rw [List.drop_of_length_le h1] at h; simp at h
  rw [List.drop_eq_getElem_cons ht] at h
  simp only [List.cons.injEq] at h
  exact ⟨ht, h.1, h.2⟩

theorem G_match {out T : List Int} {i k ex added : Nat} (hi : i < out.length) (hk : k < T.length) (he : out[i] = T[k]) (h : G out T i k ex added) : G out T (i + 1) (k + 1) ex added := by
  obtain ⟨t, rem, hI, htk, _, hw, hs⟩ := h
  rw [List.drop_eq_getElem_cons hi] at hI
  rcases hI with ⟨ls', h1, h2⟩ | ⟨h1, rem', rfl, h2⟩
  · obtain ⟨ht, hc, hd⟩ := drop_cons_of h1
    refine ⟨t + 1, rem, by rw [hd]; exact h2, by omega, by omega, ?_, by omega⟩
    intro j hj1 hj2
    by_cases hjk : j = k
    · subst hjk
      have := hw t (Nat.le_refl _) (by omega)
      rw [List.getElem?_eq_getElem ht, hc] at this
      rw [List.getElem?_eq_getElem hk, ← he]
      exact this
    · exact hw j (by omega) (by omega)
  · refine ⟨t, rem', h2, by omega, by omega, ?_, by omega⟩
    intro j hj1 hj2
    by_cases hjk : j = k
    · subst hjk
      rw [List.getElem?_eq_getElem hk, ← he, h1]
    · exact hw j hj1 (by omega)

theorem G_extra {out T : List Int} {i k ex added : Nat} (hi : i < out.length) (hne : ∀ hk : k < T.length, out[i] ≠ T[k]) (h : G out T i k ex added) : out[i] = 10 ∧ G out T (i + 1) k (ex + 1) added := by
  obtain ⟨t, rem, hI, htk, hkl, hw, hs⟩ := h
  rw [List.drop_eq_getElem_cons hi] at hI
  rcases hI with ⟨ls', h1, h2⟩ | ⟨h1, rem', rfl, h2⟩
  · obtain ⟨ht, hc, hd⟩ := drop_cons_of h1
    have htk2 : t < k := by
      rcases Nat.lt_or_ge t k with h3 | h3
      · exact h3
      · obtain rfl : t = k := by omega
        exact absurd hc.symm (hne ht)
    have := hw t (Nat.le_refl _) htk2
    rw [List.getElem?_eq_getElem ht, hc] at this
    refine ⟨by simpa using this, t + 1, rem, by rw [hd]; exact h2, by omega, hkl, fun j h3 h4 => hw j (by omega) h4, by omega⟩
  · exact ⟨h1, t, rem', h2, htk, hkl, hw, by omega⟩

theorem G_end {out T : List Int} {i k ex added : Nat} (hi : out.length ≤ i) (h : G out T i k ex added) : k = T.length ∧ ex = added := by
  obtain ⟨t, rem, hI, htk, hkl, _, hs⟩ := h
  rw [List.drop_of_length_le hi] at hI
  obtain ⟨h1, rfl⟩ := hI
  have : T.length ≤ t := by
    have := congrArg List.length h1
    simp at this; omega
  omega

theorem G_bd {out T : List Int} {i k ex added : Nat} (h : G out T i k ex added) : k ≤ T.length ∧ ex ≤ added + T.length := by
  obtain ⟨t, rem, _, htk, hkl, _, hs⟩ := h
  omega

/-! ### the law's own check of the map -/
def nxt (rs : List (Int × Int)) (i : Nat) : Int := if i = 0 then 1 else wrap64 ((rs.getD (i - 1) (0, 0)).1 + (rs.getD (i - 1) (0, 0)).2)
def J (A rs : List (Int × Int)) (i j : Nat) : Prop :=
  A.drop j = expand (nxt rs i) (rs.drop i) ∧ j ≤ A.length ∧ j ≤ 2 * i ∧ (i = 0 → j = 0) ∧ (0 < i → 0 < j ∧ A.getD (j - 1) (0, 0) = rs.getD (i - 1) (0, 0))

theorem J_start (rs : List (Int × Int)) : J (outA rs) rs 0 0 := ⟨by simp [outA, nxt], Nat.zero_le _, Nat.le_refl _, fun _ => rfl, fun h => absurd h (by omega)⟩

theorem nxt_succ (rs : List (Int × Int)) (i : Nat) (h : i < rs.length) : nxt rs (i + 1) = wrap64 (rs[i].1 + rs[i].2) := by
  simp [nxt, List.getD, List.getElem?_eq_getElem h]

theorem J_follow {A rs : List (Int × Int)} {i j : Nat} (h : i < rs.length) (hf : rs[i].1 = nxt rs i) (hJ : J A rs i j) : ∃ hj : j < A.length, A[j] = rs[i] ∧ J A rs (i + 1) (j + 1) := by
  obtain ⟨h1, h2, h3, h4, h5⟩ := hJ
  rw [List.drop_eq_getElem_cons h] at h1
  simp only [expand, hf, if_true, List.cons_append, List.nil_append] at h1
  have hj : j < A.length := by
    rcases Nat.lt_or_ge j A.length with h6 | h6
    · exact h6
    · rw [List.drop_of_length_le h6] at h1; simp at h1
  rw [List.drop_eq_getElem_cons hj] at h1
  simp only [List.cons.injEq] at h1
  refine ⟨hj, h1.1, ?_, by omega, by omega, fun h => absurd h (by omega), fun _ => ⟨by omega, ?_⟩⟩
  · rw [nxt_succ rs i h, hf]; exact h1.2
  · simp [List.getD, List.getElem?_eq_getElem h, List.getElem?_eq_getElem hj, h1.1]

theorem J_blank {A rs : List (Int × Int)} {i j : Nat} (h : i < rs.length) (hf : rs[i].1 ≠ nxt rs i) (hJ : J A rs i j) :
    ∃ hj : j + 1 < A.length, A[j] = (wrap64 (rs[i].1 - 1), 1) ∧ A[j + 1] = rs[i] ∧ J A rs (i + 1) (j + 2) := by
  obtain ⟨h1, h2, h3, h4, h5⟩ := hJ
  rw [List.drop_eq_getElem_cons h] at h1
  simp only [expand, hf, if_false, List.cons_append, List.nil_append] at h1
  have hj : j + 1 < A.length := by
    have := congrArg List.length h1
    simp at this; omega
  rw [List.drop_eq_getElem_cons (show j < A.length by omega), List.drop_eq_getElem_cons hj] at h1
  simp only [List.cons.injEq] at h1
  refine ⟨hj, h1.1, h1.2.1, ?_, by omega, by omega, fun h => absurd h (by omega), fun _ => ⟨by omega, ?_⟩⟩
  · rw [nxt_succ rs i h]; exact h1.2.2
  · simp [List.getD, List.getElem?_eq_getElem h, List.getElem?_eq_getElem hj, h1.2.1]

theorem J_end {A rs : List (Int × Int)} {i j : Nat} (h : rs.length ≤ i) (hJ : J A rs i j) : j = A.length := by
  obtain ⟨h1, h2, _⟩ := hJ
  rw [List.drop_of_length_le h] at h1
  simp only [expand] at h1
  have := congrArg List.length h1
  simp at this; omega

theorem wrap_back {f : Int} (h0 : -9223372036854775808 ≤ f) (h1 : f ≤ 9223372036854775807) : wrap64 (wrap64 (f - 1) + 1) = f := by
  unfold wrap64; omega
theorem wrap_ne {f : Int} : wrap64 (f - 1) ≠ f := by
  unfold wrap64; omega
theorem wrap_bd (n : Int) : -9223372036854775808 ≤ wrap64 n ∧ wrap64 n ≤ 9223372036854775807 := by
  unfold wrap64; omega

end Go.Proofs.Qxb6604100aMods.Lay
