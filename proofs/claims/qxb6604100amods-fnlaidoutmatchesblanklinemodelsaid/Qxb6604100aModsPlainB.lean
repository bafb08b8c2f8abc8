/-
  PLAIN MATHEMATICS OF THE MODEL: line ends, the offset behind so many lines, the model's text.
-/
import Derived.Test.Qxb6604100aModsPlain
namespace Go.Proofs.Qxb6604100aMods.Lay
open Go.RowKit

theorem nl_at : ∀ (l : List Int) (d : Nat), (∀ j, j < d → l[j]? ≠ some 10) → l[d]? = some 10 → nl l = some d := by
  intro l
  induction l with
  | nil => intro d _ h; simp at h
  | cons c t ih =>
    intro d h1 h2
    simp only [nl]
    cases d with
    | zero => simp at h2; simp [h2]
    | succ d =>
      have hc : ¬ c = 10 := by have := h1 0 (by omega); simpa using this
      rw [if_neg hc, ih d (fun j hj => by have := h1 (j + 1) (by omega); simpa using this) (by simpa using h2)]
      rfl
theorem nl_no : ∀ (l : List Int), (∀ j : Nat, l[j]? ≠ some 10) → nl l = none := by
  intro l
  induction l with
  | nil => intro _; rfl
  | cons c t ih =>
    intro h
    have hc : ¬ c = 10 := by have := h 0; simpa using this
    simp only [nl]
    rw [if_neg hc, ih (fun j => by have := h (j + 1); simpa using this)]
    rfl

/-- The offset behind the first k lines. -/
def off (E : List Nat) (k : Nat) : Nat := if k = 0 then 0 else E.getD (k - 1) 0
theorem off_app (E : List Nat) (x k : Nat) (h : k ≤ E.length) : off (E ++ [x]) k = off E k := by
  unfold off
  by_cases hk : k = 0
  · simp [hk]
  · simp only [hk, if_false, List.getD]
    rw [List.getElem?_append_left (by omega)]
theorem off_last (E : List Nat) (x : Nat) : off (E ++ [x]) (E.length + 1) = x := by
  simp [off]

/-- The line ends among the first i bytes. -/
structure EI (T : List Int) (i : Nat) (E : List Nat) : Prop where
  st : ∀ k (h : k < E.length), stepE T (off E k) = E[k]
  le : off E E.length ≤ i
  no : ∀ j, off E E.length ≤ j → j < i → T[j]? ≠ some 10
  ln : E.length ≤ i
/-- The line ends of a text. -/
structure EN (T : List Int) (E : List Nat) : Prop where
  st : ∀ k (h : k < E.length), stepE T (off E k) = E[k]
  last : off E E.length = T.length

theorem EI_start (T : List Int) : EI T 0 [] := ⟨fun k h => absurd h (by simp), by simp [off], fun j _ h => absurd h (by omega), by simp⟩
theorem EI_skip {T : List Int} {i : Nat} {E : List Nat} (h : EI T i E) (hc : T[i]? ≠ some 10) : EI T (i + 1) E :=
  ⟨h.st, by have := h.le; omega, fun j h1 h2 => by
    by_cases hj : j = i
    · subst hj; exact hc
    · exact h.no j h1 (by omega), by have := h.ln; omega⟩
theorem st_app {T : List Int} {E : List Nat} {x : Nat} (h : ∀ k (h : k < E.length), stepE T (off E k) = E[k]) (hx : stepE T (off E E.length) = x) :
    ∀ k (h : k < (E ++ [x]).length), stepE T (off (E ++ [x]) k) = (E ++ [x])[k] := by
  intro k hk
  simp only [List.length_append, List.length_singleton] at hk
  rw [off_app E x k (by omega)]
  by_cases hk2 : k < E.length
  · rw [h k hk2, List.getElem_append_left hk2]
  · obtain rfl : k = E.length := by omega
    rw [hx]; simp
theorem EI_line {T : List Int} {i : Nat} {E : List Nat} (h : EI T i E) (hc : T[i]? = some 10) : EI T (i + 1) (E ++ [i + 1]) := by
  have hle := h.le
  have hst : stepE T (off E E.length) = i + 1 := by
    unfold stepE
    rw [nl_at (T.drop (off E E.length)) (i - off E E.length)]
    · simp only []; omega
    · intro j hj
      rw [List.getElem?_drop]
      exact h.no _ (by omega) (by omega)
    · rw [List.getElem?_drop]
      have e : off E E.length + (i - off E E.length) = i := by omega
      rw [e]; exact hc
  refine ⟨st_app h.st hst, ?_, ?_, by have := h.ln; simp; omega⟩
  · simp only [List.length_append, List.length_singleton]
    rw [off_last]; omega
  · intro j h1 h2
    simp only [List.length_append, List.length_singleton] at h1
    rw [off_last] at h1
    omega
theorem EN_nl {T : List Int} {E : List Nat} (h : EI T T.length E) (hc : T.length = 0 ∨ T[T.length - 1]? = some 10) : EN T E := by
  refine ⟨h.st, ?_⟩
  have h1 := h.le
  rcases hc with hc | hc
  · omega
  · rcases Nat.lt_or_ge (off E E.length) T.length with h2 | h2
    · exact absurd hc (h.no (T.length - 1) (by omega) (by omega))
    · omega
theorem EN_more {T : List Int} {E : List Nat} (h : EI T T.length E) : EN T (E ++ [T.length]) := by
  have hst : stepE T (off E E.length) = T.length := by
    unfold stepE
    rw [nl_no]
    intro j
    rw [List.getElem?_drop]
    rcases Nat.lt_or_ge (off E E.length + j) T.length with h2 | h2
    · exact h.no _ (by omega) h2
    · rw [List.getElem?_eq_none h2]; simp
  refine ⟨st_app h.st hst, ?_⟩
  simp only [List.length_append, List.length_singleton]
  rw [off_last]

theorem stepE_end (T : List Int) : stepE T T.length = T.length := by
  unfold stepE
  rw [List.drop_length]
  rfl
theorem cut_off {T : List Int} {E : List Nat} (h : EN T E) : ∀ k, cut T k = off E (min k E.length) := by
  intro k
  induction k with
  | zero => simp [cut, off]
  | succ k ih =>
    rw [cut, ih]
    by_cases hk : k < E.length
    · have e1 : min k E.length = k := by omega
      have e2 : min (k + 1) E.length = k + 1 := by omega
      rw [e1, e2, h.st k hk]
      simp [off, List.getD, List.getElem?_eq_getElem hk]
    · have e1 : min k E.length = E.length := by omega
      have e2 : min (k + 1) E.length = E.length := by omega
      rw [e1, e2, h.last, stepE_end]

theorem stepE_drop (T : List Int) (p e : Nat) (hp : p ≤ T.length) : p + stepE (T.drop p) e = stepE T (p + e) := by
  unfold stepE
  rw [List.drop_drop]
  cases nl (T.drop (p + e)) with
  | none => simp; omega
  | some i => simp only []; omega
theorem cut_add (T : List Int) (a b : Nat) : cut T a + cut (T.drop (cut T a)) b = cut T (a + b) := by
  induction b with
  | zero => simp [cut]
  | succ b ih =>
    rw [cut, stepE_drop T _ _ (cut_le T a), ih]
    rfl

/-- So many lines are taken by the first runs. -/
def tak (rs : List (Int × Int)) : Nat := (rs.map fun r => r.2.toNat).sum
theorem tak_snoc (rs : List (Int × Int)) (r : Int × Int) : tak (rs ++ [r]) = tak rs + r.2.toNat := by simp [tak]
theorem pos_tak (T : List Int) (rs : List (Int × Int)) : ∀ i, i ≤ rs.length → (st T (rs.take i)).pos = cut T (tak (rs.take i)) := by
  intro i
  induction i with
  | zero => intro _; simp [st, run, s0, tak, cut]
  | succ i ih =>
    intro h
    rw [List.take_succ_eq_append_getElem (by omega), st_snoc, tak_snoc, ← cut_add, ← ih (by omega)]
    rfl
/-- Where run i's lines begin. -/
def P (T : List Int) (rs : List (Int × Int)) (i : Nat) : Nat := (st T (rs.take i)).pos
theorem P_le (T : List Int) (rs : List (Int × Int)) (i : Nat) : P T rs i ≤ T.length := (st_facts T (rs.take i)).1
theorem P_off {T : List Int} {E : List Nat} (h : EN T E) (rs : List (Int × Int)) (i : Nat) (hi : i ≤ rs.length) : P T rs i = off E (min (tak (rs.take i)) E.length) := by
  rw [P, pos_tak T rs i hi, cut_off h]
/-- Does run i want a blank line? -/
def B (rs : List (Int × Int)) (i : Nat) : Bool := (rs.getD i (0, 0)).1 != nxt rs i

theorem st_nx (T : List Int) (rs : List (Int × Int)) : ∀ i, i ≤ rs.length → (st T (rs.take i)).nx = nxt rs i := by
  intro i
  cases i with
  | zero => intro _; rfl
  | succ i =>
    intro h
    rw [List.take_succ_eq_append_getElem (by omega), st_snoc, nxt_succ rs i (by omega)]
    rfl

/-- The model's text so far: what lies between 'from' and where the run begins is yet to come. -/
def M (T : List Int) (s : S) (X : List Int) (fr : Nat) : Prop := fr ≤ s.pos ∧ X ++ (T.drop fr).take (s.pos - fr) = s.L
theorem M_start (T : List Int) : M T s0 [] 0 := ⟨Nat.le_refl _, by simp [s0]⟩
theorem drop_take_split (T : List Int) (fr p c : Nat) (h : fr ≤ p) : (T.drop fr).take (p + c - fr) = (T.drop fr).take (p - fr) ++ (T.drop p).take c := by
  have e : p + c - fr = (p - fr) + c := by omega
  rw [e, List.take_add, List.drop_drop]
  have e2 : fr + (p - fr) = p := by omega
  rw [e2]
theorem M_eq {T : List Int} {s : S} {X : List Int} {fr : Nat} {r : Int × Int} (h : M T s X fr) (hr : r.1 = s.nx) : M T (adv T s r) X fr := by
  obtain ⟨h1, h2⟩ := h
  refine ⟨by simp only [adv]; omega, ?_⟩
  simp only [adv, hr, if_true]
  rw [drop_take_split T fr s.pos _ h1, ← List.append_assoc, h2]
theorem M_ne {T : List Int} {s : S} {X : List Int} {fr : Nat} {r : Int × Int} (h : M T s X fr) (hr : r.1 ≠ s.nx) : M T (adv T s r) ((X ++ (T.drop fr).take (s.pos - fr)) ++ [10]) s.pos := by
  obtain ⟨h1, h2⟩ := h
  refine ⟨by simp only [adv]; omega, ?_⟩
  simp only [adv, hr, if_false]
  rw [h2]
  congr 2
  omega
theorem M_end {T : List Int} {rs : List (Int × Int)} {X : List Int} {fr : Nat} (h : M T (st T rs) X fr) : X ++ T.drop fr = outT T rs := by
  obtain ⟨h1, h2⟩ := h
  rw [outT, ← h2, List.append_assoc]
  congr 1
  have e := List.take_append_drop ((st T rs).pos - fr) (T.drop fr)
  rw [List.drop_drop] at e
  have e2 : fr + ((st T rs).pos - fr) = (st T rs).pos := by omega
  rw [e2] at e
  exact e.symm
theorem M_len {T : List Int} {s : S} {X : List Int} {fr : Nat} (h : M T s X fr) (hp : s.pos ≤ T.length) : X.length + (s.pos - fr) = s.L.length ∧ fr ≤ s.pos := by
  obtain ⟨h1, h2⟩ := h
  refine ⟨?_, h1⟩
  rw [← h2, List.length_append, List.length_take, List.length_drop]
  omega

end Go.Proofs.Qxb6604100aMods.Lay
