/-
  PLAIN MATHEMATICS OF THE YAML WORDS, no Go in sight. A text is a list of bytes as integers.
-/
namespace Go.Proofs.Qxb6603691aMods.Yw

def isU (c : Int) : Bool := decide (65 ≤ c) && decide (c ≤ 90)
def isL (c : Int) : Bool := decide (97 ≤ c) && decide (c ≤ 122)
def low1 (c : Int) : Int := if isU c then c + 32 else c
def low (l : List Int) : List Int := l.map low1

/-- plainString's own words. -/
def kw (l : List Int) : Bool :=
  l == [121] || l == [89] || l == [121, 101, 115] || l == [89, 101, 115] || l == [89, 69, 83] || l == [110] || l == [78] || l == [110, 111] || l == [78, 111] || l == [78, 79] ||
  l == [116, 114, 117, 101] || l == [84, 114, 117, 101] || l == [84, 82, 85, 69] || l == [102, 97, 108, 115, 101] || l == [70, 97, 108, 115, 101] || l == [70, 65, 76, 83, 69] ||
  l == [111, 110] || l == [79, 110] || l == [79, 78] || l == [111, 102, 102] || l == [79, 102, 102] || l == [79, 70, 70] ||
  l == [126] || l == [110, 117, 108, 108] || l == [78, 117, 108, 108] || l == [78, 85, 76, 76] || l == [60, 60]

/-- The model's words, in lower case. -/
def kwl (l : List Int) : Bool :=
  l == [121] || l == [121, 101, 115] || l == [110] || l == [110, 111] || l == [116, 114, 117, 101] || l == [102, 97, 108, 115, 101] || l == [111, 110] || l == [111, 102, 102] || l == [110, 117, 108, 108]

def allLow (l : List Int) : Bool := l.all fun c => !isU c
def allUp (l : List Int) : Bool := l.all fun c => !isL c
def capd : List Int → Bool
  | [] => true
  | c :: t => !isL c && t.all fun c => !isU c
def caseForm (l : List Int) : Bool := allLow l || allUp l || capd l

theorem allLow_snoc (l : List Int) (c : Int) : allLow (l ++ [c]) = (allLow l && !isU c) := by simp [allLow]
theorem allUp_snoc (l : List Int) (c : Int) : allUp (l ++ [c]) = (allUp l && !isL c) := by simp [allUp]
theorem capd_snoc (l : List Int) (c : Int) : capd (l ++ [c]) = (capd l && if l.length = 0 then !isL c else !isU c) := by
  cases l with
  | nil => simp [capd]
  | cons x t => simp [capd, Bool.and_assoc]

theorem low1_inv {c : Int} (d : Int) (h : low1 c = d) : c = d ∨ c = d - 32 := by
  unfold low1 isU at h
  split at h <;> omega

theorem l1 {l : List Int} {a : Int} (h : low l = [a]) : ∃ x, l = [x] ∧ low1 x = a := by
  match l, h with
  | [x], h => exact ⟨x, rfl, by simpa [low] using h⟩
theorem l2 {l : List Int} {a b : Int} (h : low l = [a, b]) : ∃ x y, l = [x, y] ∧ low1 x = a ∧ low1 y = b := by
  match l, h with
  | [x, y], h => simp [low] at h; exact ⟨x, y, rfl, h.1, h.2⟩
theorem l3 {l : List Int} {a b c : Int} (h : low l = [a, b, c]) : ∃ x y z, l = [x, y, z] ∧ low1 x = a ∧ low1 y = b ∧ low1 z = c := by
  match l, h with
  | [x, y, z], h => simp [low] at h; exact ⟨x, y, z, rfl, h.1, h.2.1, h.2.2⟩
theorem l4 {l : List Int} {a b c d : Int} (h : low l = [a, b, c, d]) : ∃ x y z u, l = [x, y, z, u] ∧ low1 x = a ∧ low1 y = b ∧ low1 z = c ∧ low1 u = d := by
  match l, h with
  | [x, y, z, u], h => simp [low] at h; exact ⟨x, y, z, u, rfl, h.1, h.2.1, h.2.2.1, h.2.2.2⟩
theorem l5 {l : List Int} {a b c d e : Int} (h : low l = [a, b, c, d, e]) : ∃ x y z u v, l = [x, y, z, u, v] ∧ low1 x = a ∧ low1 y = b ∧ low1 z = c ∧ low1 u = d ∧ low1 v = e := by
  match l, h with
  | [x, y, z, u, v], h => simp [low] at h; exact ⟨x, y, z, u, v, rfl, h.1, h.2.1, h.2.2.1, h.2.2.2.1, h.2.2.2.2⟩

theorem words_in {l : List Int} (h : kwl (low l) = true) (hc : caseForm l = true) : kw l = true := by
  simp only [kwl, Bool.or_eq_true, beq_iff_eq] at h
  rcases h with (((((((h | h) | h) | h) | h) | h) | h) | h) | h
  · obtain ⟨x, rfl, hx⟩ := l1 h
    rcases low1_inv _ hx with rfl | rfl <;> first | decide | (revert hc; decide)
  · obtain ⟨x, y, z, rfl, hx, hy, hz⟩ := l3 h
    rcases low1_inv _ hx with rfl | rfl <;> rcases low1_inv _ hy with rfl | rfl <;> rcases low1_inv _ hz with rfl | rfl <;> first | decide | (revert hc; decide)
  · obtain ⟨x, rfl, hx⟩ := l1 h
    rcases low1_inv _ hx with rfl | rfl <;> first | decide | (revert hc; decide)
  · obtain ⟨x, y, rfl, hx, hy⟩ := l2 h
    rcases low1_inv _ hx with rfl | rfl <;> rcases low1_inv _ hy with rfl | rfl <;> first | decide | (revert hc; decide)
  · obtain ⟨x, y, z, u, rfl, hx, hy, hz, hu⟩ := l4 h
    rcases low1_inv _ hx with rfl | rfl <;> rcases low1_inv _ hy with rfl | rfl <;> rcases low1_inv _ hz with rfl | rfl <;> rcases low1_inv _ hu with rfl | rfl <;> first | decide | (revert hc; decide)
  · obtain ⟨x, y, z, u, v, rfl, hx, hy, hz, hu, hv⟩ := l5 h
    rcases low1_inv _ hx with rfl | rfl <;> rcases low1_inv _ hy with rfl | rfl <;> rcases low1_inv _ hz with rfl | rfl <;> rcases low1_inv _ hu with rfl | rfl <;> rcases low1_inv _ hv with rfl | rfl <;> first | decide | (revert hc; decide)
  · obtain ⟨x, y, rfl, hx, hy⟩ := l2 h
    rcases low1_inv _ hx with rfl | rfl <;> rcases low1_inv _ hy with rfl | rfl <;> first | decide | (revert hc; decide)
  · obtain ⟨x, y, z, rfl, hx, hy, hz⟩ := l3 h
    rcases low1_inv _ hx with rfl | rfl <;> rcases low1_inv _ hy with rfl | rfl <;> rcases low1_inv _ hz with rfl | rfl <;> first | decide | (revert hc; decide)
  · obtain ⟨x, y, z, u, rfl, hx, hy, hz, hu⟩ := l4 h
    rcases low1_inv _ hx with rfl | rfl <;> rcases low1_inv _ hy with rfl | rfl <;> rcases low1_inv _ hz with rfl | rfl <;> rcases low1_inv _ hu with rfl | rfl <;> first | decide | (revert hc; decide)

theorem words_out {l : List Int} (h : kw l = true) (h1 : (l == [126]) = false) (h2 : (l == [60, 60]) = false) : kwl (low l) = true ∧ caseForm l = true ∧ l.length ≤ 5 := by
  simp only [kw, h1, h2, Bool.or_eq_true, Bool.or_false, beq_iff_eq] at h
  rcases h with (((((((((((((((((((((((h | h) | h) | h) | h) | h) | h) | h) | h) | h) | h) | h) | h) | h) | h) | h) | h) | h) | h) | h) | h) | h) | h) | h) | h
  all_goals (subst h; decide)

/-- THE WORDS: away from the tilde and the merge key the two lists are one. -/
theorem words (l : List Int) (h1 : (l == [126]) = false) (h2 : (l == [60, 60]) = false) : kw l = (decide (l.length ≤ 5) && kwl (low l) && caseForm l) := by
  cases h : kw l with
  | true => obtain ⟨a, b, c⟩ := words_out h h1 h2; simp [a, b, c]
  | false =>
    cases h3 : kwl (low l) && caseForm l with
    | true =>
      simp only [Bool.and_eq_true] at h3
      have := words_in h3.1 h3.2
      rw [h] at this; simp at this
    | false =>
      rw [Bool.and_assoc, h3]; simp

theorem kw_tilde : kw [126] = true := by decide
theorem kw_merge : kw [60, 60] = true := by decide

/-- It begins as a number does. -/
def num (c : Int) : Bool := c == 43 || c == 45 || c == 46 || (decide (48 ≤ c) && decide (c ≤ 57))

end Go.Proofs.Qxb6603691aMods.Yw
