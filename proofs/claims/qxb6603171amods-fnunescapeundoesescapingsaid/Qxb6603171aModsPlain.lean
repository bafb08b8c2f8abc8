/-
  PLAIN MATHEMATICS OF %XX ESCAPES, no Go in sight. A text is a list of integers (bytes).
-/
namespace Go.Proofs.Qxb6603171aMods.Esc

def hexI (n : Int) : Int :=
  if 48 ≤ n ∧ n ≤ 57 then n - 48 else if 97 ≤ n ∧ n ≤ 102 then n - 87 else if 65 ≤ n ∧ n ≤ 70 then n - 55 else 16

theorem hexI_bd (n : Int) : 0 ≤ hexI n ∧ hexI n ≤ 16 := by
  unfold hexI; split <;> (try split) <;> (try split) <;> omega
theorem hexI_pct : hexI 37 = 16 := by decide

/-- The three bytes are an escape. -/
def isE (p x y : Int) : Bool := p == 37 && hexI x != 16 && hexI y != 16

/-- The stack machine: 'st' is the output, last byte first. -/
def push (c : Int) : List Int → List Int
  | x :: p :: rest => if isE p x c then push (hexI x * 16 + hexI c) rest else c :: x :: p :: rest
  | [x] => [c, x]
  | [] => [c]

def run (st s : List Int) : List Int := s.foldl (fun a c => push c a) st
def nf (s : List Int) : List Int := (run [] s).reverse

def dec : List Int → List Int
  | p :: x :: y :: rest => if isE p x y then (hexI x * 16 + hexI y) :: dec rest else p :: dec (x :: y :: rest)
  | [p, x] => [p, x]
  | [p] => [p]
  | [] => []

def hasE : List Int → Bool
  | p :: x :: y :: rest => isE p x y || hasE (x :: y :: rest)
  | [_, _] => false
  | [_] => false
  | [] => false

theorem run_cons (st : List Int) (c : Int) (s : List Int) : run st (c :: s) = run (push c st) s := rfl
theorem run_append (st a b : List Int) : run st (a ++ b) = run (run st a) b := by simp [run]
theorem run_snoc (st s : List Int) (c : Int) : run st (s ++ [c]) = push c (run st s) := by simp [run]

theorem isE_iff {p x y : Int} : isE p x y = true ↔ p = 37 ∧ hexI x ≠ 16 ∧ hexI y ≠ 16 := by
  simp [isE, and_assoc]

theorem push_pct (st : List Int) : push 37 st = 37 :: st := by
  match st with
  | [] => rfl
  | [_] => rfl
  | x :: p :: rest =>
    have : isE p x 37 = false := by simp [isE, hexI_pct]
    simp [push, this]

theorem push_after_pct (x : Int) (st : List Int) : push x (37 :: st) = x :: 37 :: st := by
  match st with
  | [] => rfl
  | p :: rest =>
    have : isE p 37 x = false := by simp [isE, hexI_pct]
    simp [push, this]

theorem push_esc {x y : Int} (hx : hexI x ≠ 16) (hy : hexI y ≠ 16) (st : List Int) : push y (x :: 37 :: st) = push (hexI x * 16 + hexI y) st := by
  have : isE 37 x y = true := isE_iff.2 ⟨rfl, hx, hy⟩
  simp [push, this]

theorem run_dec_len (n : Nat) : ∀ (s st : List Int), s.length ≤ n → run st (dec s) = run st s := by
  induction n with
  | zero => intro s st h; have : s = [] := List.length_eq_zero_iff.1 (by omega); subst this; rfl
  | succ n ih =>
    intro s st h
    match s with
    | [] => rfl
    | [_] => rfl
    | [_, _] => rfl
    | p :: x :: y :: rest =>
      simp only [List.length_cons] at h
      by_cases he : isE p x y = true
      · obtain ⟨rfl, hx, hy⟩ := isE_iff.1 he
        simp only [dec, he, if_true]
        rw [run_cons, ih rest _ (by omega), run_cons, run_cons, run_cons, push_pct, push_after_pct, push_esc hx hy]
      · simp only [dec, he]
        simp only [Bool.false_eq_true, if_false]
        rw [run_cons, ih (x :: y :: rest) _ (by simp; omega), ← run_cons]

theorem nf_dec (s : List Int) : nf (dec s) = nf s := by
  unfold nf; rw [run_dec_len s.length s [] (Nat.le_refl _)]

theorem hasE_cons (u : Int) {t : List Int} (h : hasE t = true) : hasE (u :: t) = true := by
  match t, h with
  | x :: y :: r, h => simp only [hasE, h, Bool.or_true]

theorem hasE_mid (a b : List Int) {p x y : Int} (h : isE p x y = true) : hasE (a ++ p :: x :: y :: b) = true := by
  induction a with
  | nil => simp [hasE, h]
  | cons u a ih => exact hasE_cons u ih

theorem run_plain (s : List Int) : ∀ st, hasE (st.reverse ++ s) = false → run st s = s.reverse ++ st := by
  induction s with
  | nil => intro st _; rfl
  | cons c s ih =>
    intro st h
    have hp : push c st = c :: st := by
      match st, h with
      | [], _ => rfl
      | [_], _ => rfl
      | x :: p :: rest, h =>
        by_cases he : isE p x c = true
        · have := hasE_mid rest.reverse s he
          simp [this] at h
        · simp [push, he]
    rw [run_cons, hp, ih]
    · simp
    · simpa using h

theorem nf_plain {s : List Int} (h : hasE s = false) : nf s = s := by
  unfold nf; rw [run_plain s [] (by simpa using h)]; simp

theorem dec_plain_len (n : Nat) : ∀ s : List Int, s.length ≤ n → (dec s).length ≤ s.length ∧ (hasE s = true → (dec s).length + 2 ≤ s.length) := by
  induction n with
  | zero => intro s h; have : s = [] := List.length_eq_zero_iff.1 (by omega); subst this; simp [dec, hasE]
  | succ n ih =>
    intro s h
    match s with
    | [] => simp [dec, hasE]
    | [_] => simp [dec, hasE]
    | [_, _] => simp [dec, hasE]
    | p :: x :: y :: rest =>
      simp only [List.length_cons] at h
      by_cases he : isE p x y = true
      · have := ih rest (by omega)
        simp only [dec, he, if_true, List.length_cons]
        omega
      · have := ih (x :: y :: rest) (by simp; omega)
        simp only [dec, he, hasE]
        simp only [Bool.false_eq_true, if_false, Bool.false_or, List.length_cons] at *
        constructor
        · omega
        · intro h; have := this.2 h; omega

theorem dec_le (s : List Int) : (dec s).length ≤ s.length := (dec_plain_len s.length s (Nat.le_refl _)).1
theorem dec_lt {s : List Int} (h : hasE s = true) : (dec s).length + 2 ≤ s.length := (dec_plain_len s.length s (Nat.le_refl _)).2 h

/-! ### the stack's own shape -/
theorem hasE_snoc (l : List Int) (p x c : Int) : hasE (l ++ [p, x, c]) = (hasE (l ++ [p, x]) || isE p x c) := by
  induction l with
  | nil => simp [hasE]
  | cons u l ih =>
    match l with
    | [] => simp only [List.nil_append] at ih; simp [hasE]
    | [v] => simp only [List.cons_append, List.nil_append] at ih ⊢; simp only [hasE]; simp [Bool.or_assoc]
    | v :: z :: t => simp only [List.cons_append] at ih ⊢; simp only [hasE]; rw [ih]; simp [Bool.or_assoc]

theorem hasE_head (a b : List Int) (h : hasE (a ++ b) = false) : hasE a = false := by
  cases ha : hasE a with
  | false => rfl
  | true =>
    exfalso
    have key : ∀ a : List Int, hasE a = true → hasE (a ++ b) = true := by
      intro a
      induction a with
      | nil => simp [hasE]
      | cons u a ih =>
        match a with
        | [] => simp [hasE]
        | [v] => simp [hasE]
        | v :: z :: t =>
          intro h
          simp only [hasE, Bool.or_eq_true] at h
          simp only [List.cons_append, hasE, Bool.or_eq_true]
          rcases h with h | h
          · exact .inl h
          · exact .inr (ih h)
    rw [key a ha] at h; simp at h

theorem push_normal_len (n : Nat) : ∀ (c : Int) (st : List Int), st.length ≤ n → hasE st.reverse = false → hasE (push c st).reverse = false ∧ (push c st).length ≤ st.length + 1 ∧ (st.length + 1 - (push c st).length) % 2 = 0 := by
  induction n with
  | zero => intro c st h _; have : st = [] := List.length_eq_zero_iff.1 (by omega); subst this; simp [push, hasE]
  | succ n ih =>
    intro c st h hn
    match st with
    | [] => simp [push, hasE]
    | [_] => simp [push, hasE]
    | x :: p :: rest =>
      simp only [List.length_cons] at h
      have hr : hasE rest.reverse = false := by
        apply hasE_head rest.reverse [p, x]
        simpa using hn
      by_cases he : isE p x c = true
      · have := ih (hexI x * 16 + hexI c) rest (by omega) hr
        simp only [push, he, if_true, List.length_cons]
        refine ⟨this.1, by omega, by omega⟩
      · have hs := hasE_snoc rest.reverse p x c
        simp only [push, he]
        simp only [Bool.false_eq_true, if_false, List.length_cons]
        refine ⟨?_, by omega, by omega⟩
        have e : (c :: x :: p :: rest).reverse = rest.reverse ++ [p, x, c] := by simp
        have e2 : (x :: p :: rest).reverse = rest.reverse ++ [p, x] := by simp
        rw [e2] at hn
        rw [e, hs, hn]
        simpa using he

theorem run_normal (s : List Int) : ∀ st, hasE st.reverse = false → hasE (run st s).reverse = false ∧ (run st s).length ≤ st.length + s.length ∧ (st.length + s.length - (run st s).length) % 2 = 0 := by
  induction s with
  | nil => intro st h; simp [run, h]
  | cons c s ih =>
    intro st h
    have p := push_normal_len st.length c st (Nat.le_refl _) h
    have q := ih (push c st) p.1
    rw [run_cons]
    simp only [List.length_cons]
    refine ⟨q.1, by omega, by omega⟩

theorem nf_normal (s : List Int) : hasE (nf s) = false := (run_normal s [] rfl).1
theorem nf_len (s : List Int) : (nf s).length ≤ s.length ∧ (s.length - (nf s).length) % 2 = 0 := by
  have := run_normal s [] rfl
  simp [nf]; simp at this; exact ⟨this.2.1, this.2.2⟩
theorem nf_nf (s : List Int) : nf (nf s) = nf s := nf_plain (nf_normal s)

/-! ### what stands ahead of the first '%' stays -/
theorem push_base_len (n : Nat) : ∀ (c : Int) (st base : List Int), st.length ≤ n → (37 : Int) ∉ base → push c (st ++ base) = push c st ++ base := by
  induction n with
  | zero =>
    intro c st base h hb
    have : st = [] := List.length_eq_zero_iff.1 (by omega)
    subst this
    match base, hb with
    | [], _ => rfl
    | [_], _ => rfl
    | x :: p :: rest, hb =>
      have : isE p x c = false := by
        cases he : isE p x c with
        | false => rfl
        | true => exact absurd (by simp [(isE_iff.1 he).1]) hb
      simp [push, this]
  | succ n ih =>
    intro c st base h hb
    match st with
    | [] =>
      exact ih c [] base (by simp) hb
    | [x] =>
      match base, hb with
      | [], _ => rfl
      | p :: rest, hb =>
        have : isE p x c = false := by
          cases he : isE p x c with
          | false => rfl
          | true => exact absurd (by simp [(isE_iff.1 he).1]) hb
        simp [push, this]
    | x :: p :: rest =>
      simp only [List.length_cons] at h
      by_cases he : isE p x c = true
      · simp only [List.cons_append, push, he, if_true]
        exact ih _ rest base (by omega) hb
      · simp [push, he]

theorem run_base (s : List Int) : ∀ (st base : List Int), (37 : Int) ∉ base → run (st ++ base) s = run st s ++ base := by
  induction s with
  | nil => intro st base _; rfl
  | cons c s ih => intro st base hb; rw [run_cons, run_cons, push_base_len st.length c st base (Nat.le_refl _) hb, ih _ _ hb]

theorem hasE_no {s : List Int} (h : (37 : Int) ∉ s) : hasE s = false := by
  induction s with
  | nil => rfl
  | cons p s ih =>
    match s with
    | [] => rfl
    | [_] => rfl
    | x :: y :: t =>
      have hp : isE p x y = false := by
        cases he : isE p x y with
        | false => rfl
        | true => exact absurd (by simp [(isE_iff.1 he).1]) h
      simp only [hasE, hp, Bool.false_or]
      exact ih (fun hm => h (List.mem_cons_of_mem _ hm))

theorem run_no {s : List Int} (h : (37 : Int) ∉ s) : run [] s = s.reverse := by
  rw [run_plain s [] (by simpa using hasE_no h)]; simp

theorem nf_pre (a t : List Int) (h : (37 : Int) ∉ a) : nf (a ++ t) = a ++ nf t := by
  unfold nf
  rw [run_append, run_no h]
  have := run_base t [] a.reverse (by simpa using h)
  simp only [List.nil_append] at this
  rw [this]; simp

/-! ### escaping -/
def upH (d : Int) : Int := if d < 10 then 48 + d else 55 + d
def needs (c : Int) : Bool := decide (c ≤ 32) || decide (127 ≤ c) || c == 35 || c == 37
def esc1 (c : Int) : List Int := if needs c then [37, upH (c / 16), upH (c % 16)] else [c]
def esc : List Int → List Int
  | [] => []
  | c :: s => esc1 c ++ esc s

theorem hexI_upH {d : Int} (h0 : 0 ≤ d) (h1 : d < 16) : hexI (upH d) = d := by
  unfold upH hexI; split <;> split <;> (try split) <;> (try split) <;> omega

theorem dec_ne {c : Int} (h : c ≠ 37) (t : List Int) : dec (c :: t) = c :: dec t := by
  match t with
  | [] => rfl
  | [_] => rfl
  | x :: y :: r =>
    have : isE c x y = false := by
      cases he : isE c x y with
      | false => rfl
      | true => exact absurd (isE_iff.1 he).1 h
    simp [dec, this]

theorem dec_esc (s : List Int) (h : ∀ c ∈ s, 0 ≤ c ∧ c < 256) : dec (esc s) = s := by
  induction s with
  | nil => rfl
  | cons c s ih =>
    have hc := h c (by simp)
    have ih := ih (fun d hd => h d (by simp [hd]))
    simp only [esc, esc1]
    by_cases hn : needs c = true
    · have e1 := hexI_upH (d := c / 16) (by omega) (by omega)
      have e2 := hexI_upH (d := c % 16) (by omega) (by omega)
      have : isE 37 (upH (c / 16)) (upH (c % 16)) = true := isE_iff.2 ⟨rfl, by rw [e1]; omega, by rw [e2]; omega⟩
      simp only [hn, if_true, List.cons_append, List.nil_append, dec, this, e1, e2, ih]
      congr 1; omega
    · simp only [hn, Bool.false_eq_true, if_false, List.cons_append, List.nil_append]
      have : c ≠ 37 := by intro e; subst e; exact hn (by decide)
      rw [dec_ne this, ih]

theorem nf_esc (s : List Int) (h : ∀ c ∈ s, 0 ≤ c ∧ c < 256) : nf (esc s) = nf s := by
  rw [← nf_dec (esc s), dec_esc s h]

theorem esc1_len (c : Int) : (esc1 c).length ≤ 3 := by unfold esc1; split <;> simp
theorem esc_len (s : List Int) : (esc s).length ≤ 3 * s.length := by
  induction s with
  | nil => simp [esc]
  | cons c s ih => have := esc1_len c; simp [esc]; omega
theorem esc_append (a b : List Int) : esc (a ++ b) = esc a ++ esc b := by
  induction a with
  | nil => rfl
  | cons c a ih => simp [esc, ih]

end Go.Proofs.Qxb6603171aMods.Esc
