/-
  THE SECOND LAW's WALK: what unescape leaves holds no escape; it is idempotent.
-/
import Derived.Test.Qxb6603171aModsUnesc
import Derived.Deep.QuietTactic
import Derived.BigQuiet
import Derived.WalkSmall
namespace Go.Proofs.Qxb6603171aMods
open Go.RowKit

theorem first_pct (s : ByteArray) : (37 : Int) ∉ toI s ∨ ∃ (k : Nat) (h : k < s.size), (s[k].toNat : Int) = 37 ∧ (37 : Int) ∉ (toI s).take k := by
  have key : ∀ l : List Int, (37 : Int) ∉ l ∨ ∃ (k : Nat) (h : k < l.length), l[k] = 37 ∧ (37 : Int) ∉ l.take k := by
    intro l
    induction l with
    | nil => exact .inl (by simp)
    | cons b l ih =>
      by_cases hb : b = 37
      · exact .inr ⟨0, by simp, by simpa using hb, by simp⟩
      · rcases ih with h | ⟨k, hk, h1, h2⟩
        · exact .inl (by simp [h, Ne.symm hb])
        · exact .inr ⟨k + 1, by simp; omega, by simpa using h1, by simp [h2, Ne.symm hb]⟩
  rcases key (toI s) with h | ⟨k, hk, h1, h2⟩
  · exact .inl h
  · have hk' : k < s.size := by rw [toI_length] at hk; exact hk
    exact .inr ⟨k, hk', by rw [← toI_get s k hk']; exact h1, h2⟩

theorem not_pct (l : List Int) (k : Nat) (h : k < l.length) (hn : (37 : Int) ∉ l) : l[k] ≠ 37 := fun e => hn (e ▸ List.getElem_mem h)

set_option maxHeartbeats 400000 in
theorem zindex_none (s : ByteArray) (hs : s.size ≤ 1048576) (hn : (37 : Int) ∉ toI s) (w : World) :
    Calls Trym.prog 12 #[.string s, .int .u8 37] w fun e w' => e = .returned (.int .i64 (-1)) ∧ w = w' := by
  have HN : Hid ((37 : Int) ∉ toI s) := hn
  clear hn
  go_enter Trym.func12, Trym.ntmps12
  go_wp2
  go_loop [5] (fun i => ∃ k : Nat, k ≤ s.size ∧ i = .int .i64 k) (fun i => s.size - (intOf i).toNat)
  case atStart => exact ⟨0, Nat.zero_le _, rfl⟩
  case round =>
    obtain ⟨k, hk, rfl⟩ := hrel
    by_cases hlt : k < s.size
    · have hne : ((s[k].toNat : Int) == 37) = false := by
        have := not_pct (toI s) k (by rw [toI_length]; exact hlt) HN.out
        rw [toI_get s k hlt] at this
        simpa using this
      go_wp2
      go_round
      case rel => exact ⟨k + 1, by omega, by go_num⟩
      case measure => simp [intOf]; omega
    · go_wp2
      go_ret
      exact ⟨rfl, rfl⟩

set_option maxHeartbeats 400000 in
theorem zindex_at (s : ByteArray) (hs : s.size ≤ 1048576) (k0 : Nat) (hk0 : k0 < s.size) (hp : (s[k0].toNat : Int) = 37) (hn : (37 : Int) ∉ (toI s).take k0) (w : World) :
    Calls Trym.prog 12 #[.string s, .int .u8 37] w fun e w' => e = .returned (.int .i64 (k0 : Int)) ∧ w = w' := by
  have HN : Hid ((37 : Int) ∉ (toI s).take k0) := hn
  have HP : Hid ((s[k0].toNat : Int) = 37) := hp
  clear hn hp
  go_enter Trym.func12, Trym.ntmps12
  go_wp2
  go_loop [5] (fun i => ∃ k : Nat, k ≤ k0 ∧ i = .int .i64 k) (fun i => s.size - (intOf i).toNat)
  case atStart => exact ⟨0, Nat.zero_le _, rfl⟩
  case round =>
    obtain ⟨k, hk, rfl⟩ := hrel
    have hlt : k < s.size := by omega
    by_cases he : k < k0
    · have hne : ((s[k].toNat : Int) == 37) = false := by
        have := not_pct ((toI s).take k0) k (by rw [List.length_take, toI_length]; omega) HN.out
        rw [List.getElem_take, toI_get s k hlt] at this
        simpa using this
      go_wp2
      go_round
      case rel => exact ⟨k + 1, by omega, by go_num⟩
      case measure => simp [intOf]; omega
    · obtain rfl : k = k0 := by omega
      have hne : ((s[k].toNat : Int) == 37) = true := by simpa using HP.out
      go_wp2
      go_ret
      exact ⟨rfl, rfl⟩

theorem no_esc_at (s : ByteArray) (h : Esc.hasE (toI s) = false) (k : Nat) (h2 : k + 2 < s.size) : ¬ ((s[k].toNat : Int) = 37 ∧ zok (s[k+1].toNat : Int) = true ∧ zok (s[k+2].toNat : Int) = true) := by
  rintro ⟨a, b, c⟩
  have hl := toI_length s
  have e : toI s = (toI s).take k ++ (toI s)[k] :: (toI s)[k+1] :: (toI s)[k+2] :: (toI s).drop (k + 3) := by
    conv => lhs; rw [← List.take_append_drop k (toI s)]
    rw [List.drop_eq_getElem_cons (show k < (toI s).length by omega), List.drop_eq_getElem_cons (show k + 1 < (toI s).length by omega), List.drop_eq_getElem_cons (show k + 1 + 1 < (toI s).length by omega)]
  have he : Esc.isE (toI s)[k] (toI s)[k+1] (toI s)[k+2] = true := by
    rw [toI_get s k (by omega), toI_get s (k+1) (by omega), toI_get s (k+2) (by omega)]
    exact Esc.isE_iff.2 ⟨a, (zok_iff _).1 b, (zok_iff _).1 c⟩
  have := Esc.hasE_mid ((toI s).take k) ((toI s).drop (k + 3)) he
  rw [← e, h] at this
  simp at this

set_option maxHeartbeats 1000000 in
theorem hasEsc_no (s : ByteArray) (hs : s.size ≤ 1048576) (h : Esc.hasE (toI s) = false) (w : World) :
    Calls Trym.prog 13 #[.string s] w fun e w' => e = .returned (.bool false) ∧ w = w' := by
  have HN : Hid (Esc.hasE (toI s) = false) := h
  clear h
  go_enter Trym.func13, Trym.ntmps13
  go_wp2
  go_loopw [3] (fun i wr => wr = w ∧ ∃ k : Nat, k ≤ s.size ∧ i = .int .i64 k) (fun i _ => s.size - (intOf i).toNat)
  case atStart => exact ⟨rfl, 0, Nat.zero_le _, rfl⟩
  case round =>
    obtain ⟨rfl, k, hk, rfl⟩ := hrel
    by_cases h2 : k + 2 < s.size
    · have hlt : k < s.size := by omega
      have hno := no_esc_at s HN.out k h2
      have b1 := byte_bd s[k+1]
      have b2 := byte_bd s[k+2]
      by_cases hp : (s[k].toNat : Int) = 37
      · have hp' : ((s[k].toNat : Int) != 37) = false := by simp [hp]
        cases hx : zok (s[k+1].toNat : Int)
        · clear hno hp
          go_wp2_with (first | (go_at_call 22; refine (zhex_any _ (by omega) (by omega) _).mono ?_; rintro e w' ⟨rfl, rfl⟩))
          go_roundw
          case rel => exact ⟨trivial, k + 1, by omega, by go_num⟩
          case measure => simp [intOf]; omega
        · have hy : zok (s[k+2].toNat : Int) = false := by
            cases hy : zok (s[k+2].toNat : Int) with
            | false => rfl
            | true => exact absurd ⟨hp, hx, hy⟩ hno
          clear hno hp
          go_wp2_with (first | (go_at_call 22; refine (zhex_any _ (by omega) (by omega) _).mono ?_; rintro e w' ⟨rfl, rfl⟩))
          go_roundw
          case rel => exact ⟨trivial, k + 1, by omega, by go_num⟩
          case measure => simp [intOf]; omega
      · have hp' : ((s[k].toNat : Int) != 37) = true := by simp [hp]
        clear hno hp
        go_wp2_with fail
        go_roundw
        case rel => exact ⟨trivial, k + 1, by omega, by go_num⟩
        case measure => simp [intOf]; omega
    · go_wp2_with fail
      go_ret
      exact ⟨rfl, rfl⟩


/-! ### the law -/
theorem nf_bd (s : ByteArray) : ∀ c ∈ Esc.nf (toI s), 0 ≤ c ∧ c < 256 := by
  have push_bd : ∀ (n : Nat) (c : Int) (st : List Int), st.length ≤ n → (0 ≤ c ∧ c < 256) → (∀ y ∈ st, 0 ≤ y ∧ y < 256) → ∀ y ∈ Esc.push c st, 0 ≤ y ∧ y < 256 := by
    intro n
    induction n with
    | zero => intro c st h hc _ y hy; have : st = [] := List.length_eq_zero_iff.1 (by omega); subst this; simp [Esc.push] at hy; subst hy; exact hc
    | succ n ih =>
      intro c st h hc hst y hy
      match st with
      | [] => simp [Esc.push] at hy; subst hy; exact hc
      | [x] =>
        simp [Esc.push] at hy
        rcases hy with rfl | rfl
        · exact hc
        · exact hst _ (by simp)
      | x :: p :: rest =>
        simp only [List.length_cons] at h
        by_cases he : Esc.isE p x c = true
        · obtain ⟨_, hx, hy'⟩ := Esc.isE_iff.1 he
          have bx := Esc.hexI_bd x
          have bc := Esc.hexI_bd c
          simp only [Esc.push, he, if_true] at hy
          exact ih _ rest (by omega) (by omega) (fun z hz => hst z (by simp [hz])) y hy
        · simp only [Esc.push, he, Bool.false_eq_true, if_false, List.mem_cons] at hy
          rcases hy with rfl | hy
          · exact hc
          · exact hst y (by simpa using hy)
  have run_bd : ∀ (l st : List Int), (∀ c ∈ l, 0 ≤ c ∧ c < 256) → (∀ y ∈ st, 0 ≤ y ∧ y < 256) → ∀ y ∈ Esc.run st l, 0 ≤ y ∧ y < 256 := by
    intro l
    induction l with
    | nil => intro st _ h; exact h
    | cons c l ih => intro st hl hst; rw [Esc.run_cons]; exact ih _ (fun z hz => hl z (by simp [hz])) (push_bd st.length c st (Nat.le_refl _) (hl c (by simp)) hst)
  intro c hc
  exact run_bd (toI s) [] (toI_bd s) (by simp) c (by simpa [Esc.nf] using hc)

/-- All that the law asks of unescape's result. -/
theorem unesc_facts (s : ByteArray) : ∃ R : ByteArray, R = strOfNums (Esc.nf (toI s)) ∧ toI R = Esc.nf (toI s) ∧ Esc.nf (toI R) = toI R ∧ Esc.hasE (toI R) = false ∧ (∃ d : Nat, s.size = R.size + 2 * d) ∧
    ((37 : Int) ∉ toI s → R = s) ∧ (∀ k, k < s.size → (37 : Int) ∉ (toI s).take k → k ≤ R.size ∧ R.extract 0 k = s.extract 0 k) := by
  have e1 : toI (strOfNums (Esc.nf (toI s))) = Esc.nf (toI s) := toI_str _ (nf_bd s)
  have e2 : (strOfNums (Esc.nf (toI s))).size = (Esc.nf (toI s)).length := strOfNums_size _
  have hl := Esc.nf_len (toI s)
  rw [toI_length] at hl
  refine ⟨_, rfl, e1, by rw [e1]; exact Esc.nf_nf _, by rw [e1]; exact Esc.nf_normal _, ⟨(s.size - (Esc.nf (toI s)).length) / 2, by omega⟩, ?_, ?_⟩
  · intro h
    rw [Esc.nf_plain (Esc.hasE_no h), str_toI]
  · intro k hk hn
    have e3 : Esc.nf (toI s) = (toI s).take k ++ Esc.nf ((toI s).drop k) := by
      conv => lhs; rw [← List.take_append_drop k (toI s)]
      exact Esc.nf_pre _ _ hn
    have hlk : ((toI s).take k).length = k := by rw [List.length_take, toI_length]; omega
    refine ⟨by rw [e2, e3, List.length_append, hlk]; omega, ?_⟩
    have : toI ((strOfNums (Esc.nf (toI s))).extract 0 k) = toI (s.extract 0 k) := by
      rw [toI_extract, toI_extract, e1]
      conv => lhs; rw [e3]
      rw [List.take_append_of_le_length (by omega), List.take_of_length_le (by omega)]
    rw [← str_toI ((strOfNums (Esc.nf (toI s))).extract 0 k), this, str_toI]

set_option maxHeartbeats 2000000 in
theorem lawB (s : ByteArray) (w : World) :
    Calls Trym.prog 4 #[.string s] w fun e w' => e = .returned (.bool true) ∧ Below w.heap.size w w' := by
  by_cases h1 : 1048576 < s.size
  · go_enter Trym.func4, Trym.ntmps4
    go_wp2_with (go_at_call 11; refine (bytes11_big s _ h1).mono ?_; rintro e w' ⟨rfl, rfl⟩)
    go_ret
    exact ⟨rfl, Below.refl _ _⟩
  by_cases h2 : 65536 < s.size
  · go_enter Trym.func4, Trym.ntmps4
    go_wp2_with (go_at_call 11; refine (bytes11_ok s _ (by omega)).mono ?_; rintro e w' ⟨rfl, rfl⟩)
    go_ret
    exact ⟨rfl, Below.refl _ _⟩
  have H1 : Hid (¬ 1048576 < s.size) := h1
  clear h1
  obtain ⟨R, hR, hI, hnf, hno, ⟨d, hd⟩, hnone, hat⟩ := unesc_facts s
  have c1 : Hid (∀ w, Calls Trym.prog 9 #[.string s] w fun e w' => e = .returned (.string R) ∧ Below w.heap.size w w') := by
    intro w; rw [hR]; exact zzunescape_any s (by omega) w
  have c2 : Hid (∀ w, Calls Trym.prog 9 #[.string R] w fun e w' => e = .returned (.string R) ∧ Below w.heap.size w w') := by
    intro w
    have := zzunescape_any R (by omega) w
    rw [hnf, str_toI] at this
    exact this
  have c3 : Hid (∀ w, Calls Trym.prog 13 #[.string R] w fun e w' => e = .returned (.bool false) ∧ w = w') := fun w => hasEsc_no R (by omega) hno w
  have g1 : (((s.size : Int) - (R.size : Int)) % 2 != 0) = false := by
    have : ((s.size : Int) - (R.size : Int)) % 2 = 0 := by omega
    rw [this]; rfl
  have g2 : R.size ≤ s.size := by omega
  clear hd
  rcases first_pct s with hn | ⟨k, hk, hp, hn⟩
  · have hs := hnone hn
    have c4 : Hid (∀ w, Calls Trym.prog 12 #[.string s, .int .u8 37] w fun e w' => e = .returned (.int .i64 (-1)) ∧ w = w') := fun w => zindex_none s (by omega) hn w
    clear hR hI hnf hno hnone hat hn g2
    subst hs
    have g1 : (((R.size : Int) - (R.size : Int)) % 2 != 0) = false := by simp
    go_enter Trym.func4, Trym.ntmps4
    go_wp2_with (first | (go_at_call 11; refine (bytes11_ok R _ (by omega)).mono ?_; rintro e w' ⟨rfl, rfl⟩) | (go_at_call 9; refine (c1.out _).mono ?_; rintro e w1 ⟨rfl, hb1⟩) | (go_at_call 12; refine (c4.out _).mono ?_; rintro e w' ⟨rfl, rfl⟩))
    go_ret
    exact ⟨by simp, hb1⟩
  · obtain ⟨hkR, hex⟩ := hat k hk hn
    have c4 : Hid (∀ w, Calls Trym.prog 12 #[.string s, .int .u8 37] w fun e w' => e = .returned (.int .i64 (k : Int)) ∧ w = w') := fun w => zindex_at s (by omega) k hk hp hn w
    have hks : k ≤ s.size := by omega
    have g4 : decide ((R.size : Int) < (k : Int)) = false := decide_eq_false (by omega)
    clear hR hI hnf hno hnone hat hn hp
    go_enter Trym.func4, Trym.ntmps4
    go_wp2_with (first | (go_at_call 11; refine (bytes11_ok s _ (by omega)).mono ?_; rintro e w' ⟨rfl, rfl⟩) | (go_at_call 12; refine (c4.out _).mono ?_; rintro e w' ⟨rfl, rfl⟩))
    refine (c1.out _).mono ?_
    rintro e w1 ⟨rfl, hb1⟩
    go_wp2_with (first | (go_at_call 12; refine (c4.out _).mono ?_; rintro e w' ⟨rfl, rfl⟩))
    go_quiet (fail)
    go_wp2_with (first | (go_at_call 13; refine (c3.out _).mono ?_; rintro e w' ⟨rfl, rfl⟩) | (go_at_call 9; refine (c2.out _).mono ?_; rintro e w2 ⟨rfl, hb2⟩))
    go_ret
    exact ⟨by simp, (below_drewN hb1 _).trans (hb2.mono hb1.size)⟩

end Go.Proofs.Qxb6603171aMods
