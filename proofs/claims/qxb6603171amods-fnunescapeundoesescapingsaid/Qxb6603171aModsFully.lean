/-
  zdecodeFully: whole passes, repeated.
-/
import Derived.Test.Qxb6603171aModsOnce
namespace Go.Proofs.Qxb6603171aMods
open Go.RowKit

theorem dec_bd_len (n : Nat) : ∀ l : List Int, l.length ≤ n → (∀ c ∈ l, 0 ≤ c ∧ c < 256) → ∀ c ∈ Esc.dec l, 0 ≤ c ∧ c < 256 := by
  induction n with
  | zero => intro l h _; have : l = [] := List.length_eq_zero_iff.1 (by omega); subst this; simp [Esc.dec]
  | succ n ih =>
    intro l h hb
    match l with
    | [] => simp [Esc.dec]
    | [p] => simpa [Esc.dec] using hb
    | [p, x] => simpa [Esc.dec] using hb
    | p :: x :: y :: rest =>
      simp only [List.length_cons] at h
      have h1 := ih rest (by omega) (fun c hc => hb c (by simp [hc]))
      have h2 := ih (x :: y :: rest) (by simp; omega) (fun c hc => hb c (by simp at hc ⊢; right; exact hc))
      by_cases he : Esc.isE p x y = true
      · obtain ⟨_, hx, hy⟩ := Esc.isE_iff.1 he
        have bx := Esc.hexI_bd x
        have by' := Esc.hexI_bd y
        simp only [Esc.dec, he, if_true, List.mem_cons]
        rintro c (rfl | hc)
        · omega
        · exact h1 c hc
      · simp only [Esc.dec, he, Bool.false_eq_true, if_false, List.mem_cons]
        rintro c (rfl | hc)
        · exact hb _ (by simp)
        · exact h2 c hc
theorem dec_bd (s : ByteArray) : ∀ c ∈ Esc.dec (toI s), 0 ≤ c ∧ c < 256 := dec_bd_len _ _ (Nat.le_refl _) (toI_bd s)

theorem ret_str {a b : ByteArray} (h : a = b) : Ending.returned (.string a) = .returned (.string b) := by rw [h]

set_option maxHeartbeats 1000000 in
theorem fully_any (s : ByteArray) (hs : s.size ≤ 1048576) (w : World) :
    Calls Trym.prog 10 #[.string s] w fun e w' => e = .returned (.string (strOfNums (Esc.nf (toI s)))) ∧ Below w.heap.size w w' := by
  go_enter Trym.func10, Trym.ntmps10
  go_wp2_with fail
  go_loopw [3, 5] (fun c i wr => ∃ (k : Nat) (t : ByteArray), i = .int .i64 k ∧ c = .string t ∧ t.size + 2 * k ≤ s.size ∧ Hid (Esc.nf (toI t) = Esc.nf (toI s)) ∧ Below w.heap.size w wr)
    (fun _ i _ => s.size + 1 - (intOf i).toNat)
  case atStart => exact ⟨0, s, rfl, rfl, by omega, (by rfl : _ = _), Below.refl _ _⟩
  case round =>
    obtain ⟨k, t, rfl, rfl, hk, hnf, hbel⟩ := hrel
    cases hh : Esc.hasE (toI t)
    · have F : Hid (t = strOfNums (Esc.nf (toI s))) := by
        rw [← hnf.out, Esc.nf_plain hh, str_toI]; exact rfl
      go_wp2_with (go_at_call 16; refine (once_any _ (by omega) _).mono ?_; rintro e w' ⟨rfl, hb⟩; rw [hh])
      go_ret
      exact ⟨ret_str F.out, hbel.trans (hb.mono hbel.size)⟩
    · have hl := Esc.dec_lt hh
      have e1 : toI (strOfNums (Esc.dec (toI t))) = Esc.dec (toI t) := toI_str _ (dec_bd t)
      have e2 : (strOfNums (Esc.dec (toI t))).size = (Esc.dec (toI t)).length := strOfNums_size _
      rw [toI_length] at hl
      have F : Hid (Esc.nf (toI (strOfNums (Esc.dec (toI t)))) = Esc.nf (toI s)) := by
        rw [e1, Esc.nf_dec]; exact hnf
      rw [← e2] at hl
      clear e1 e2
      go_wp2_with (go_at_call 16; refine (once_any _ (by omega) _).mono ?_; rintro e w' ⟨rfl, hb⟩; rw [hh])
      go_roundw
      case rel => exact ⟨k + 1, _, by go_num, rfl, by omega, F, hbel.trans (hb.mono hbel.size)⟩
      case measure => simp [intOf]; omega

end Go.Proofs.Qxb6603171aMods
