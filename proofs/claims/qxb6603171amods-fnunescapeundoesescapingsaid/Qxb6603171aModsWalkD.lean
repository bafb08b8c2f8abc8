/-
  THE THIRD LAW's WALK: the law itself.
-/
import Derived.Test.Qxb6603171aModsWalkC
namespace Go.Proofs.Qxb6603171aMods
open Go.RowKit

set_option maxHeartbeats 400000 in
theorem zzappEsc (s : ByteArray) (hs : s.size ≤ 65536) (w : World) :
    Calls Trym.prog 15 #[.slice none 0 0, .string s] w fun e w' => ∃ v, e = .returned v ∧ w'.ownsRow w.heap.size 5 1 v (Esc.esc (toI s)).length ((Esc.esc (toI s)).map (Value.int .u8)) ∧ Below w.heap.size w w' := by
  go_enter Trym.func15, Trym.ntmps15
  go_wp2_with (go_at_call 23; refine (appEsc_nil s hs _).mono ?_; rintro e w' ⟨v, rfl, hown, hb⟩)
  refine bodyPost_ret (v := v) (by simp [results, Trym.results15, go_sem]) rfl ⟨v, rfl, hown, hb⟩

theorem esc_bd (l : List Int) (h : ∀ c ∈ l, 0 ≤ c ∧ c < 256) : ∀ c ∈ Esc.esc l, 0 ≤ c ∧ c < 256 := by
  induction l with
  | nil => simp [Esc.esc]
  | cons x l ih =>
    have hx := h x (by simp)
    intro c hc
    simp only [Esc.esc, List.mem_append] at hc
    rcases hc with hc | hc
    · unfold Esc.esc1 at hc
      split at hc
      · simp only [List.mem_cons, List.not_mem_nil, or_false] at hc
        rcases hc with rfl | rfl | rfl
        · omega
        · unfold Esc.upH; split <;> omega
        · unfold Esc.upH; split <;> omega
      · simp only [List.mem_cons, List.not_mem_nil, or_false] at hc; subst hc; exact hx
    · exact ih (fun y hy => h y (by simp [hy])) c hc

set_option maxHeartbeats 1000000 in
theorem lawC (s : ByteArray) (w : World) :
    Calls Trym.prog 5 #[.string s] w fun e w' => e = .returned (.bool true) ∧ Below w.heap.size w w' := by
  by_cases h1 : 1048576 < s.size
  · go_enter Trym.func5, Trym.ntmps5
    go_wp2_with (go_at_call 14; refine (bytes14_big s _ h1).mono ?_; rintro e w' ⟨rfl, rfl⟩)
    go_ret
    exact ⟨rfl, Below.refl _ _⟩
  by_cases h2 : 65536 < s.size
  · go_enter Trym.func5, Trym.ntmps5
    go_wp2_with (go_at_call 14; refine (bytes14_ok s _ (by omega)).mono ?_; rintro e w' ⟨rfl, rfl⟩)
    go_ret
    exact ⟨rfl, Below.refl _ _⟩
  have e1 : toI (strOfNums (Esc.esc (toI s))) = Esc.esc (toI s) := toI_str _ (esc_bd _ (toI_bd s))
  have e2 : (strOfNums (Esc.esc (toI s))).size ≤ 196608 := by
    rw [strOfNums_size]
    have := Esc.esc_len (toI s)
    rw [toI_length] at this
    omega
  have c1 : Hid (∀ (base : Nat) (v : Value) (w : World), w.ownsRow base 5 1 v (Esc.esc (toI s)).length ((Esc.esc (toI s)).map (Value.int .u8)) → (convert 25 9 v).run Trym.prog w = .ok (.string (strOfNums (Esc.esc (toI s)))) w) := fun _ _ _ h => ret_str_own h
  have c2 : Hid (∀ w, Calls Trym.prog 16 #[.string (strOfNums (Esc.esc (toI s)))] w fun e w' => ∃ b, e = .returned (.tuple #[.string s, .bool b]) ∧ Below w.heap.size w w') := by
    intro w
    refine (once_any (strOfNums (Esc.esc (toI s))) (by omega) w).mono fun e w' ⟨he, hb⟩ => ⟨Esc.hasE (Esc.esc (toI s)), ?_, hb⟩
    rw [he, e1, Esc.dec_esc _ (toI_bd s), str_toI]
  have c3 : Hid (∀ w, Calls Trym.prog 9 #[.string (strOfNums (Esc.esc (toI s)))] w fun e w' => e = .returned (.string (strOfNums (Esc.nf (toI s)))) ∧ Below w.heap.size w w') := by
    intro w
    have := zzunescape_any (strOfNums (Esc.esc (toI s))) (by omega) w
    rw [e1, Esc.nf_esc _ (toI_bd s)] at this
    exact this
  have c5 : Hid (∀ w, Calls Trym.prog 15 #[.slice none 0 0, .string s] w fun e w' => ∃ v, e = .returned v ∧ w'.ownsRow w.heap.size 5 1 v (Esc.esc (toI s)).length ((Esc.esc (toI s)).map (Value.int .u8)) ∧ Below w.heap.size w w') := fun w => zzappEsc s (by omega) w
  have C4 : Hid (∀ w, Calls Trym.prog 9 #[.string s] w fun e w' => e = .returned (.string (strOfNums (Esc.nf (toI s)))) ∧ Below w.heap.size w w') := fun w => zzunescape_any s (by omega) w
  generalize strOfNums (Esc.esc (toI s)) = E at c1 c2 c3 e1 e2
  generalize strOfNums (Esc.nf (toI s)) = R at c3 C4
  have c4 : Hid (∀ w, Calls Trym.prog 9 #[.string s] w fun e w' => e = .returned (.string R) ∧ Below w.heap.size w w') := C4
  clear C4
  clear e1 e2
  go_enter Trym.func5, Trym.ntmps5
  go_wp2_with (first | (go_at_call 14; refine (bytes14_ok s _ (by omega)).mono ?_; rintro e w' ⟨rfl, rfl⟩) | (go_at_call 15; refine (c5.out _).mono ?_; rintro e w1 ⟨v, rfl, hown, hb1⟩; have hcv := c1.out _ v _ hown) | (go_at_call 16; refine (c2.out _).mono ?_; rintro e w2 ⟨b, rfl, hb2⟩))
  refine (c3.out _).mono ?_
  rintro e w3 ⟨rfl, hb3⟩
  go_wp2_with fail
  refine (c4.out _).mono ?_
  rintro e w4 ⟨rfl, hb4⟩
  go_wp2_with fail
  go_ret
  exact ⟨by simp, ((hb1.trans (hb2.mono hb1.size)).trans (hb3.mono (by have := hb1.size; have := hb2.size; omega))).trans (hb4.mono (by have := hb1.size; have := hb2.size; have := hb3.size; omega))⟩

end Go.Proofs.Qxb6603171aMods
