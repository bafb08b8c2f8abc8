/-
  THE LAW's WALK: plainString against the model of case forms.
-/
import Derived.Test.Qxb6603691aModsCase
namespace Go.Proofs.Qxb6603691aMods
open Go.RowKit

theorem toI_str (l : List Int) (h : ∀ c ∈ l, 0 ≤ c ∧ c < 256) : toI (strOfNums l) = l := by
  unfold toI
  rw [strOfNums_data, List.map_map]
  conv => rhs; rw [← List.map_id l]
  apply List.map_congr_left
  intro n hn
  have := h n hn
  show ((UInt8.ofNat n.toNat).toNat : Int) = n
  rw [UInt8.toNat_ofNat', Nat.mod_eq_of_lt (by omega)]
  omega
theorem low_bd (s : ByteArray) : ∀ c ∈ Yw.low (toI s), 0 ≤ c ∧ c < 256 := by
  intro c hc
  simp only [Yw.low, toI, List.mem_map] at hc
  obtain ⟨_, ⟨b, _, rfl⟩, rfl⟩ := hc
  have := byte_bd b
  unfold Yw.low1 Yw.isU
  simp only [Bool.and_eq_true, decide_eq_true_eq]
  split <;> omega
theorem kwl_low (s : ByteArray) : kwlU (strOfNums (Yw.low (toI s))).toList = Yw.kwl (Yw.low (toI s)) := by
  rw [kwlU_eq, toI_str _ (low_bd s)]

set_option maxHeartbeats 2000000 in
theorem lawP (s : ByteArray) (w : World) :
    Calls Trym.prog 5 #[.string s] w fun e w' => e = .returned (.bool true) ∧ Below w.heap.size w w' := by
  by_cases h1 : 1048576 < s.size
  · go_enter Trym.func5, Trym.ntmps5
    go_wp2_with (go_at_call 12; refine (bytes12_big s _ h1).mono ?_; rintro e w' ⟨rfl, rfl⟩)
    go_ret
    exact ⟨rfl, Below.refl _ _⟩
  have hok : Hid (∀ w, Calls Trym.prog 12 #[.string s] w fun e w' => e = .returned (.bool true) ∧ w = w') := fun w => bytes12_ok s w (by omega)
  by_cases h0 : s.size = 0
  · have hem : s.toList.isEmpty = true := by rw [isEmpty_iff]; simpa using h0
    have hP : Hid (∀ w, Calls Trym.prog 17 #[.string s] w fun e w' => e = .returned (.bool false) ∧ w = w') := fun w => zz_of w (plain_empty s hem)
    have h0' : ((s.size : Int) == 0) = true := by simp [h0]
    clear h0 hem
    go_enter Trym.func5, Trym.ntmps5
    go_wp2_with (first | (go_at_call 12; refine (hok.out _).mono ?_; rintro e w' ⟨rfl, rfl⟩) | (go_at_call 17; refine (hP.out _).mono ?_; rintro e w' ⟨rfl, rfl⟩))
    go_ret
    exact ⟨rfl, Below.refl _ _⟩
  have hp : 0 < s.size := by omega
  have hem : s.toList.isEmpty = false := by rw [isEmpty_iff]; simpa using h0
  have h0' : ((s.size : Int) == 0) = false := by rw [beq_eq_false_iff_ne]; omega
  have b0 := byte_bd s[0]
  cases hnum : Yw.num (s[0].toNat : Int) with
  | true =>
    have hP : Hid (∀ w, Calls Trym.prog 17 #[.string s] w fun e w' => e = .returned (.bool false) ∧ w = w') := fun w => zz_of w (plain_num s hp hem hnum)
    clear h0 hem
    go_enter Trym.func5, Trym.ntmps5
    go_wp2_with (first | (go_at_call 12; refine (hok.out _).mono ?_; rintro e w' ⟨rfl, rfl⟩) | (go_at_call 13; refine (numberStart_any _ _).mono ?_; rintro e w' ⟨rfl, rfl⟩; rw [hnum]) | (go_at_call 17; refine (hP.out _).mono ?_; rintro e w' ⟨rfl, rfl⟩))
    go_ret
    exact ⟨rfl, Below.refl _ _⟩
  | false =>
    have hP0 := fun w => zz_of w (plain_else s hp hem hnum)
    rw [kwU_eq] at hP0
    have t1 := toI_eq s [126]
    have t2 := toI_eq s [60, 60]
    cases ht1 : (s.toList == [126]) with
    | true =>
      have hk : Yw.kw (toI s) = true := by
        rw [ht1] at t1
        have : toI s = [126] := by simpa using t1.symm
        rw [this]; exact Yw.kw_tilde
      rw [hk] at hP0
      have hP : Hid (∀ w, Calls Trym.prog 17 #[.string s] w fun e w' => e = .returned (.bool false) ∧ w = w') := hP0
      clear h0 hem hP0 hk t1 t2
      go_enter Trym.func5, Trym.ntmps5
      go_wp2_with (first | (go_at_call 12; refine (hok.out _).mono ?_; rintro e w' ⟨rfl, rfl⟩) | (go_at_call 13; refine (numberStart_any _ _).mono ?_; rintro e w' ⟨rfl, rfl⟩; rw [hnum]) | (go_at_call 17; refine (hP.out _).mono ?_; rintro e w' ⟨rfl, rfl⟩))
      go_ret
      exact ⟨rfl, Below.refl _ _⟩
    | false =>
      cases ht2 : (s.toList == [60, 60]) with
      | true =>
        have hk : Yw.kw (toI s) = true := by
          rw [ht2] at t2
          have : toI s = [60, 60] := by simpa using t2.symm
          rw [this]; exact Yw.kw_merge
        rw [hk] at hP0
        have hP : Hid (∀ w, Calls Trym.prog 17 #[.string s] w fun e w' => e = .returned (.bool false) ∧ w = w') := hP0
        clear h0 hem hP0 hk t1 t2
        go_enter Trym.func5, Trym.ntmps5
        go_wp2_with (first | (go_at_call 12; refine (hok.out _).mono ?_; rintro e w' ⟨rfl, rfl⟩) | (go_at_call 13; refine (numberStart_any _ _).mono ?_; rintro e w' ⟨rfl, rfl⟩; rw [hnum]) | (go_at_call 17; refine (hP.out _).mono ?_; rintro e w' ⟨rfl, rfl⟩))
        go_ret
        exact ⟨rfl, Below.refl _ _⟩
      | false =>
        rw [ht1] at t1
        rw [ht2] at t2
        have hw := Yw.words (toI s) t1.symm t2.symm
        rw [toI_length] at hw
        have hl : Hid (∀ w, Calls Trym.prog 15 #[.string s] w fun e w' => e = .returned (.string (strOfNums (Yw.low (toI s)))) ∧ Below w.heap.size w w') := fun w => lower_any s (by omega) w
        have hkw : Hid (∀ w, Calls Trym.prog 14 #[.string (strOfNums (Yw.low (toI s)))] w fun e w' => e = .returned (.bool (Yw.kwl (Yw.low (toI s)))) ∧ w = w') := by
          intro w
          have := keyword_any (strOfNums (Yw.low (toI s))) w
          rw [kwl_low] at this
          exact this
        have hcf : Hid (∀ w, Calls Trym.prog 16 #[.string s] w fun e w' => e = .returned (.bool (Yw.caseForm (toI s))) ∧ w = w') := fun w => caseForm_any s (by omega) w
        generalize strOfNums (Yw.low (toI s)) = lo at hl hkw
        generalize Yw.kwl (Yw.low (toI s)) = kb at hkw hw
        generalize Yw.caseForm (toI s) = cb at hcf hw
        rw [hw] at hP0
        clear hw t1 t2 h0 hem
        by_cases h5 : s.size ≤ 5
        · cases kb <;> cases cb
          all_goals
            simp only [h5, decide_true, Bool.and_true, Bool.and_false, Bool.not_true, Bool.not_false] at hP0
            have hP := hP0
            have hP2 : Hid (∀ w, Calls Trym.prog 17 #[.string s] w fun e w' => e = .returned (.bool _) ∧ w = w') := hP
            clear hP hP0
            go_enter Trym.func5, Trym.ntmps5
            go_wp2_with (first | (go_at_call 12; refine (hok.out _).mono ?_; rintro e w' ⟨rfl, rfl⟩) | (go_at_call 13; refine (numberStart_any _ _).mono ?_; rintro e w' ⟨rfl, rfl⟩; rw [hnum]) | (go_at_call 15; refine (hl.out _).mono ?_; rintro e w1 ⟨rfl, hb1⟩) | (go_at_call 14; refine (hkw.out _).mono ?_; rintro e w' ⟨rfl, rfl⟩) | (go_at_call 16; refine (hcf.out _).mono ?_; rintro e w' ⟨rfl, rfl⟩) | (go_at_call 17; refine (hP2.out _).mono ?_; rintro e w' ⟨rfl, rfl⟩))
            go_ret
            exact ⟨rfl, hb1⟩
        · simp only [h5, decide_false, Bool.false_and, Bool.not_false] at hP0
          have hP : Hid (∀ w, Calls Trym.prog 17 #[.string s] w fun e w' => e = .returned (.bool true) ∧ w = w') := hP0
          clear hP0
          go_enter Trym.func5, Trym.ntmps5
          go_wp2_with (first | (go_at_call 12; refine (hok.out _).mono ?_; rintro e w' ⟨rfl, rfl⟩) | (go_at_call 13; refine (numberStart_any _ _).mono ?_; rintro e w' ⟨rfl, rfl⟩; rw [hnum]) | (go_at_call 17; refine (hP.out _).mono ?_; rintro e w' ⟨rfl, rfl⟩))
          go_ret
          exact ⟨rfl, Below.refl _ _⟩

end Go.Proofs.Qxb6603691aMods
