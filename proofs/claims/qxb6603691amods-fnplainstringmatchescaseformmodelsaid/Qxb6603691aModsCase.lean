/-
  mfb1Lower, mfb1CaseForm.
-/
import Derived.Test.Qxb6603691aModsWords
namespace Go.Proofs.Qxb6603691aMods
open Go.RowKit

theorem Trym.info5 : (Trym.prog.info? 5).map (fun i => (i.zero, i.size, i.bytes)) = some (some (.int .u8 0), 1, 1) := by kernel_rfl

/-- 'string(b)' of what the call owns. -/
theorem own_string {w : World} {base g n : Nat} {cs : List Int} (h : w.ownsRow base 5 1 (.slice (some ⟨g, 0, none⟩) cs.length n) cs.length (cs.map (Value.int .u8))) :
    (convert 22 9 (.slice (some ⟨g, 0, none⟩) cs.length n)).run Trym.prog w = .ok (.string (strOfNums cs)) w := by
  refine run_convert_bytes_arg w 22 5 Trym.underlying22 Trym.underlying5 g 0 cs.length n cs rfl (fun i hi => ?_) 9 Trym.underlying9
  have := h.cellAt i (by omega)
  rw [Nat.zero_add, this]
  simp [List.getD, hi]

theorem take_snoc (s : ByteArray) (k : Nat) (h : k < s.size) : (toI s).take (k + 1) = (toI s).take k ++ [(s[k].toNat : Int)] := by
  rw [List.take_succ_eq_append_getElem (by rw [toI_length]; exact h), toI_get s k h]

theorem low_step (s : ByteArray) (k : Nat) (h : k < s.size) (xs : List Value) (hl : xs.length = s.size) (c : Int) (hc : Yw.low1 (s[k].toNat : Int) = c)
    (ht : Hid (xs.take k = (Yw.low ((toI s).take k)).map (Value.int .u8))) : Hid ((xs.set k (.int .u8 c)).take (k + 1) = (Yw.low ((toI s).take (k + 1))).map (Value.int .u8)) := by
  have e1 : (xs.set k (.int .u8 c)).take (k + 1) = xs.take k ++ [.int .u8 c] := by
    rw [List.take_succ_eq_append_getElem (by simp; omega), List.take_set_of_le (Nat.le_refl _)]
    simp
  rw [e1, ht.out, take_snoc s k h]
  simp [Hid, Yw.low, hc]

set_option maxHeartbeats 1000000 in
theorem lower_any (s : ByteArray) (hs : s.size ≤ 1048576) (w : World) :
    Calls Trym.prog 15 #[.string s] w fun e w' => e = .returned (.string (strOfNums (Yw.low (toI s)))) ∧ Below w.heap.size w w' := by
  obtain ⟨i0, hi, hz0, hz1, hz2⟩ := info_parts Trym.info5
  go_enter Trym.func15, Trym.ntmps15
  go_wp2_with (at_make; refine wpList_make_full _ rfl _ _ 22 rfl w.heap.size 5 i0 (.int .u8 0) 1 Trym.underlying22 hi hz0 hz1 _ _ _ _ s.size rfl rfl rfl rfl (by rw [hz2]; omega) (by unfold maxLen; omega) (by simp) ?_; intro w1 hown1 hgrow1)
  have hsz1 : w.heap.size < w1.heap.size := (hown1.lt w.heap.size rfl).2
  generalize (madeCells (Value.int .u8 0).cells (s.size * 1)).toList = xs1 at hown1
  go_loopw [4] (fun i wr => ∃ (k : Nat) (xs : List Value), k ≤ s.size ∧ i = .int .i64 k ∧ xs.length = s.size ∧ Hid (xs.take k = (Yw.low ((toI s).take k)).map (Value.int .u8)) ∧
      wr.ownsRow w.heap.size 5 1 (.slice (some ⟨w.heap.size, 0, none⟩) s.size s.size) s.size xs ∧ Below w.heap.size w wr ∧ w.heap.size < wr.heap.size)
    (fun i _ => s.size - (intOf i).toNat)
  case atStart => exact ⟨0, xs1, Nat.zero_le _, rfl, by have := hown1.1; omega, (by rfl : _ = _), hown1, (Below.refl _ _).grown hgrow1 (Nat.le_refl _) (by simp), hsz1⟩
  case round =>
    obtain ⟨k, xs, hk, rfl, hl, ht, hown, hbel, hsz⟩ := hrel
    clear hown1 hgrow1 hsz1
    have HL : Hid (xs.length = s.size) := hl
    clear hl
    by_cases hlt : k < s.size
    · have bk := byte_bd s[k]
      have hl := HL.out
      obtain ⟨x0, hc0⟩ : ∃ x0, wr.cell? ⟨w.heap.size, k, none⟩ = some x0 := ⟨xs[k], by rw [hown.cellAt k (by omega), List.getElem?_eq_getElem (by omega)]⟩
      have hf0 := hown.frozenAt k
      clear hl
      by_cases hu : 65 ≤ (s[k].toNat : Int) ∧ (s[k].toNat : Int) ≤ 90
      · obtain ⟨hu1, hu2⟩ := hu
        have T := low_step s k hlt xs HL.out ((s[k].toNat : Int) + 32) (by simp [Yw.low1, Yw.isU, hu1, hu2]) ht
        go_wp2_with fail
        have R := hown.stored k (.int .u8 ((s[k].toNat : Int) + 32))
        go_roundw
        case rel => exact ⟨k + 1, _, by omega, by go_num, by simp [HL.out], T, R.1, hbel.setCell (by simp) _, by simpa [World.setCell] using hsz⟩
        case measure => simp [intOf]; omega
      · have T := low_step s k hlt xs HL.out (s[k].toNat : Int) (by simp only [Yw.low1, Yw.isU, Bool.and_eq_true, decide_eq_true_eq]; rw [if_neg hu]) ht
        by_cases hu1 : 65 ≤ (s[k].toNat : Int)
        · have hu2 : ¬ (s[k].toNat : Int) ≤ 90 := fun h => hu ⟨hu1, h⟩
          clear hu
          go_wp2_with fail
          have R := hown.stored k (.int .u8 (s[k].toNat : Int))
          go_roundw
          case rel => exact ⟨k + 1, _, by omega, by go_num, by simp [HL.out], T, R.1, hbel.setCell (by simp) _, by simpa [World.setCell] using hsz⟩
          case measure => simp [intOf]; omega
        · clear hu
          go_wp2_with fail
          have R := hown.stored k (.int .u8 (s[k].toNat : Int))
          go_roundw
          case rel => exact ⟨k + 1, _, by omega, by go_num, by simp [HL.out], T, R.1, hbel.setCell (by simp) _, by simpa [World.setCell] using hsz⟩
          case measure => simp [intOf]; omega
    · obtain rfl : k = s.size := by omega
      have e1 : xs = (Yw.low (toI s)).map (Value.int .u8) := by
        have := ht.out
        rw [List.take_of_length_le (by rw [HL.out]; omega), List.take_of_length_le (by rw [toI_length]; omega)] at this
        exact this
      have e2 : s.size = (Yw.low (toI s)).length := by simp [Yw.low, toI_length]
      have hstr : (convert 22 9 (.slice (some ⟨w.heap.size, 0, none⟩) s.size s.size)).run Trym.prog wr = .ok (.string (strOfNums (Yw.low (toI s)))) wr := by
        have h2 : wr.ownsRow w.heap.size 5 1 (.slice (some ⟨w.heap.size, 0, none⟩) (Yw.low (toI s)).length s.size) (Yw.low (toI s)).length ((Yw.low (toI s)).map (Value.int .u8)) := by
          rw [← e2, ← e1]; exact hown
        have h3 := own_string h2
        rw [← e2] at h3
        exact h3
      clear ht e1 e2 HL
      go_wp2
      go_ret
      exact ⟨rfl, hbel⟩

theorem case_step (s : ByteArray) (k : Nat) (h : k < s.size) (la ua ca : Bool) (hH : Hid (la = Yw.allLow ((toI s).take k) ∧ ua = Yw.allUp ((toI s).take k) ∧ ca = Yw.capd ((toI s).take k))) :
    Hid ((la && !Yw.isU (s[k].toNat : Int)) = Yw.allLow ((toI s).take (k + 1)) ∧ (ua && !Yw.isL (s[k].toNat : Int)) = Yw.allUp ((toI s).take (k + 1)) ∧
      (ca && if k = 0 then !Yw.isL (s[k].toNat : Int) else !Yw.isU (s[k].toNat : Int)) = Yw.capd ((toI s).take (k + 1))) := by
  obtain ⟨rfl, rfl, rfl⟩ := hH.out
  have hl : ((toI s).take k).length = k := by rw [List.length_take, toI_length]; omega
  rw [take_snoc s k h, Yw.allLow_snoc, Yw.allUp_snoc, Yw.capd_snoc, hl]
  exact ⟨rfl, rfl, rfl⟩

theorem kinds (c : Int) : (65 ≤ c ∧ c ≤ 90 ∧ Yw.isU c = true ∧ Yw.isL c = false) ∨ (97 ≤ c ∧ c ≤ 122 ∧ Yw.isU c = false ∧ Yw.isL c = true) ∨
    ((c < 65 ∨ (90 < c ∧ c < 97) ∨ 122 < c) ∧ Yw.isU c = false ∧ Yw.isL c = false) := by
  by_cases h1 : 65 ≤ c ∧ c ≤ 90
  · refine .inl ⟨h1.1, h1.2, by simp [Yw.isU, h1.1, h1.2], ?_⟩
    simp [Yw.isL]; omega
  · by_cases h2 : 97 ≤ c ∧ c ≤ 122
    · refine .inr (.inl ⟨h2.1, h2.2, ?_, by simp [Yw.isL, h2.1, h2.2]⟩)
      simp [Yw.isU]; omega
    · refine .inr (.inr ⟨by omega, ?_, ?_⟩)
      · simp [Yw.isU]; omega
      · simp [Yw.isL]; omega

set_option maxHeartbeats 2000000 in
theorem caseForm_any (s : ByteArray) (hs : s.size ≤ 1048576) (w : World) :
    Calls Trym.prog 16 #[.string s] w fun e w' => e = .returned (.bool (Yw.caseForm (toI s))) ∧ w = w' := by
  go_enter Trym.func16, Trym.ntmps16
  go_wp2
  go_loop [3, 4, 5, 6] (fun a b c i => ∃ (k : Nat) (la ua ca : Bool), k ≤ s.size ∧ i = .int .i64 k ∧ a = .bool la ∧ b = .bool ua ∧ c = .bool ca ∧
      Hid (la = Yw.allLow ((toI s).take k) ∧ ua = Yw.allUp ((toI s).take k) ∧ ca = Yw.capd ((toI s).take k))) (fun _ _ _ i => s.size - (intOf i).toNat)
  case atStart => exact ⟨0, true, true, true, Nat.zero_le _, rfl, rfl, rfl, rfl, (by refine ⟨?_, ?_, ?_⟩ <;> rfl)⟩
  case round =>
    obtain ⟨k, la, ua, ca, hk, rfl, rfl, rfl, rfl, hH⟩ := hrel
    by_cases hlt : k < s.size
    · have bk := byte_bd s[k]
      have E := case_step s k hlt la ua ca hH
      clear hH
      rcases kinds (s[k].toNat : Int) with ⟨u1, u2, hU, hL⟩ | ⟨u1, u2, hU, hL⟩ | ⟨u1, hU, hL⟩
      · by_cases h0 : k = 0
        · subst h0
          simp only [hU, hL, if_true, Bool.not_true, Bool.not_false, Bool.and_true, Bool.and_false] at E
          clear hU hL
          go_wp2
          all_goals
            go_round
            case rel => exact ⟨1, _, _, _, by omega, by go_num, rfl, rfl, rfl, E⟩
            case measure => simp [intOf]; omega
        · simp only [hU, hL, h0, if_false, Bool.not_true, Bool.not_false, Bool.and_true, Bool.and_false] at E
          clear hU hL
          go_wp2
          all_goals
            go_round
            case rel => exact ⟨k + 1, _, _, _, by omega, by go_num, rfl, rfl, rfl, E⟩
            case measure => simp [intOf]; omega
      · by_cases h0 : k = 0
        · subst h0
          simp only [hU, hL, if_true, Bool.not_true, Bool.not_false, Bool.and_true, Bool.and_false] at E
          clear hU hL
          go_wp2
          all_goals
            go_round
            case rel => exact ⟨1, _, _, _, by omega, by go_num, rfl, rfl, rfl, E⟩
            case measure => simp [intOf]; omega
        · simp only [hU, hL, h0, if_false, Bool.not_true, Bool.not_false, Bool.and_true, Bool.and_false] at E
          have h0' : ((k : Int) == 0) = false := by rw [beq_eq_false_iff_ne]; omega
          clear hU hL
          go_wp2
          all_goals
            go_round
            case rel => exact ⟨k + 1, _, _, _, by omega, by go_num, rfl, rfl, rfl, E⟩
            case measure => simp [intOf]; omega
      · simp only [hU, hL, ite_self, Bool.not_false, Bool.and_true] at E
        clear hU hL
        rcases u1 with u1 | ⟨u1, u2⟩ | u1
        all_goals
          go_wp2
          go_round
          case rel => exact ⟨k + 1, _, _, _, by omega, by go_num, rfl, rfl, rfl, E⟩
          case measure => simp [intOf]; omega
    · have F : Hid (Yw.caseForm (toI s) = (la || ua || ca)) := by
        have := hH.out
        rw [List.take_of_length_le (by rw [toI_length]; omega)] at this
        rw [Yw.caseForm, ← this.1, ← this.2.1, ← this.2.2]; exact rfl
      clear hH
      cases la <;> cases ua <;> cases ca
      all_goals
        go_wp2
        go_ret
        exact ⟨ret_bool (by rw [F.out]; rfl), rfl⟩

end Go.Proofs.Qxb6603691aMods
