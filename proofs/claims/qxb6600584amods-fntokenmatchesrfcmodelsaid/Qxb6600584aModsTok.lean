/-
  token AGAINST THE MODEL OF RFC 2616: the contracts and the law's walk.
-/
import Derived.Test.Qxb6600584aModsRows
import Derived.WalkKit
import Derived.WalkSpells
import Derived.Lib.Walk
import Derived.Lib.Strings
import Derived.Lib.Bytealg
import Derived.BigCall
import Derived.BigGuard
namespace Go.Proofs.Qxb6600584aMods
open Go.RowKit

def toI (s : ByteArray) : List Int := s.data.toList.map fun b => (b.toNat : Int)
theorem toI_length (s : ByteArray) : (toI s).length = s.size := by
  simp only [toI, List.length_map, Array.length_toList]; rfl
theorem toI_get (s : ByteArray) (k : Nat) (h : k < s.size) : (toI s)[k]'(by rw [toI_length]; exact h) = (s[k].toNat : Int) := by
  simp [toI]; rfl
theorem byte_bd (b : UInt8) : (0 : Int) ≤ (b.toNat : Int) ∧ (b.toNat : Int) < 256 := by have := b.toNat_lt; omega
theorem isEmpty_iff (s : ByteArray) : s.toList.isEmpty = decide (s.size = 0) := by
  rw [ByteArray.toList_eq, show s.size = s.data.toList.length from (Array.length_toList).symm]
  cases s.data.toList <;> simp
theorem ret_bool {a b : Bool} (h : a = b) : Ending.returned (.bool a) = .returned (.bool b) := by rw [h]

/-- The separators; the characters of a token. -/
def sepB (c : Int) : Bool := c == 40 || c == 41 || c == 60 || c == 62 || c == 64 || c == 44 || c == 59 || c == 58 || c == 92 || c == 34 || c == 47 || c == 91 || c == 93 || c == 63 || c == 61 || c == 123 || c == 125
def tokB (c : Int) : Bool := decide (33 ≤ c) && decide (c ≤ 126) && !sepB c
def allT (s : ByteArray) : Bool := decide (0 < s.size) && (toI s).all tokB

theorem all_take (s : ByteArray) (k : Nat) (h : k < s.size) (hk : ((toI s).take k).all tokB = true) (hc : tokB (s[k].toNat : Int) = true) : ((toI s).take (k + 1)).all tokB = true := by
  rw [List.take_succ_eq_append_getElem (by rw [toI_length]; exact h), List.all_append, hk, toI_get s k h]
  simp [hc]
theorem all_not (s : ByteArray) (k : Nat) (h : k < s.size) (hc : tokB (s[k].toNat : Int) = false) : allT s = false := by
  have : (toI s).all tokB = false := by
    rw [List.all_eq_false]
    refine ⟨(toI s)[k]'(by rw [toI_length]; exact h), List.getElem_mem _, ?_⟩
    rw [toI_get s k h, hc]; simp
  simp [allT, this]
theorem all_end (s : ByteArray) (k : Nat) (h : s.size ≤ k) (hk : ((toI s).take k).all tokB = true) : allT s = decide (0 < s.size) := by
  rw [List.take_of_length_le (by rw [toI_length]; exact h)] at hk
  simp [allT, hk]

/-! ### the bound on the length -/
set_option maxHeartbeats 400000 in
theorem bytes9_big (s : ByteArray) (w : World) (h : 1048576 < s.size) :
    Calls Trym.prog 9 #[.string s] w fun e w' => e = .returned (.bool false) ∧ w = w' := by
  go_enter Trym.func9, Trym.ntmps9
  go_wp2
  go_ret
  exact ⟨rfl, rfl⟩
set_option maxHeartbeats 400000 in
theorem bytes9_ok (s : ByteArray) (w : World) (h : s.size ≤ 1048576) :
    Calls Trym.prog 9 #[.string s] w fun e w' => e = .returned (.bool true) ∧ w = w' := by
  go_enter Trym.func9, Trym.ntmps9
  go_wp2
  go_ret
  exact ⟨rfl, rfl⟩

/-! ### the model -/
set_option maxHeartbeats 2000000 in
theorem sep_any (c : Int) (w : World) :
    Calls Trym.prog 28 #[.int .u8 c] w fun e w' => e = .returned (.bool (sepB c)) ∧ w = w' := by
  go_enter Trym.func28, Trym.ntmps28
  go_wp2
  all_goals first
    | (exfalso; simp_all; done)
    | (go_ret; exact ⟨ret_bool (by simp [sepB, *]), rfl⟩)

set_option maxHeartbeats 1000000 in
theorem char_any (c : Int) (w : World) :
    Calls Trym.prog 24 #[.int .u8 c] w fun e w' => e = .returned (.bool (tokB c)) ∧ w = w' := by
  by_cases h1 : c < 33
  · have e : tokB c = false := by simp [tokB]; omega
    rw [e]
    clear e
    go_enter Trym.func24, Trym.ntmps24
    go_wp2_with fail
    go_ret
    exact ⟨rfl, rfl⟩
  · by_cases h2 : 126 < c
    · have e : tokB c = false := by simp [tokB]; omega
      rw [e]
      clear e
      go_enter Trym.func24, Trym.ntmps24
      go_wp2_with fail
      go_ret
      exact ⟨rfl, rfl⟩
    · have e : tokB c = !sepB c := by
        have a : 33 ≤ c := by omega
        have b : c ≤ 126 := by omega
        simp [tokB, a, b]
      rw [e]
      clear e
      go_enter Trym.func24, Trym.ntmps24
      go_wp2_with (go_at_call 28; refine (sep_any _ _).mono ?_; rintro e w' ⟨rfl, rfl⟩)
      go_ret
      exact ⟨rfl, rfl⟩

set_option maxHeartbeats 1000000 in
theorem model_any (s : ByteArray) (hs : s.size ≤ 1048576) (w : World) :
    Calls Trym.prog 11 #[.string s] w fun e w' => e = .returned (.bool (allT s)) ∧ w = w' := by
  by_cases h0 : s.size = 0
  · have e : allT s = false := by simp [allT, h0]
    rw [e]
    have h0' : ((s.size : Int) == 0) = true := by simp [h0]
    clear e h0
    go_enter Trym.func11, Trym.ntmps11
    go_wp2_with fail
    go_ret
    exact ⟨rfl, rfl⟩
  · have h0' : ((s.size : Int) == 0) = false := by rw [beq_eq_false_iff_ne]; omega
    go_enter Trym.func11, Trym.ntmps11
    go_wp2_with fail
    go_loopw [3] (fun i wr => wr = w ∧ ∃ k : Nat, k ≤ s.size ∧ i = .int .i64 k ∧ Hid (((toI s).take k).all tokB = true)) (fun i _ => s.size - (intOf i).toNat)
    case atStart => exact ⟨rfl, 0, Nat.zero_le _, rfl, (by rfl : _ = _)⟩
    case round =>
      obtain ⟨hw, k, hk, rfl, HA⟩ := hrel
      have hw' := hw.symm
      subst hw'
      clear hw
      by_cases hlt : k < s.size
      · cases hc : tokB (s[k].toNat : Int) with
        | true =>
          have HA2 : Hid (((toI s).take (k + 1)).all tokB = true) := all_take s k hlt HA.out hc
          go_wp2_with (go_at_call 24; refine (char_any _ _).mono ?_; rintro e w' ⟨rfl, rfl⟩; rw [hc])
          go_roundw
          case rel => exact ⟨trivial, k + 1, by omega, by go_num, HA2⟩
          case measure => simp [intOf]; omega
        | false =>
          have HF : Hid (allT s = false) := all_not s k hlt hc
          go_wp2_with (go_at_call 24; refine (char_any _ _).mono ?_; rintro e w' ⟨rfl, rfl⟩; rw [hc])
          go_ret
          exact ⟨ret_bool HF.out.symm, rfl⟩
      · have HF : Hid (allT s = true) := by rw [all_end s k (by omega) HA.out]; simp [Hid]; omega
        go_wp2_with fail
        go_ret
        exact ⟨ret_bool HF.out.symm, rfl⟩

/-! ### strings.IndexByte -/
set_option maxHeartbeats 1000000 in
set_option maxRecDepth 100000 in
theorem slIndexByte (s : ByteArray) (c : Int) (w : World) :
    Calls Trym.prog 29 #[.string s, .int .u8 c] w fun e w' => e = .returned (.int .i64 (Lib.indexByte s.data.toList c.toNat.toUInt8)) ∧ w = w' := by
  go_enter Trym.func29, Trym.ntmps29
  go_wp2
  rw [run_callFunc_extern Trym.func30 (by kernel_rfl) (by kernel_rfl) (by kernel_rfl) (e := Extern.BytealgIndexByte.indexByte) (by kernel_rfl), Lib.run_indexByteString]
  simp only [Result.andThen]
  rw [Oper.upon_value]
  go_wp2
  go_ret
  exact ⟨rfl, rfl⟩
set_option maxHeartbeats 1000000 in
theorem stIndexByte (s : ByteArray) (c : Int) (w : World) :
    Calls Trym.prog 27 #[.string s, .int .u8 c] w fun e w' => e = .returned (.int .i64 (Lib.indexByte s.data.toList c.toNat.toUInt8)) ∧ w = w' := by
  go_enter Trym.func27, Trym.ntmps27
  go_wp2_with (go_at_call 29; refine (slIndexByte _ _ _).mono ?_; rintro e w' ⟨rfl, rfl⟩)
  go_ret
  exact ⟨rfl, rfl⟩

def alnum (c : Int) : Bool := (decide (97 ≤ c) && decide (c ≤ 122)) || (decide (65 ≤ c) && decide (c ≤ 90)) || (decide (48 ≤ c) && decide (c ≤ 57))
theorem alnum_fin : ∀ n : Fin 256, alnum ((n.val : Nat) : Int) = true → tokB ((n.val : Nat) : Int) = true := by decide +kernel
theorem alnum_tok (c : Int) (h : 0 ≤ c ∧ c < 256) (ha : alnum c = true) : tokB c = true := by
  have := alnum_fin ⟨c.toNat, by omega⟩
  simp only [Int.toNat_of_nonneg h.1] at this
  exact this ha
theorem idx_fin : ∀ n : Fin 256, alnum ((n.val : Nat) : Int) = false → decide (0 ≤ Lib.indexByte [33, 35, 36, 37, 38, 39, 42, 43, 45, 46, 94, 95, 96, 124, 126] (n.val.toUInt8)) = tokB ((n.val : Nat) : Int) := by decide +kernel
theorem idx_tok (c : Int) (h : 0 ≤ c ∧ c < 256) (ha : alnum c = false) (w : World) :
    Calls Trym.prog 27 #[.string { data := #[33, 35, 36, 37, 38, 39, 42, 43, 45, 46, 94, 95, 96, 124, 126] }, .int .u8 c] w fun e w' => ∃ i : Int, e = .returned (.int .i64 i) ∧ decide (0 ≤ i) = tokB c ∧ w = w' := by
  refine (stIndexByte _ c w).mono fun e w' ⟨a, b⟩ => ⟨_, a, ?_, b⟩
  have := idx_fin ⟨c.toNat, by omega⟩
  simp only [Int.toNat_of_nonneg h.1] at this
  exact this ha

/-! ### token -/
theorem kinds (c : Int) : (97 ≤ c ∧ c ≤ 122 ∧ alnum c = true) ∨ (65 ≤ c ∧ c ≤ 90 ∧ alnum c = true) ∨ (48 ≤ c ∧ c ≤ 57 ∧ alnum c = true) ∨ ((c < 48 ∨ (57 < c ∧ c < 65) ∨ (90 < c ∧ c < 97) ∨ 122 < c) ∧ alnum c = false) := by
  by_cases h1 : 97 ≤ c ∧ c ≤ 122
  · exact .inl ⟨h1.1, h1.2, by simp [alnum, h1.1, h1.2]⟩
  · by_cases h2 : 65 ≤ c ∧ c ≤ 90
    · exact .inr (.inl ⟨h2.1, h2.2, by simp [alnum, h2.1, h2.2]⟩)
    · by_cases h3 : 48 ≤ c ∧ c ≤ 57
      · exact .inr (.inr (.inl ⟨h3.1, h3.2, by simp [alnum, h3.1, h3.2]⟩))
      · refine .inr (.inr (.inr ⟨by omega, ?_⟩))
        simp [alnum]; omega

set_option maxHeartbeats 2000000 in
theorem token_any (s : ByteArray) (hs : s.size ≤ 1048576) (w : World) :
    Calls Trym.prog 23 #[.string s] w fun e w' => e = .returned (.bool (allT s)) ∧ w = w' := by
  go_enter Trym.func23, Trym.ntmps23
  go_wp2_with fail
  go_loopw [3] (fun i wr => wr = w ∧ ∃ k : Nat, k ≤ s.size ∧ i = .int .i64 k ∧ Hid (((toI s).take k).all tokB = true)) (fun i _ => s.size - (intOf i).toNat)
  case atStart => exact ⟨rfl, 0, Nat.zero_le _, rfl, (by rfl : _ = _)⟩
  case round =>
    obtain ⟨hw, k, hk, rfl, HA⟩ := hrel
    have hw' := hw.symm
    subst hw'
    clear hw
    by_cases hlt : k < s.size
    · have bk := byte_bd s[k]
      rcases kinds (s[k].toNat : Int) with ⟨u1, u2, ha⟩ | ⟨u1, u2, ha⟩ | ⟨u1, u2, ha⟩ | ⟨u1, ha⟩
      · have HA2 : Hid (((toI s).take (k + 1)).all tokB = true) := all_take s k hlt HA.out (alnum_tok _ bk ha)
        clear ha
        go_wp2_with fail
        go_roundw
        case rel => exact ⟨trivial, k + 1, by omega, by go_num, HA2⟩
        case measure => simp [intOf]; omega
      · have HA2 : Hid (((toI s).take (k + 1)).all tokB = true) := all_take s k hlt HA.out (alnum_tok _ bk ha)
        clear ha
        go_wp2_with fail
        go_roundw
        case rel => exact ⟨trivial, k + 1, by omega, by go_num, HA2⟩
        case measure => simp [intOf]; omega
      · have HA2 : Hid (((toI s).take (k + 1)).all tokB = true) := all_take s k hlt HA.out (alnum_tok _ bk ha)
        clear ha
        go_wp2_with fail
        go_roundw
        case rel => exact ⟨trivial, k + 1, by omega, by go_num, HA2⟩
        case measure => simp [intOf]; omega
      · have HI : Hid (∀ w, Calls Trym.prog 27 #[.string { data := #[33, 35, 36, 37, 38, 39, 42, 43, 45, 46, 94, 95, 96, 124, 126] }, .int .u8 (s[k].toNat : Int)] w fun e w' => ∃ i : Int, e = .returned (.int .i64 i) ∧ decide (0 ≤ i) = tokB (s[k].toNat : Int) ∧ w = w') := fun w => idx_tok _ bk ha w
        clear ha
        cases hc : tokB (s[k].toNat : Int) with
        | true =>
          have HA2 : Hid (((toI s).take (k + 1)).all tokB = true) := all_take s k hlt HA.out hc
          rcases u1 with u1 | ⟨u1, u2⟩ | ⟨u1, u2⟩ | u1
          all_goals
            go_wp2_with (go_at_call 27; refine (HI.out _).mono ?_; rintro e w' ⟨i, rfl, hi, rfl⟩; rw [hc] at hi)
            go_roundw
            case rel => exact ⟨trivial, k + 1, by omega, by go_num, HA2⟩
            case measure => simp [intOf]; omega
        | false =>
          have HF : Hid (allT s = false) := all_not s k hlt hc
          have W : Hid (allT s = false) := HF
          rcases u1 with u1 | ⟨u1, u2⟩ | ⟨u1, u2⟩ | u1
          · go_wp2_with (go_at_call 27; refine (HI.out _).mono ?_; rintro e w' ⟨i, rfl, hi, rfl⟩; rw [hc] at hi)
            go_ret
            exact ⟨ret_bool W.out.symm, rfl⟩
          · have d57 : decide ((s[k].toNat : Int) ≤ 57) = false := decide_eq_false (by omega)
            go_wp2_with (go_at_call 27; refine (HI.out _).mono ?_; rintro e w' ⟨i, rfl, hi, rfl⟩; rw [hc] at hi)
            go_ret
            exact ⟨ret_bool W.out.symm, rfl⟩
          · have d57 : decide ((s[k].toNat : Int) ≤ 57) = false := decide_eq_false (by omega)
            have d90 : decide ((s[k].toNat : Int) ≤ 90) = false := decide_eq_false (by omega)
            go_wp2_with (go_at_call 27; refine (HI.out _).mono ?_; rintro e w' ⟨i, rfl, hi, rfl⟩; rw [hc] at hi)
            go_ret
            exact ⟨ret_bool W.out.symm, rfl⟩
          · have d57 : decide ((s[k].toNat : Int) ≤ 57) = false := decide_eq_false (by omega)
            have d90 : decide ((s[k].toNat : Int) ≤ 90) = false := decide_eq_false (by omega)
            have d122 : decide ((s[k].toNat : Int) ≤ 122) = false := decide_eq_false (by omega)
            go_wp2_with (go_at_call 27; refine (HI.out _).mono ?_; rintro e w' ⟨i, rfl, hi, rfl⟩; rw [hc] at hi)
            go_ret
            exact ⟨ret_bool W.out.symm, rfl⟩
    · have HF : Hid (allT s = !s.toList.isEmpty) := by
        rw [all_end s k (by omega) HA.out, isEmpty_iff]
        by_cases h0 : s.size = 0
        · simp [Hid, h0]
        · have : 0 < s.size := by omega
          simp [Hid, h0, this]
      clear HA
      go_wp2_with fail
      go_ret
      exact ⟨ret_bool HF.out.symm, rfl⟩

set_option maxHeartbeats 400000 in
theorem zztoken (s : ByteArray) (hs : s.size ≤ 1048576) (w : World) :
    Calls Trym.prog 10 #[.string s] w fun e w' => e = .returned (.bool (allT s)) ∧ w = w' := by
  go_enter Trym.func10, Trym.ntmps10
  go_wp2_with (go_at_call 23; refine (token_any s hs _).mono ?_; rintro e w' ⟨rfl, rfl⟩)
  go_ret
  exact ⟨rfl, rfl⟩

set_option maxHeartbeats 1000000 in
theorem lawT (s : ByteArray) (w : World) :
    Calls Trym.prog 3 #[.string s] w fun e w' => e = .returned (.bool true) ∧ Below w.heap.size w w' := by
  by_cases h1 : 1048576 < s.size
  · go_enter Trym.func3, Trym.ntmps3
    go_wp2_with (go_at_call 9; refine (bytes9_big s _ h1).mono ?_; rintro e w' ⟨rfl, rfl⟩)
    go_ret
    exact ⟨rfl, Below.refl _ _⟩
  · have hz : Hid (∀ w, Calls Trym.prog 10 #[.string s] w fun e w' => e = .returned (.bool (allT s)) ∧ w = w') := fun w => zztoken s (by omega) w
    have hm : Hid (∀ w, Calls Trym.prog 11 #[.string s] w fun e w' => e = .returned (.bool (allT s)) ∧ w = w') := fun w => model_any s (by omega) w
    generalize allT s = b at hz hm
    cases b
    all_goals
      go_enter Trym.func3, Trym.ntmps3
      go_wp2_with (first | (go_at_call 9; refine (bytes9_ok s _ (by omega)).mono ?_; rintro e w' ⟨rfl, rfl⟩) | (go_at_call 10; refine (hz.out _).mono ?_; rintro e w' ⟨rfl, rfl⟩) | (go_at_call 11; refine (hm.out _).mono ?_; rintro e w' ⟨rfl, rfl⟩))
      go_ret
      exact ⟨rfl, Below.refl _ _⟩

end Go.Proofs.Qxb6600584aMods
