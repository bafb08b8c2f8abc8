/-
  THE SMALL FUNCTIONS' CONTRACTS: the length bounds, hexDigit, zhex, strings.IndexByte; a string as a list of integers.
-/
import Derived.Test.Qxb6603171aModsRows
import Derived.Test.Qxb6603171aModsPlain
import Derived.WalkKit
import Derived.Lib.Walk
import Derived.Lib.Strings
import Derived.Lib.Bytealg
import Derived.BigCall
import Derived.BigGuard
import Derived.Laws.BytesArg
namespace Go.Proofs.Qxb6603171aMods
open Go.RowKit

theorem ret_int {k : IntKind} {a b : Int} (h : a = b) : Ending.returned (.int k a) = .returned (.int k b) := by rw [h]

/-! ### a string as a list of integers -/
def toI (s : ByteArray) : List Int := s.data.toList.map fun b => (b.toNat : Int)

theorem toI_length (s : ByteArray) : (toI s).length = s.size := by
  simp only [toI, List.length_map, Array.length_toList]; rfl
theorem toI_get (s : ByteArray) (k : Nat) (h : k < s.size) : (toI s)[k]'(by rw [toI_length]; exact h) = (s[k].toNat : Int) := by
  simp [toI]; rfl
theorem toI_bd (s : ByteArray) : ∀ c ∈ toI s, 0 ≤ c ∧ c < 256 := by
  intro c hc
  simp only [toI, List.mem_map] at hc
  obtain ⟨b, _, rfl⟩ := hc
  have := b.toNat_lt
  omega
theorem str_toI (s : ByteArray) : strOfNums (toI s) = s := by
  have e : (toI s).map (fun n => UInt8.ofNat n.toNat) = s.data.toList := by
    simp only [toI, List.map_map]
    conv => rhs; rw [← List.map_id s.data.toList]
    apply List.map_congr_left
    intro b _
    simp
  unfold strOfNums
  rw [e]
theorem toI_str (l : List Int) (h : ∀ c ∈ l, 0 ≤ c ∧ c < 256) : toI (strOfNums l) = l := by
  unfold toI
  rw [strOfNums_data, List.map_map]
  conv => rhs; rw [← List.map_id l]
  apply List.map_congr_left
  intro n hn
  have := h n hn
  have e : n.toNat < 256 := by omega
  show ((UInt8.ofNat n.toNat).toNat : Int) = n
  rw [UInt8.toNat_ofNat', Nat.mod_eq_of_lt (by omega)]
  omega
theorem str_ext (a : ByteArray) (l : List Int) (h : l = toI a) : strOfNums l = a := by rw [h, str_toI]

/-! ### the bounds on a length -/
set_option maxHeartbeats 400000 in
theorem bytes8_big (s : ByteArray) (w : World) (h : 1048576 < s.size) :
    Calls Trym.prog 8 #[.string s] w fun e w' => e = .returned (.bool false) ∧ w' = w := by
  go_enter Trym.func8, Trym.ntmps8
  go_wp2
  go_ret
  exact ⟨rfl, rfl⟩

set_option maxHeartbeats 400000 in
theorem bytes8_ok (s : ByteArray) (w : World) (h : s.size ≤ 1048576) :
    Calls Trym.prog 8 #[.string s] w fun e w' => e = .returned (.bool true) ∧ w' = w := by
  go_enter Trym.func8, Trym.ntmps8
  go_wp2
  go_ret
  exact ⟨rfl, rfl⟩

set_option maxHeartbeats 400000 in
theorem bytes11_big (s : ByteArray) (w : World) (h : 1048576 < s.size) :
    Calls Trym.prog 11 #[.string s] w fun e w' => e = .returned (.bool false) ∧ w' = w := by
  go_enter Trym.func11, Trym.ntmps11
  go_wp2
  go_ret
  exact ⟨rfl, rfl⟩

set_option maxHeartbeats 400000 in
theorem bytes11_ok (s : ByteArray) (w : World) (h : s.size ≤ 1048576) :
    Calls Trym.prog 11 #[.string s] w fun e w' => e = .returned (.bool true) ∧ w' = w := by
  go_enter Trym.func11, Trym.ntmps11
  go_wp2
  go_ret
  exact ⟨rfl, rfl⟩

set_option maxHeartbeats 400000 in
theorem bytes14_big (s : ByteArray) (w : World) (h : 1048576 < s.size) :
    Calls Trym.prog 14 #[.string s] w fun e w' => e = .returned (.bool false) ∧ w' = w := by
  go_enter Trym.func14, Trym.ntmps14
  go_wp2
  go_ret
  exact ⟨rfl, rfl⟩

set_option maxHeartbeats 400000 in
theorem bytes14_ok (s : ByteArray) (w : World) (h : s.size ≤ 1048576) :
    Calls Trym.prog 14 #[.string s] w fun e w' => e = .returned (.bool true) ∧ w' = w := by
  go_enter Trym.func14, Trym.ntmps14
  go_wp2
  go_ret
  exact ⟨rfl, rfl⟩

/-! ### hexDigit, zhex -/
set_option maxHeartbeats 400000 in
theorem hexDigit_any (n : Int) (h0 : 0 ≤ n) (h1 : n < 256) (w : World) :
    Calls Trym.prog 26 #[.int .u8 n] w fun e w' => e = .returned (.int .u8 (Esc.hexI n)) ∧ w' = w := by
  go_enter Trym.func26, Trym.ntmps26
  go_wp2
  all_goals
    go_ret
    refine ⟨ret_int ?_, rfl⟩
    unfold Esc.hexI
    split <;> (try split) <;> (try split) <;> omega

theorem hexI_cases (n : Int) (h : Esc.hexI n ≠ 16) : (48 ≤ n ∧ n ≤ 57 ∧ Esc.hexI n = n - 48) ∨ (97 ≤ n ∧ n ≤ 102 ∧ Esc.hexI n = n - 87) ∨ (65 ≤ n ∧ n ≤ 70 ∧ Esc.hexI n = n - 55) := by
  unfold Esc.hexI at h ⊢
  split at h <;> (try split at h) <;> (try split at h) <;> simp_all <;> omega
theorem hexI_not (n : Int) (h : Esc.hexI n = 16) : ¬ (48 ≤ n ∧ n ≤ 57) ∧ ¬ (97 ≤ n ∧ n ≤ 102) ∧ ¬ (65 ≤ n ∧ n ≤ 70) := by
  unfold Esc.hexI at h
  split at h <;> (try split at h) <;> (try split at h) <;> omega

theorem ret_pair {k : IntKind} {a b : Int} {c : Bool} (h : a = b) : Ending.returned (.tuple #[.int k a, .bool c]) = .returned (.tuple #[.int k b, .bool c]) := by rw [h]

set_option maxHeartbeats 400000 in
theorem zhex_yes (n : Int) (h : Esc.hexI n ≠ 16) (w : World) :
    Calls Trym.prog 22 #[.int .u8 n] w fun e w' => e = .returned (.tuple #[.int .u8 (Esc.hexI n), .bool true]) ∧ w' = w := by
  rcases hexI_cases n h with ⟨a, b, e⟩ | ⟨a, b, e⟩ | ⟨a, b, e⟩
  all_goals
    have He : Hid (Esc.hexI n = _) := e
    clear e h
    go_enter Trym.func22, Trym.ntmps22
    go_wp2
    go_ret2
    exact ⟨ret_pair (by rw [He.out]; try omega), rfl⟩

set_option maxHeartbeats 400000 in
theorem zhex_no (n : Int) (h0 : 0 ≤ n) (h1 : n < 256) (h : Esc.hexI n = 16) (w : World) :
    Calls Trym.prog 22 #[.int .u8 n] w fun e w' => e = .returned (.tuple #[.int .u8 0, .bool false]) ∧ w' = w := by
  obtain ⟨a, b, c⟩ := hexI_not n h
  clear h
  go_enter Trym.func22, Trym.ntmps22
  go_wp2
  all_goals first
    | (exfalso; omega)
    | (go_ret2; exact ⟨rfl, rfl⟩)

/-! ### strings.IndexByte -/
set_option maxHeartbeats 1000000 in
set_option maxRecDepth 100000 in
theorem slIndexByte (s : ByteArray) (c : Int) (w : World) :
    Calls Trym.prog 28 #[.string s, .int .u8 c] w fun e w' => e = .returned (.int .i64 (Lib.indexByte s.data.toList c.toNat.toUInt8)) ∧ w' = w := by
  go_enter Trym.func28, Trym.ntmps28
  go_wp2
  rw [run_callFunc_extern Trym.func30 (by kernel_rfl) (by kernel_rfl) (by kernel_rfl) (e := Extern.BytealgIndexByte.indexByte) (by kernel_rfl), Lib.run_indexByteString]
  simp only [Result.andThen]
  rw [Oper.upon_value]
  go_wp2
  go_ret
  exact ⟨rfl, rfl⟩

set_option maxHeartbeats 1000000 in
theorem stIndexByte (s : ByteArray) (c : Int) (w : World) :
    Calls Trym.prog 25 #[.string s, .int .u8 c] w fun e w' => e = .returned (.int .i64 (Lib.indexByte s.data.toList c.toNat.toUInt8)) ∧ w' = w := by
  go_enter Trym.func25, Trym.ntmps25
  go_wp2_with (go_at_call 28; refine (slIndexByte _ _ _).mono ?_; rintro e w' ⟨rfl, rfl⟩)
  go_ret
  exact ⟨rfl, rfl⟩

theorem indexByte_split (l : List UInt8) : (Lib.indexByte l 37 = -1 ∧ (37 : UInt8) ∉ l) ∨ ∃ k : Nat, k < l.length ∧ Lib.indexByte l 37 = (k : Int) ∧ (37 : UInt8) ∉ l.take k := by
  induction l with
  | nil => exact .inl ⟨rfl, by simp⟩
  | cons b l ih =>
    by_cases hb : b = 37
    · subst hb; exact .inr ⟨0, by simp, by simp [Lib.indexByte], by simp⟩
    · have hb' : (b == 37) = false := by simpa using hb
      rcases ih with ⟨h1, h2⟩ | ⟨k, hk, h1, h2⟩
      · refine .inl ⟨by simp [Lib.indexByte, hb', h1], ?_⟩
        simp [h2, Ne.symm hb]
      · refine .inr ⟨k + 1, by simp; omega, ?_, ?_⟩
        · have : ((k : Int) == -1) = false := by rw [beq_eq_false_iff_ne]; omega
          simp [Lib.indexByte, hb', h1, this]
        · simp [h2, Ne.symm hb]

theorem pct_toI (l : List UInt8) (h : (37 : UInt8) ∉ l) : (37 : Int) ∉ l.map fun b => (b.toNat : Int) := by
  intro hm
  simp only [List.mem_map] at hm
  obtain ⟨b, hb, e⟩ := hm
  apply h
  have : b = 37 := by
    apply UInt8.toNat_inj.1
    have : b.toNat = 37 := by omega
    rw [this]; rfl
  rwa [this] at hb

/-- Where the first '%' stands: nowhere, or at k. -/
theorem index_pct (s : ByteArray) : (Lib.indexByte s.data.toList 37 = -1 ∧ (37 : Int) ∉ toI s) ∨ ∃ k : Nat, k < s.size ∧ Lib.indexByte s.data.toList 37 = (k : Int) ∧ (37 : Int) ∉ (toI s).take k := by
  rcases indexByte_split s.data.toList with ⟨h1, h2⟩ | ⟨k, hk, h1, h2⟩
  · exact .inl ⟨h1, pct_toI _ h2⟩
  · refine .inr ⟨k, hk, h1, ?_⟩
    have := pct_toI _ h2
    rw [List.map_take] at this
    exact this

end Go.Proofs.Qxb6603171aMods
