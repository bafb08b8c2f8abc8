/-
  THE CONTRACTS OF THE SMALL FUNCTIONS: the length guard, mfb1NumberStart, mfb1Keyword, strings.IndexByte, plainString.
-/
import Derived.Test.Qxb6603691aModsRows
import Derived.Test.Qxb6603691aModsPlain
import Derived.WalkKit
import Derived.WalkSpells
import Derived.Lib.Walk
import Derived.Lib.Strings
import Derived.Lib.Bytealg
import Derived.BigCall
import Derived.BigGuard
import Derived.Laws.BytesArg
namespace Go.Proofs.Qxb6603691aMods
open Go.RowKit

/-! ### a string as a list of integers -/
def toI (s : ByteArray) : List Int := s.data.toList.map fun b => (b.toNat : Int)
theorem toI_length (s : ByteArray) : (toI s).length = s.size := by
  simp only [toI, List.length_map, Array.length_toList]; rfl
theorem toI_get (s : ByteArray) (k : Nat) (h : k < s.size) : (toI s)[k]'(by rw [toI_length]; exact h) = (s[k].toNat : Int) := by
  simp [toI]; rfl
theorem byte_bd (b : UInt8) : (0 : Int) ≤ (b.toNat : Int) ∧ (b.toNat : Int) < 256 := by have := b.toNat_lt; omega

theorem toI_eq (s : ByteArray) (l : List UInt8) : (s.toList == l) = (toI s == l.map fun b => (b.toNat : Int)) := by
  rw [ByteArray.toList_eq]
  unfold toI
  rw [Bool.eq_iff_iff]
  simp only [beq_iff_eq]
  constructor
  · intro h; rw [h]
  · intro h
    refine List.map_inj_right (f := fun b : UInt8 => (b.toNat : Int)) (fun a b hab => ?_) |>.1 h
    apply UInt8.toNat_inj.1
    omega

def kwlU (l : List UInt8) : Bool :=
  l == [121] || l == [121, 101, 115] || l == [110] || l == [110, 111] || l == [116, 114, 117, 101] || l == [102, 97, 108, 115, 101] || l == [111, 110] || l == [111, 102, 102] || l == [110, 117, 108, 108]
def kwU (l : List UInt8) : Bool :=
  l == [121] || l == [89] || l == [121, 101, 115] || l == [89, 101, 115] || l == [89, 69, 83] || l == [110] || l == [78] || l == [110, 111] || l == [78, 111] || l == [78, 79] ||
  l == [116, 114, 117, 101] || l == [84, 114, 117, 101] || l == [84, 82, 85, 69] || l == [102, 97, 108, 115, 101] || l == [70, 97, 108, 115, 101] || l == [70, 65, 76, 83, 69] ||
  l == [111, 110] || l == [79, 110] || l == [79, 78] || l == [111, 102, 102] || l == [79, 102, 102] || l == [79, 70, 70] ||
  l == [126] || l == [110, 117, 108, 108] || l == [78, 117, 108, 108] || l == [78, 85, 76, 76] || l == [60, 60]
theorem kwlU_eq (s : ByteArray) : kwlU s.toList = Yw.kwl (toI s) := by
  simp only [kwlU, Yw.kwl, toI_eq]; rfl
theorem kwU_eq (s : ByteArray) : kwU s.toList = Yw.kw (toI s) := by
  simp only [kwU, Yw.kw, toI_eq]; rfl

theorem ret_bool {a b : Bool} (h : a = b) : Ending.returned (.bool a) = .returned (.bool b) := by rw [h]

/-! ### the bound on the length -/
set_option maxHeartbeats 400000 in
theorem bytes12_big (s : ByteArray) (w : World) (h : 1048576 < s.size) :
    Calls Trym.prog 12 #[.string s] w fun e w' => e = .returned (.bool false) ∧ w = w' := by
  go_enter Trym.func12, Trym.ntmps12
  go_wp2
  go_ret
  exact ⟨rfl, rfl⟩
set_option maxHeartbeats 400000 in
theorem bytes12_ok (s : ByteArray) (w : World) (h : s.size ≤ 1048576) :
    Calls Trym.prog 12 #[.string s] w fun e w' => e = .returned (.bool true) ∧ w = w' := by
  go_enter Trym.func12, Trym.ntmps12
  go_wp2
  go_ret
  exact ⟨rfl, rfl⟩

/-! ### mfb1NumberStart -/
set_option maxHeartbeats 1000000 in
theorem numberStart_any (c : Int) (w : World) :
    Calls Trym.prog 13 #[.int .u8 c] w fun e w' => e = .returned (.bool (Yw.num c)) ∧ w = w' := by
  go_enter Trym.func13, Trym.ntmps13
  go_wp2
  all_goals
    go_ret
    refine ⟨ret_bool ?_, rfl⟩
    rw [Bool.eq_iff_iff]
    simp [Yw.num]
    omega

/-! ### mfb1Keyword -/
set_option maxHeartbeats 1000000 in
theorem keyword_any (s : ByteArray) (w : World) :
    Calls Trym.prog 14 #[.string s] w fun e w' => e = .returned (.bool (kwlU s.toList)) ∧ w = w' := by
  go_enter Trym.func14, Trym.ntmps14
  go_wp2
  all_goals first
    | (exfalso; simp_all; done)
    | (go_ret; exact ⟨ret_bool (by simp only [kwlU]; simp only [*]; rfl), rfl⟩)

/-! ### strings.IndexByte -/
set_option maxHeartbeats 1000000 in
set_option maxRecDepth 100000 in
theorem slIndexByte (s : ByteArray) (c : Int) (w : World) :
    Calls Trym.prog 34 #[.string s, .int .u8 c] w fun e w' => e = .returned (.int .i64 (Lib.indexByte s.data.toList c.toNat.toUInt8)) ∧ w = w' := by
  go_enter Trym.func34, Trym.ntmps34
  go_wp2
  rw [run_callFunc_extern Trym.func39 (by kernel_rfl) (by kernel_rfl) (by kernel_rfl) (e := Extern.BytealgIndexByte.indexByte) (by kernel_rfl), Lib.run_indexByteString]
  simp only [Result.andThen]
  rw [Oper.upon_value]
  go_wp2
  go_ret
  exact ⟨rfl, rfl⟩
set_option maxHeartbeats 1000000 in
theorem stIndexByte (s : ByteArray) (c : Int) (w : World) :
    Calls Trym.prog 27 #[.string s, .int .u8 c] w fun e w' => e = .returned (.int .i64 (Lib.indexByte s.data.toList c.toNat.toUInt8)) ∧ w = w' := by
  go_enter Trym.func27, Trym.ntmps27
  go_wp2_with (go_at_call 34; refine (slIndexByte _ _ _).mono ?_; rintro e w' ⟨rfl, rfl⟩)
  go_ret
  exact ⟨rfl, rfl⟩

theorem idx_fin : ∀ n : Fin 256, decide (0 ≤ Lib.indexByte [43, 45, 46, 48, 49, 50, 51, 52, 53, 54, 55, 56, 57] (n.val.toUInt8)) = Yw.num ((n.val : Nat) : Int) := by decide +kernel
/-- The index of a byte among the signs that a number may begin with. -/
theorem idx_num (c : Int) (h : 0 ≤ c ∧ c < 256) (w : World) :
    Calls Trym.prog 27 #[.string { data := #[43, 45, 46, 48, 49, 50, 51, 52, 53, 54, 55, 56, 57] }, .int .u8 c] w fun e w' => ∃ i : Int, e = .returned (.int .i64 i) ∧ decide (0 ≤ i) = Yw.num c ∧ w = w' := by
  refine (stIndexByte _ c w).mono fun e w' ⟨a, b⟩ => ⟨_, a, ?_, b⟩
  have := idx_fin ⟨c.toNat, by omega⟩
  simp only [Int.toNat_of_nonneg h.1] at this
  exact this

/-! ### plainString -/
set_option maxHeartbeats 1000000 in
theorem plain_empty (s : ByteArray) (h : s.toList.isEmpty = true) (w : World) :
    Calls Trym.prog 22 #[.string s] w fun e w' => e = .returned (.bool false) ∧ w = w' := by
  go_enter Trym.func22, Trym.ntmps22
  go_wp2_with fail
  go_ret
  exact ⟨rfl, rfl⟩

set_option maxHeartbeats 1000000 in
theorem plain_num (s : ByteArray) (hp : 0 < s.size) (h : s.toList.isEmpty = false) (hn : Yw.num (s[0].toNat : Int) = true) (w : World) :
    Calls Trym.prog 22 #[.string s] w fun e w' => e = .returned (.bool false) ∧ w = w' := by
  have b0 := byte_bd s[0]
  have HN : Hid (Yw.num (s[0].toNat : Int) = true) := hn
  clear hn
  go_enter Trym.func22, Trym.ntmps22
  go_wp2_with (go_at_call 27; refine (idx_num _ b0 _).mono ?_; rintro e w' ⟨i, rfl, hi, rfl⟩; rw [HN.out] at hi)
  go_ret
  exact ⟨rfl, rfl⟩

set_option maxHeartbeats 2000000 in
theorem plain_else (s : ByteArray) (hp : 0 < s.size) (h : s.toList.isEmpty = false) (hn : Yw.num (s[0].toNat : Int) = false) (w : World) :
    Calls Trym.prog 22 #[.string s] w fun e w' => e = .returned (.bool (!kwU s.toList)) ∧ w = w' := by
  have b0 := byte_bd s[0]
  have HN : Hid (Yw.num (s[0].toNat : Int) = false) := hn
  clear hn
  go_enter Trym.func22, Trym.ntmps22
  go_wp2_with (go_at_call 27; refine (idx_num _ b0 _).mono ?_; rintro e w' ⟨i, rfl, hi, rfl⟩; rw [HN.out] at hi)
  all_goals first
    | (exfalso; simp_all; done)
    | (go_ret; exact ⟨ret_bool (by simp only [kwU]; simp only [*]; rfl), rfl⟩)

/-- plainString, and its alias, of every string. -/
theorem isEmpty_iff (s : ByteArray) : s.toList.isEmpty = decide (s.size = 0) := by
  rw [ByteArray.toList_eq, show s.size = s.data.toList.length from (Array.length_toList).symm]
  cases s.data.toList <;> simp

set_option maxHeartbeats 400000 in
theorem zz_of {s : ByteArray} {b : Bool} (w : World) (h : ∀ w, Calls Trym.prog 22 #[.string s] w fun e w' => e = .returned (.bool b) ∧ w = w') :
    Calls Trym.prog 17 #[.string s] w fun e w' => e = .returned (.bool b) ∧ w = w' := by
  have H : Hid (∀ w, Calls Trym.prog 22 #[.string s] w fun e w' => e = .returned (.bool b) ∧ w = w') := h
  clear h
  go_enter Trym.func17, Trym.ntmps17
  go_wp2_with (go_at_call 22; refine (H.out _).mono ?_; rintro e w' ⟨rfl, rfl⟩)
  go_ret
  exact ⟨rfl, rfl⟩

end Go.Proofs.Qxb6603691aMods
