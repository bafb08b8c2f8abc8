/-
  bytes.IndexByte at a newline.
-/
import Derived.Test.Qxb6604100aModsSplit
namespace Go.Proofs.Qxb6604100aMods
open Go.RowKit

def nlI (l : List Int) : Int := match Lay.nl l with
  | some i => (i : Int)
  | none => -1

theorem idx_nl (l : List Int) (h : ∀ c ∈ l, 0 ≤ c ∧ c < 256) : Lib.indexByte (Lib.bytesOf l) 10 = nlI l := by
  induction l with
  | nil => rfl
  | cons c l ih =>
    have ih := ih (fun d hd => h d (by simp [hd]))
    have hc := h c (by simp)
    have e : Lib.bytesOf (c :: l) = (UInt8.ofNat c.toNat) :: Lib.bytesOf l := rfl
    rw [e]
    by_cases h10 : c = 10
    · subst h10; rfl
    · have hb : ((UInt8.ofNat c.toNat) == (10 : UInt8)) = false := by
        rw [beq_eq_false_iff_ne]
        intro he
        have := congrArg UInt8.toNat he
        rw [UInt8.toNat_ofNat', Nat.mod_eq_of_lt (by omega)] at this
        have h2 : (10 : UInt8).toNat = 10 := rfl
        omega
      simp only [Lib.indexByte, hb, ih, nlI, Lay.nl, h10, if_false]
      cases hn : Lay.nl l with
      | none => simp
      | some i =>
        simp

set_option maxHeartbeats 1000000 in
set_option maxRecDepth 100000 in
theorem idxB_some (b o n c : Nat) (l : List Int) (hl : l.length = n) (hbd : ∀ x ∈ l, 0 ≤ x ∧ x < 256) (w : World) (hr : Row .u8 w (some ⟨b, o, none⟩) l) :
    Calls Trym.prog 29 #[.slice (some ⟨b, o, none⟩) n c, .int .u8 10] w fun e w' => e = .returned (.int .i64 (nlI l)) ∧ w = w' := by
  have hc : ∀ i, i < n → w.cell? ⟨b, o + i, none⟩ = some (.int .u8 (l.getD i 0)) := by
    intro i hi
    obtain ⟨g, o', e, _, hc⟩ := hr i (by omega)
    simp only [Option.some.injEq, Addr.mk.injEq, and_true] at e
    obtain ⟨rfl, rfl⟩ := e
    rw [hc]; simp [List.getD, List.getElem?_eq_getElem (show i < l.length by omega)]
  have HE : Hid (Lib.indexByte (Lib.bytesOf l) 10 = nlI l) := idx_nl l hbd
  have HC : Hid (∀ i, i < n → w.cell? ⟨b, o + i, none⟩ = some (.int .u8 (l.getD i 0))) := hc
  clear hc hr hbd
  go_enter Trym.func29, Trym.ntmps29
  go_wp2
  rw [run_callFunc_extern Trym.func30 (by kernel_rfl) (by kernel_rfl) (by kernel_rfl) (e := Extern.BytealgIndexByte.indexByte) (by kernel_rfl), Lib.run_indexByteSlice w b o n c l hl HC.out 10]
  rw [show (10 : Int).toNat.toUInt8 = 10 from rfl, HE.out]
  simp only [Result.andThen]
  rw [Oper.upon_value]
  go_wp2
  go_ret
  exact ⟨rfl, rfl⟩

set_option maxHeartbeats 1000000 in
set_option maxRecDepth 100000 in
theorem idxB_nil (w : World) :
    Calls Trym.prog 29 #[.slice none 0 0, .int .u8 10] w fun e w' => e = .returned (.int .i64 (-1)) ∧ w = w' := by
  go_enter Trym.func29, Trym.ntmps29
  go_wp2
  rw [run_callFunc_extern Trym.func30 (by kernel_rfl) (by kernel_rfl) (by kernel_rfl) (e := Extern.BytealgIndexByte.indexByte) (by kernel_rfl), Lib.run_indexByteNil w 0 0 10]
  simp only [Result.andThen]
  rw [Oper.upon_value]
  go_wp2
  go_ret
  exact ⟨rfl, rfl⟩

end Go.Proofs.Qxb6604100aMods
