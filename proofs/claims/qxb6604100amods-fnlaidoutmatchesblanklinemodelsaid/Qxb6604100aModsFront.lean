/-
  THE FRONT OF BOTH LAWS: guards, clones, splitRuns, ZZLaidOut, gathered.
-/
import Derived.Test.Qxb6604100aModsZZ
namespace Go.Proofs.Qxb6604100aMods
open Go.RowKit

theorem cloneB_any (a : Option Addr) (n c : Nat) (T : List Int) (hT : T.length = n) (hn : n ≤ 1048576) (hnil : a = none → n = 0 ∧ c = 0) (w : World) (hr : Row .u8 w a T) :
    Calls Trym.prog 9 #[.slice a n c] w fun e w' => ∃ a', e = .returned (.slice a' n n) ∧ Txt a' T ∧ Row .u8 w' a' T ∧ Below w.heap.size w w' := by
  cases a with
  | none =>
    obtain ⟨rfl, rfl⟩ := hnil rfl
    have e : T = [] := List.length_eq_zero_iff.1 hT
    subst e
    refine (cloneB_nil w).mono fun e w' ⟨h1, h2⟩ => ⟨none, h1, .inl ⟨rfl, rfl⟩, Row.empty rfl, ?_⟩
    rw [h2]; exact Below.refl _ _
  | some ad =>
    refine (cloneB_some ad n c T hT hn w hr).mono fun e w' ⟨h1, h2, h3⟩ => ⟨_, h1, .inr ⟨_, rfl⟩, Row.of_own hT.symm h2, h3⟩

theorem RowP.empty {w : World} {ao : Option Addr} {l : List (Int × Int)} (h : l.length = 0) : RowP w ao l := fun i hi => absurd hi (by omega)

theorem cloneR_any (a : Option Addr) (m c : Nat) (rs : List (Int × Int)) (hm : rs.length = m) (hmn : m ≤ 1048576) (hnil : a = none → m = 0 ∧ c = 0) (w : World) (hr : RowP w a rs) :
    Calls Trym.prog 16 #[.slice a m c] w fun e w' => ∃ a', e = .returned (.slice a' m m) ∧ RowP w' a' rs ∧ Below w.heap.size w w' := by
  cases a with
  | none =>
    obtain ⟨rfl, rfl⟩ := hnil rfl
    refine (cloneR_nil w).mono fun e w' ⟨h1, h2⟩ => ⟨none, h1, RowP.empty hm, ?_⟩
    rw [h2]; exact Below.refl _ _
  | some ad =>
    refine (cloneR_some ad m c rs hm hmn w hr).mono fun e w' ⟨h1, h2, h3⟩ => ⟨_, h1, RowP.of_own hm.symm h2, h3⟩

set_option maxHeartbeats 1000000 in
theorem zz21_ok (ao : Option Addr) (n c : Nat) (ao2 : Option Addr) (n2 c2 : Nat) (h : n ≤ 524288) (h2 : n2 ≤ 32768) (w : World) :
    Calls Trym.prog 21 #[.slice ao n c, .slice ao2 n2 c2] w fun e w' => e = .returned (.bool true) ∧ w = w' := by
  go_enter Trym.func21, Trym.ntmps21
  go_wp2
  go_ret
  exact ⟨rfl, rfl⟩

set_option maxHeartbeats 1000000 in
theorem zz14_ok (ao : Option Addr) (n c : Nat) (ao2 : Option Addr) (n2 c2 : Nat) (h : n ≤ 524288) (h2 : n2 ≤ 32768) (w : World) :
    Calls Trym.prog 14 #[.slice ao n c, .slice ao2 n2 c2] w fun e w' => e = .returned (.bool true) ∧ w = w' := by
  go_enter Trym.func14, Trym.ntmps14
  go_wp2
  go_ret
  exact ⟨rfl, rfl⟩

/-- What a law is told of its two arguments. -/
structure Args (w : World) (a0 : Option Addr) (n c0 : Nat) (T : List Int) (a1 : Option Addr) (m c1 : Nat) (rs : List (Int × Int)) : Prop where
  lenT : T.length = n
  nilT : a0 = none → n = 0 ∧ c0 = 0
  rowT : Row .u8 w a0 T
  bdT : ∀ x ∈ T, 0 ≤ x ∧ x < 256
  lenR : rs.length = m
  nilR : a1 = none → m = 0 ∧ c1 = 0
  rowR : RowP w a1 rs
  bdR : ∀ r ∈ rs, (-9223372036854775808 ≤ r.1 ∧ r.1 ≤ 9223372036854775807) ∧ (-9223372036854775808 ≤ r.2 ∧ r.2 ≤ 9223372036854775807)

end Go.Proofs.Qxb6604100aMods
