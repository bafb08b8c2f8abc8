/-
  THE LAW FnLaidOutOnlyAddsNeededBlankLines at every length.
-/
import Derived.Test.Qxb6604100aModsWalkA
namespace Go.Proofs.Qxb6604100aMods
open Go.RowKit

set_option maxRecDepth 100000 in
set_option maxHeartbeats 4000000 in
theorem lawA (w : World) (a0 : Option Addr) (n c0 : Nat) (T : List Int) (a1 : Option Addr) (m c1 : Nat) (rs : List (Int × Int)) (hA : Args w a0 n c0 T a1 m c1 rs) :
    Calls Trym.prog 6 #[.slice a0 n c0, .slice a1 m c1] w fun e w' => e = .returned (.bool true) ∧ Below w.heap.size w w' := by
  by_cases hn : n ≤ 524288
  · by_cases hm : m ≤ 32768
    · exact lawA_main w a0 n c0 T a1 m c1 rs hA hn hm
    · clear hA
      go_enter Trym.func6, Trym.ntmps6
      go_wp2_with fail
      refine (zz21 _ _ _ _ _ _ _).mono ?_
      rintro e w' ⟨b, rfl, rfl⟩
      cases b
      all_goals
        go_wp2_with fail
        go_ret
        exact ⟨rfl, Below.refl _ _⟩
  · clear hA
    go_enter Trym.func6, Trym.ntmps6
    go_wp2_with fail
    refine (zz21 _ _ _ _ _ _ _).mono ?_
    rintro e w' ⟨b, rfl, rfl⟩
    cases b
    all_goals
      go_wp2_with fail
      go_ret
      exact ⟨rfl, Below.refl _ _⟩

end Go.Proofs.Qxb6604100aMods
