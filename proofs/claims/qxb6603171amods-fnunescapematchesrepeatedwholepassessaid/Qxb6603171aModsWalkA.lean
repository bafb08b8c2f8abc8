/-
  THE FIRST LAW's WALK: unescape against whole passes repeated.
-/
import Derived.Test.Qxb6603171aModsUnesc
namespace Go.Proofs.Qxb6603171aMods
open Go.RowKit

set_option maxHeartbeats 1000000 in
theorem lawA (s : ByteArray) (w : World) :
    Calls Trym.prog 3 #[.string s] w fun e w' => e = .returned (.bool true) ∧ Below w.heap.size w w' := by
  by_cases h1 : 1048576 < s.size
  · go_enter Trym.func3, Trym.ntmps3
    go_wp2_with (go_at_call 8; refine (bytes8_big s _ h1).mono ?_; rintro e w' ⟨rfl, rfl⟩)
    go_ret
    exact ⟨rfl, Below.refl _ _⟩
  · by_cases h2 : 4096 < s.size
    · go_enter Trym.func3, Trym.ntmps3
      go_wp2_with (go_at_call 8; refine (bytes8_ok s _ (by omega)).mono ?_; rintro e w' ⟨rfl, rfl⟩)
      go_ret
      exact ⟨rfl, Below.refl _ _⟩
    · go_enter Trym.func3, Trym.ntmps3
      go_wp2_with (first | (go_at_call 8; refine (bytes8_ok s _ (by omega)).mono ?_; rintro e w' ⟨rfl, rfl⟩) | (go_at_call 9; refine (zzunescape_any s (by omega) _).mono ?_; rintro e w1 ⟨rfl, hb1⟩) | (go_at_call 10; refine (fully_any s (by omega) _).mono ?_; rintro e w2 ⟨rfl, hb2⟩))
      go_ret
      exact ⟨by simp, hb1.trans (hb2.mono hb1.size)⟩

end Go.Proofs.Qxb6603171aMods
