/-
  THE GUARDS AND THE CLONES.
-/
import Derived.Test.Qxb6604100aModsLaws
namespace Go.Proofs.Qxb6604100aMods
open Go.RowKit

set_option maxHeartbeats 1000000 in
theorem zz21 (ao : Option Addr) (n c : Nat) (ao2 : Option Addr) (n2 c2 : Nat) (w : World) :
    Calls Trym.prog 21 #[.slice ao n c, .slice ao2 n2 c2] w fun e w' => ∃ b, e = .returned (.bool b) ∧ w = w' := by
  go_enter Trym.func21, Trym.ntmps21
  go_wp2
  all_goals
    go_ret
    exact ⟨_, rfl, rfl⟩

set_option maxHeartbeats 1000000 in
theorem zz14 (ao : Option Addr) (n c : Nat) (ao2 : Option Addr) (n2 c2 : Nat) (w : World) :
    Calls Trym.prog 14 #[.slice ao n c, .slice ao2 n2 c2] w fun e w' => ∃ b, e = .returned (.bool b) ∧ w = w' := by
  go_enter Trym.func14, Trym.ntmps14
  go_wp2
  all_goals
    go_ret
    exact ⟨_, rfl, rfl⟩

/-! ### cloneBytes -/
set_option maxHeartbeats 1000000 in
theorem cloneB_nil (w : World) : Calls Trym.prog 9 #[.slice none 0 0] w fun e w' => e = .returned (.slice none 0 0) ∧ w = w' := by
  have hq := fun wx => Lib.run_eql_slice_nil (P := Trym.prog) wx 22 5 none 0 0 0 0 Trym.underlying22
  go_enter Trym.func9, Trym.ntmps9
  go_wp2
  go_ret
  exact ⟨rfl, rfl⟩

set_option maxHeartbeats 1000000 in
theorem cloneB_some (ad : Addr) (n c : Nat) (l : List Int) (hl : l.length = n) (hn : n ≤ 1048576) (w : World) (hr : Row .u8 w (some ad) l) :
    Calls Trym.prog 9 #[.slice (some ad) n c] w fun e w' => e = .returned (.slice (some ⟨w.heap.size, 0, none⟩) n n) ∧
      w'.ownsRow w.heap.size 5 1 (.slice (some ⟨w.heap.size, 0, none⟩) n n) n (l.map (Value.int .u8)) ∧ Below w.heap.size w w' := by
  obtain ⟨i0, hi, hz0, hz1, hz2⟩ := info_parts Trym.info5
  have hrow := hr
  have HR : Hid (Row .u8 w (some ad) l) := hr
  clear hr hrow
  have hq := fun wx => Lib.run_eql_slice_nil (P := Trym.prog) wx 22 5 (some ad) n c 0 0 Trym.underlying22
  go_enter Trym.func9, Trym.ntmps9
  go_wp2_with (first | (at_make; refine wpList_make_full _ rfl _ _ 22 rfl w.heap.size 5 i0 (.int .u8 0) 1 Trym.underlying22 hi hz0 hz1 _ _ _ _ n rfl rfl rfl rfl (by rw [hz2]; omega) (by unfold maxLen; omega) (by simp) ?_; intro w1 hown1 hgrow1; have hr1 := Row.cells (HR.out.below ((Below.refl _ _).grown hgrow1 (Nat.le_refl _) (by simp))) ) | (refine wpList_copy_full _ rfl (.tmp 9) (.tmp 10) 22 22 rfl 5 i0 1 Trym.underlying22 hi hz1 w.heap.size w.heap.size n n c ad _ (l.map (Value.int .u8)) rfl rfl hown1 (by simp [hl]) hr1 (ints_oneCell _ _) ?_; intro w2 hown2 hgrow2; go_simp))
  refine bodyPost_ret (v := .slice (some ⟨w.heap.size, 0, none⟩) n n) (by simp [results, Trym.results9, go_sem]) rfl ⟨rfl, hown2, ?_⟩
  exact ((Below.refl _ _).grown hgrow1 (Nat.le_refl _) (by simp)).grown hgrow2 hgrow1.size (by intro k h; simp at h; omega)

/-! ### cloneRuns -/
set_option maxHeartbeats 1000000 in
theorem cloneR_nil (w : World) : Calls Trym.prog 16 #[.slice none 0 0] w fun e w' => e = .returned (.slice none 0 0) ∧ w = w' := by
  have hq := fun wx => Lib.run_eql_slice_nil (P := Trym.prog) wx 27 39 none 0 0 0 0 Trym.underlying27
  go_enter Trym.func16, Trym.ntmps16
  go_wp2
  go_ret
  exact ⟨rfl, rfl⟩

set_option maxHeartbeats 1000000 in
theorem cloneR_some (ad : Addr) (n c : Nat) (l : List (Int × Int)) (hl : l.length = n) (hn : n ≤ 1048576) (w : World) (hr : RowP w (some ad) l) :
    Calls Trym.prog 16 #[.slice (some ad) n c] w fun e w' => e = .returned (.slice (some ⟨w.heap.size, 0, none⟩) n n) ∧
      w'.ownsRow w.heap.size 39 2 (.slice (some ⟨w.heap.size, 0, none⟩) n n) n (cells2 l) ∧ Below w.heap.size w w' := by
  obtain ⟨i0, hi, hz0, hz1, hz2⟩ := info_parts Trym.info39
  have HR : Hid (RowP w (some ad) l) := hr
  clear hr
  have hq := fun wx => Lib.run_eql_slice_nil (P := Trym.prog) wx 27 39 (some ad) n c 0 0 Trym.underlying27
  go_enter Trym.func16, Trym.ntmps16
  go_wp2_with (first | (at_make; refine wpList_make_full _ rfl _ _ 27 rfl w.heap.size 39 i0 (.agg #[.int .i64 0, .int .i64 0]) 2 Trym.underlying27 hi hz0 hz1 _ _ _ _ n rfl rfl rfl rfl (by rw [hz2]; omega) (by unfold maxLen; omega) (by simp) ?_; intro w1 hown1 hgrow1; have hr1 := RowP.cells (HR.out.below ((Below.refl _ _).grown hgrow1 (Nat.le_refl _) (by simp))) ) | (refine wpList_copy_full _ rfl (.tmp 9) (.tmp 10) 27 27 rfl 39 i0 2 Trym.underlying27 hi hz1 w.heap.size w.heap.size n n c ad _ (cells2 l) rfl rfl hown1 (by rw [cells2_length, hl]) hr1 (cells2_one _) ?_; intro w2 hown2 hgrow2; go_simp))
  refine bodyPost_ret (v := .slice (some ⟨w.heap.size, 0, none⟩) n n) (by simp [results, Trym.results16, go_sem]) rfl ⟨rfl, hown2, ?_⟩
  exact ((Below.refl _ _).grown hgrow1 (Nat.le_refl _) (by simp)).grown hgrow2 hgrow1.size (by intro k h; simp at h; omega)

/-! ### runsFit -/
def tot (l : List (Int × Int)) : Int := (l.map fun r => if 0 < r.2 then r.2 else 0).sum
theorem tot_snoc (l : List (Int × Int)) (r : Int × Int) : tot (l ++ [r]) = tot l + if 0 < r.2 then r.2 else 0 := by simp [tot]
theorem tot_take (l : List (Int × Int)) (k : Nat) (h : k < l.length) : tot (l.take (k + 1)) = tot (l.take k) + if 0 < l[k].2 then l[k].2 else 0 := by
  rw [List.take_succ_eq_append_getElem h, tot_snoc]

set_option maxHeartbeats 1000000 in
theorem runsFit_any (ao : Option Addr) (n c : Nat) (l : List (Int × Int)) (hl : l.length = n) (hn : n ≤ 1048576) (w : World) (hr : RowP w ao l) :
    Calls Trym.prog 15 #[.slice ao n c] w fun e w' => (e = .returned (.bool false) ∨ (e = .returned (.bool true) ∧ tot l ≤ 1048576)) ∧ w = w' := by
  have HR : Hid (RowP w ao l) := hr
  have HL : Hid (l.length = n) := hl
  clear hr hl
  go_enter Trym.func15, Trym.ntmps15
  go_wp2
  go_loop [3, 4] (fun tt i => ∃ (k : Nat) (t : Int), k ≤ n ∧ i = .int .i64 k ∧ tt = .int .i64 t ∧ 0 ≤ t ∧ t ≤ 1048576 ∧ Hid (t = tot (l.take k))) (fun _ i => n - (intOf i).toNat)
  case atStart => exact ⟨0, 0, Nat.zero_le _, rfl, rfl, Int.le_refl _, by omega, (by rfl : _ = _)⟩
  case round =>
    obtain ⟨k, t, hk, rfl, rfl, ht0, ht1, HT⟩ := hrel
    by_cases hlt : k < n
    · have hlk : k < l.length := by rw [HL.out]; exact hlt
      obtain ⟨g, o, rfl, hg, hc0, hc1⟩ := HR.out k hlk
      have HS : Hid (tot (l.take (k + 1)) = t + if 0 < l[k].2 then l[k].2 else 0) := by rw [tot_take l k hlk, HT.out]; exact rfl
      generalize l[k].2 = x at hc1 HS
      clear hc0 hlk
      by_cases hx1 : 65536 < x
      · go_wp2
        go_ret
        exact ⟨.inl rfl, rfl⟩
      · by_cases hx2 : 0 < x
        · by_cases hx3 : 1048576 < t + x
          · go_wp2
            go_ret
            exact ⟨.inl rfl, rfl⟩
          · go_wp2
            go_round
            case rel => exact ⟨k + 1, t + x, by omega, by go_num, rfl, by omega, by omega, by rw [HS.out, if_pos hx2]; exact rfl⟩
            case measure => simp [intOf]; omega
        · go_wp2
          go_round
          case rel => exact ⟨k + 1, t, by omega, by go_num, rfl, by omega, by omega, by rw [HS.out, if_neg hx2, Int.add_zero]; exact rfl⟩
          case measure => simp [intOf]; omega
    · have HF : Hid (tot l ≤ 1048576) := by
        have := HT.out
        rw [List.take_of_length_le (by rw [HL.out]; omega)] at this
        rw [← this]; exact ht1
      go_wp2
      go_ret
      exact ⟨.inr ⟨rfl, HF.out⟩, rfl⟩

end Go.Proofs.Qxb6604100aMods
