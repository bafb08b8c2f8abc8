/-
  equalBytes, equalInts of two rows that hold the same; lineEnds.
-/
import Derived.Test.Qxb6604100aModsWalkA
import Derived.Test.Qxb6604100aModsPlainB
namespace Go.Proofs.Qxb6604100aMods
open Go.RowKit

set_option maxHeartbeats 1000000 in
theorem eqB (g1 g2 n c1 c2 : Nat) (l : List Int) (hl : l.length = n) (hn : n ≤ 2097152) (w : World) (h1 : Row .u8 w (some ⟨g1, 0, none⟩) l) (h2 : Row .u8 w (some ⟨g2, 0, none⟩) l) :
    Calls Trym.prog 12 #[.slice (some ⟨g1, 0, none⟩) n c1, .slice (some ⟨g2, 0, none⟩) n c2] w fun e w' => e = .returned (.bool true) ∧ Below w.heap.size w w' := by
  have H1 : Hid (Row .u8 w (some ⟨g1, 0, none⟩) l) := h1
  have H2 : Hid (Row .u8 w (some ⟨g2, 0, none⟩) l) := h2
  have HL : Hid (l.length = n) := hl
  clear h1 h2 hl
  have hq : ((n : Int) != (n : Int)) = false := by simp
  go_enter Trym.func12, Trym.ntmps12
  go_wp2_with fail
  go_loopw [5] (fun i wr => ∃ (k : Nat), k ≤ n ∧ i = .int .i64 k ∧ Below w.heap.size w wr) (fun i _ => n - (intOf i).toNat)
  case atStart => exact ⟨0, Nat.zero_le _, rfl, Below.refl _ _⟩
  case round =>
    obtain ⟨k, hk, rfl, hbel⟩ := hrel
    by_cases hlt : k < n
    · have hlk : k < l.length := by rw [HL.out]; exact hlt
      have c1 := (row_at (H1.out.below hbel) k hlk).1
      have c2 := (row_at (H2.out.below hbel) k hlk).1
      generalize l[k] = x at c1 c2
      clear hlk
      have hxx : (x != x) = false := by simp
      have b1 : (k : Int) < (n : Int) := by omega
      have b0 : (0 : Int) ≤ (k : Int) := by omega
      go_wp2_with fail
      go_quiet (fail)
      go_wp2_with fail
      go_roundw
      case rel => exact ⟨k + 1, by omega, by go_num, below_drewN hbel _⟩
      case measure => simp [intOf]; omega
    · go_wp2_with fail
      go_ret
      exact ⟨rfl, hbel⟩

set_option maxHeartbeats 1000000 in
theorem eqI (g1 g2 n c1 c2 : Nat) (l : List Int) (hl : l.length = n) (hn : n ≤ 2097152) (w : World) (h1 : Row .i64 w (some ⟨g1, 0, none⟩) l) (h2 : Row .i64 w (some ⟨g2, 0, none⟩) l) :
    Calls Trym.prog 20 #[.slice (some ⟨g1, 0, none⟩) n c1, .slice (some ⟨g2, 0, none⟩) n c2] w fun e w' => e = .returned (.bool true) ∧ Below w.heap.size w w' := by
  have H1 : Hid (Row .i64 w (some ⟨g1, 0, none⟩) l) := h1
  have H2 : Hid (Row .i64 w (some ⟨g2, 0, none⟩) l) := h2
  have HL : Hid (l.length = n) := hl
  clear h1 h2 hl
  have hq : ((n : Int) != (n : Int)) = false := by simp
  go_enter Trym.func20, Trym.ntmps20
  go_wp2_with fail
  go_loopw [5] (fun i wr => ∃ (k : Nat), k ≤ n ∧ i = .int .i64 k ∧ Below w.heap.size w wr) (fun i _ => n - (intOf i).toNat)
  case atStart => exact ⟨0, Nat.zero_le _, rfl, Below.refl _ _⟩
  case round =>
    obtain ⟨k, hk, rfl, hbel⟩ := hrel
    by_cases hlt : k < n
    · have hlk : k < l.length := by rw [HL.out]; exact hlt
      have c1 := (row_at (H1.out.below hbel) k hlk).1
      have c2 := (row_at (H2.out.below hbel) k hlk).1
      generalize l[k] = x at c1 c2
      clear hlk
      have hxx : (x != x) = false := by simp
      have b1 : (k : Int) < (n : Int) := by omega
      have b0 : (0 : Int) ≤ (k : Int) := by omega
      go_wp2_with fail
      go_quiet (fail)
      go_wp2_with fail
      go_roundw
      case rel => exact ⟨k + 1, by omega, by go_num, below_drewN hbel _⟩
      case measure => simp [intOf]; omega
    · go_wp2_with fail
      go_ret
      exact ⟨rfl, hbel⟩

/-! ### lineEnds -/
def ints (E : List Nat) : List Int := E.map fun (x : Nat) => (x : Int)
theorem ints_app (E : List Nat) (x : Nat) : ints (E ++ [x]) = ints E ++ [(x : Int)] := by simp [ints]
theorem ints_len (E : List Nat) : (ints E).length = E.length := by simp [ints]

set_option maxHeartbeats 2000000 in
theorem ends_any (ao : Option Addr) (n : Nat) (T : List Int) (hT : T.length = n) (hn : n ≤ 1048576) (w : World) (hr : Row .u8 w ao T) :
    Calls Trym.prog 27 #[.slice ao n n] w fun e w' => ∃ (g : Nat) (E : List Nat), e = .returned (.slice (some ⟨g, 0, none⟩) E.length (n + 1)) ∧ Lay.EN T E ∧ E.length ≤ n + 1 ∧ Row .i64 w' (some ⟨g, 0, none⟩) (ints E) ∧ Below w.heap.size w w' := by
  obtain ⟨i3, hi3, hz30, hz31, hz32⟩ := info_parts Trym.info3
  have HR : Hid (Row .u8 w ao T) := hr
  have HT : Hid (T.length = n) := hT
  clear hr hT
  go_enter Trym.func27, Trym.ntmps27
  go_wp2_with (first | (at_make; refine wpList_make_own _ rfl (.const (.int .i64 0)) (.tmp 7) 31 rfl w.heap.size 3 i3 (.int .i64 0) 1 Trym.underlying31 hi3 hz30 hz31 _ _ _ (n + 1) rfl rfl (by omega) (by rw [hz32]; omega) (by unfold maxLen; omega) (Nat.le_refl _) ?_; intro w1 hown1 hgrow1))
  have hb1 : Below w.heap.size w w1 := (Below.refl _ _).grown hgrow1 (Nat.le_refl _) (by simp)
  clear hgrow1
  go_loopw [3, 4] (fun ee ii wr => ∃ (i : Nat) (E : List Nat), i ≤ n ∧ ii = .int .i64 i ∧ ee = .slice (some ⟨w.heap.size, 0, none⟩) E.length (n + 1) ∧ E.length ≤ i ∧ Hid (Lay.EI T i E) ∧
      wr.ownsRow w.heap.size 3 1 (.slice (some ⟨w.heap.size, 0, none⟩) E.length (n + 1)) E.length ((ints E).map (Value.int .i64)) ∧ Below w.heap.size w wr) (fun _ ii _ => n - (intOf ii).toNat)
  case atStart => exact ⟨0, [], Nat.zero_le _, rfl, rfl, Nat.zero_le _, Lay.EI_start T, hown1, hb1⟩
  case round =>
    obtain ⟨i, E, hi, rfl, rfl, hEl, HE, ho, hbel⟩ := hrel
    clear hown1 hb1
    have hlt1 : w.heap.size < wr.heap.size := (ho.lt _ rfl).2
    by_cases hlt : i < n
    · have hli : i < T.length := by rw [HT.out]; exact hlt
      obtain ⟨g, o, rfl, hg, hc⟩ := (HR.out.below hbel) i hli
      by_cases h10 : T[i] = 10
      · have HE2 : Hid (Lay.EI T (i + 1) (E ++ [i + 1])) := Lay.EI_line HE.out (by rw [List.getElem?_eq_getElem hli, h10])
        rw [h10] at hc
        clear h10 hli HE
        go_wp2_with (first | (at_builtin; refine wpList_append_fits _ rfl (.tmp 20) (.tmp 23) 31 rfl w.heap.size 3 i3 1 Trym.underlying31 hi3 hz31 w.heap.size E.length (n + 1) _ rfl (ho.alloc _) ⟨wr.heap.size, 0, none⟩ 1 1 [.int .i64 ((i : Int) + 1)] rfl rfl (cell_one_new _ _ _) (by simp [Value.oneCell']) (by omega) ?_; intro w3 hL3 hg3))
        have hL4 : w3.ownsRow w.heap.size 3 1 (.slice (some ⟨w.heap.size, 0, none⟩) (E ++ [i + 1]).length (n + 1)) (E ++ [i + 1]).length ((ints (E ++ [i + 1])).map (Value.int .i64)) := by
          rw [ints_app]; simpa using hL3
        go_roundw
        case rel => exact ⟨i + 1, E ++ [i + 1], by omega, by go_num, by simp, by simp; omega, HE2, hL4, (hbel.alloc (by omega) _).grown hg3 (by simp; omega) (by intro k h; simp at h; omega)⟩
        case measure => simp [intOf]; omega
      · have HE2 : Hid (Lay.EI T (i + 1) E) := Lay.EI_skip HE.out (by rw [List.getElem?_eq_getElem hli]; simpa using h10)
        have h10' : (T[i] == 10) = false := by simpa using h10
        generalize T[i] = x at hc h10'
        clear h10 hli HE
        go_wp2_with fail
        go_roundw
        case rel => exact ⟨i + 1, E, by omega, by go_num, rfl, by omega, HE2, ho, hbel⟩
        case measure => simp [intOf]; omega
    · obtain rfl : i = n := by omega
      have HE1 : Hid (Lay.EI T T.length E) := by rw [HT.out]; exact HE
      clear HE
      by_cases h0 : i = 0
      · subst h0
        have HN : Hid (Lay.EN T E) := Lay.EN_nl HE1.out (.inl HT.out)
        have HRo : Hid (Row .i64 wr (some ⟨w.heap.size, 0, none⟩) (ints E)) := Row.of_own (ints_len E).symm ho
        clear HE1
        go_wp2_with fail
        go_ret
        exact ⟨_, E, rfl, HN.out, by omega, HRo.out, hbel⟩
      · have hli : i - 1 < T.length := by rw [HT.out]; omega
        obtain ⟨g, o, rfl, hg, hc⟩ := (HR.out.below hbel) (i - 1) hli
        have b0 : (0 : Int) < (i : Int) := by omega
        have b1 : ((i : Int) - 1).toNat = i - 1 := by omega
        by_cases h10 : T[i - 1] = 10
        · have HN : Hid (Lay.EN T E) := Lay.EN_nl HE1.out (.inr (by
            have e : T.length - 1 = i - 1 := by rw [HT.out]
            rw [e, List.getElem?_eq_getElem hli, h10]))
          have HRo : Hid (Row .i64 wr (some ⟨w.heap.size, 0, none⟩) (ints E)) := Row.of_own (ints_len E).symm ho
          rw [h10] at hc
          clear HE1 h10 hli
          go_wp2_with fail
          go_ret
          exact ⟨_, E, rfl, HN.out, by omega, HRo.out, hbel⟩
        · have HN : Hid (Lay.EN T (E ++ [i])) := by have := Lay.EN_more HE1.out; rw [HT.out] at this; exact this
          have h10' : (T[i - 1] != 10) = true := by simpa using h10
          generalize T[i - 1] = x at hc h10'
          clear HE1 h10 hli
          go_wp2_with (first | (at_builtin; refine wpList_append_fits _ rfl (.tmp 37) (.tmp 40) 31 rfl w.heap.size 3 i3 1 Trym.underlying31 hi3 hz31 w.heap.size E.length (i + 1) _ rfl (ho.alloc _) ⟨wr.heap.size, 0, none⟩ 1 1 [.int .i64 (i : Int)] rfl rfl (cell_one_new _ _ _) (by simp [Value.oneCell']) (by omega) ?_; intro w3 hL3 hg3))
          have hL4 : w3.ownsRow w.heap.size 3 1 (.slice (some ⟨w.heap.size, 0, none⟩) (E ++ [i]).length (i + 1)) (E ++ [i]).length ((ints (E ++ [i])).map (Value.int .i64)) := by
            rw [ints_app]; simpa using hL3
          go_ret
          exact ⟨_, E ++ [i], by simp, HN.out, by simp; omega, Row.of_own (ints_len _).symm hL4, (hbel.alloc (by omega) _).grown hg3 (by simp; omega) (by intro k h; simp at h; omega)⟩

end Go.Proofs.Qxb6604100aMods
