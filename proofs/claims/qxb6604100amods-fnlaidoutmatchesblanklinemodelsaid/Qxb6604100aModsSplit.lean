/-
  splitRuns.
-/
import Derived.Test.Qxb6604100aModsClone
namespace Go.Proofs.Qxb6604100aMods
open Go.RowKit

theorem set_take (xs : List Value) (k : Nat) (h : k < xs.length) (u : Value) (zs : List Value) (ht : Hid (xs.take k = zs)) : Hid ((xs.set k u).take (k + 1) = zs ++ [u]) := by
  have e1 : (xs.set k u).take (k + 1) = xs.take k ++ [u] := by
    rw [List.take_succ_eq_append_getElem (by simpa using h), List.take_set_of_le (Nat.le_refl _)]
    simp
  rw [e1, ht.out]; exact rfl

def fsts (l : List (Int × Int)) : List Int := l.map (·.1)
def snds (l : List (Int × Int)) : List Int := l.map (·.2)
theorem fsts_take (l : List (Int × Int)) (k : Nat) (h : k < l.length) : (fsts (l.take (k + 1))).map (Value.int .i64) = (fsts (l.take k)).map (Value.int .i64) ++ [.int .i64 l[k].1] := by
  rw [List.take_succ_eq_append_getElem h, fsts, List.map_append, List.map_append]; rfl
theorem snds_take (l : List (Int × Int)) (k : Nat) (h : k < l.length) : (snds (l.take (k + 1))).map (Value.int .i64) = (snds (l.take k)).map (Value.int .i64) ++ [.int .i64 l[k].2] := by
  rw [List.take_succ_eq_append_getElem h, snds, List.map_append, List.map_append]; rfl

set_option maxHeartbeats 1000000 in
theorem split_any (ao : Option Addr) (n c : Nat) (l : List (Int × Int)) (hl : l.length = n) (hn : n ≤ 1048576) (w : World) (hr : RowP w ao l) :
    Calls Trym.prog 17 #[.slice ao n c] w fun e w' => ∃ g1 g2 : Nat, e = .returned (.tuple #[.slice (some ⟨g1, 0, none⟩) n n, .slice (some ⟨g2, 0, none⟩) n n]) ∧
      Row .i64 w' (some ⟨g1, 0, none⟩) (fsts l) ∧ Row .i64 w' (some ⟨g2, 0, none⟩) (snds l) ∧ Below w.heap.size w w' := by
  obtain ⟨i0, hi, hz0, hz1, hz2⟩ := info_parts Trym.info3
  have HR : Hid (RowP w ao l) := hr
  have HL : Hid (l.length = n) := hl
  clear hr hl
  go_enter Trym.func17, Trym.ntmps17
  go_wp2_with (first | (at_make; refine wpList_make_full _ rfl (.tmp 8) (.tmp 8) 31 rfl w.heap.size 3 i0 (.int .i64 0) 1 Trym.underlying31 hi hz0 hz1 _ _ _ _ n rfl rfl rfl rfl (by rw [hz2]; omega) (by unfold maxLen; omega) (by simp) ?_; intro w1 hown1 hgrow1) | (at_make; refine wpList_make_full _ rfl (.tmp 11) (.tmp 11) 31 rfl w1.heap.size 3 i0 (.int .i64 0) 1 Trym.underlying31 hi hz0 hz1 _ _ _ _ n rfl rfl rfl rfl (by rw [hz2]; omega) (by unfold maxLen; omega) (by simp) ?_; intro w2 hown2 hgrow2))
  have hlt1 := (hown1.lt w.heap.size rfl).2
  have hown1' := hown1.kept hgrow2 (.inr (by simp [Value.ownBlock]))
  have hb2 : Below w.heap.size w w2 := ((Below.refl _ _).grown hgrow1 (Nat.le_refl _) (by simp)).grown hgrow2 hgrow1.size (by simp)
  generalize (madeCells (Value.int .i64 0).cells (n * 1)).toList = xs1 at hown1' hown2
  clear hown1 hgrow1 hgrow2
  generalize w1.heap.size = g2 at hown2 hlt1
  go_loopw [6] (fun i wr => ∃ (k : Nat) (xs ys : List Value), k ≤ n ∧ i = .int .i64 k ∧ Hid (xs.take k = (fsts (l.take k)).map (Value.int .i64)) ∧ Hid (ys.take k = (snds (l.take k)).map (Value.int .i64)) ∧
      wr.ownsRow w.heap.size 3 1 (.slice (some ⟨w.heap.size, 0, none⟩) n n) n xs ∧ wr.ownsRow g2 3 1 (.slice (some ⟨g2, 0, none⟩) n n) n ys ∧ Below w.heap.size w wr)
    (fun i _ => n - (intOf i).toNat)
  case atStart => exact ⟨0, xs1, xs1, Nat.zero_le _, rfl, (by rfl : _ = _), (by rfl : _ = _), hown1', hown2, hb2⟩
  case round =>
    obtain ⟨k, xs, ys, hk, rfl, hx, hy, ho1, ho2, hbel⟩ := hrel
    clear hown1' hown2 hb2
    have lx : Hid (xs.length = n) := by have := ho1.1; simpa [Hid] using this
    have ly : Hid (ys.length = n) := by have := ho2.1; simpa [Hid] using this
    by_cases hlt : k < n
    · have hlk : k < l.length := by rw [HL.out]; exact hlt
      obtain ⟨g, o, rfl, hg, hc0, hc1⟩ := HR.out k hlk
      rw [← hbel.cell (by exact hg)] at hc0 hc1
      have hx' := set_take xs k (by rw [lx.out]; exact hlt) (.int .i64 l[k].1) _ hx
      have hy' := set_take ys k (by rw [ly.out]; exact hlt) (.int .i64 l[k].2) _ hy
      rw [← fsts_take l k hlk] at hx'
      rw [← snds_take l k hlk] at hy'
      generalize l[k].1 = f at hc0 hx'
      generalize l[k].2 = m at hc1 hy'
      clear hlk
      obtain ⟨x0, hcx⟩ : ∃ x0, wr.cell? ⟨w.heap.size, k, none⟩ = some x0 := ⟨xs[k]'(by rw [lx.out]; exact hlt), by rw [ho1.cellAt k (by omega), List.getElem?_eq_getElem (by rw [lx.out]; exact hlt)]⟩
      obtain ⟨y0, hcy⟩ : ∃ y0, wr.cell? ⟨g2, k, none⟩ = some y0 := ⟨ys[k]'(by rw [ly.out]; exact hlt), by rw [ho2.cellAt k (by omega), List.getElem?_eq_getElem (by rw [ly.out]; exact hlt)]⟩
      have hfx := ho1.frozenAt k
      have hfy := ho2.frozenAt k
      have n1 : ¬ w.heap.size = g := by omega
      have n2 : ¬ w.heap.size = g2 := by omega
      go_wp2_with fail
      have S1 := ho1.stored k (.int .i64 f)
      have S2 := (ho2.kept S1.2 (.inr (by simp [Value.ownBlock]; omega))).stored k (.int .i64 m)
      have S3 := S1.1.kept S2.2 (.inr (by simp [Value.ownBlock]; omega))
      go_roundw
      case rel => exact ⟨k + 1, _, _, by omega, by go_num, hx', hy', S3, S2.1, (hbel.setCell (by simp) _).setCell (by simp; omega) _⟩
      case measure => simp [intOf]; omega
    · have hF1 : Hid (xs = (fsts l).map (Value.int .i64)) := by
        have := hx.out
        rw [List.take_of_length_le (by rw [lx.out]; omega), List.take_of_length_le (by rw [HL.out]; omega)] at this
        exact this
      have hF2 : Hid (ys = (snds l).map (Value.int .i64)) := by
        have := hy.out
        rw [List.take_of_length_le (by rw [ly.out]; omega), List.take_of_length_le (by rw [HL.out]; omega)] at this
        exact this
      have r1 := ho1
      have r2 := ho2
      rw [hF1.out] at r1
      rw [hF2.out] at r2
      have q1 := Row.of_own (by simp [fsts, HL.out]) r1
      have q2 := Row.of_own (by simp [snds, HL.out]) r2
      have Q1 : Hid (Row .i64 wr (some ⟨w.heap.size, 0, none⟩) (fsts l)) := q1
      have Q2 : Hid (Row .i64 wr (some ⟨g2, 0, none⟩) (snds l)) := q2
      clear q1 q2 r1 r2 hx hy hF1 hF2 lx ly
      go_wp2_with fail
      go_ret2
      exact ⟨_, _, rfl, Q1.out, Q2.out, hbel⟩

end Go.Proofs.Qxb6604100aMods
