/-
  ZZLaidOut.
-/
import Derived.Test.Qxb6604100aModsLaidNil
import Derived.Deep.RegionHeld3
namespace Go.Proofs.Qxb6604100aMods
open Go.RowKit

/-- A text that a clone made: nil and empty, or a row. -/
def Txt (ao : Option Addr) (T : List Int) : Prop := (ao = none ∧ T = []) ∨ ∃ g, ao = some ⟨g, 0, none⟩

theorem laid_any (ao : Option Addr) (n : Nat) (T : List Int) (hao : Txt ao T) (hT : T.length = n) (hn : n ≤ 1048576) (hbd : ∀ x ∈ T, 0 ≤ x ∧ x < 256) (ga m : Nat) (rs : List (Int × Int)) (hm : rs.length = m) (hmn : m ≤ 1048576) (hk : ∀ r ∈ rs, r.2 ≤ 9223372036854775807) (w : World)
    (hr : Row .u8 w ao T) (hp : RowP w (some ⟨ga, 0, none⟩) rs) :
    Calls Trym.prog 26 #[.agg #[.slice ao n n, .slice (some ⟨ga, 0, none⟩) m m]] w fun e w' => ∃ (gl gA K cap KA capA : Nat), e = .returned (.agg #[.slice (some ⟨gl, 0, none⟩) K cap, .slice (some ⟨gA, 0, none⟩) KA capA]) ∧
      K = (Lay.outT T rs).length ∧ KA = (Lay.outA rs).length ∧ Row .u8 w' (some ⟨gl, 0, none⟩) (Lay.outT T rs) ∧ RowP w' (some ⟨gA, 0, none⟩) (Lay.outA rs) ∧ Below w.heap.size w w' := by
  rcases hao with ⟨rfl, rfl⟩ | ⟨g, rfl⟩
  · subst hT
    exact laid_nil ga m rs hm hmn hk w hp
  · exact laid_some g n T hT hn hbd ga m rs hm hmn hk w hr hp

theorem set_take2 (xs : List Value) (k : Nat) (h : k * 2 + 1 < xs.length) (u v : Value) (zs : List Value) (ht : Hid (xs.take (k * 2) = zs)) : Hid (((xs.set (k * 2) u).set (k * 2 + 1) v).take ((k + 1) * 2) = zs ++ [u, v]) := by
  have e0 : (k + 1) * 2 = k * 2 + 1 + 1 := by omega
  rw [e0, List.take_succ_eq_append_getElem (by simpa using h), List.take_set_of_le (Nat.le_refl _), List.take_succ_eq_append_getElem (by simp; omega), List.take_set_of_le (Nat.le_refl _), ht.out]
  simp [Hid]
theorem cells2_take (l : List (Int × Int)) (k : Nat) (h : k < l.length) : cells2 (l.take (k + 1)) = cells2 (l.take k) ++ [.int .i64 l[k].1, .int .i64 l[k].2] := by
  rw [List.take_succ_eq_append_getElem h, cells2_append]; rfl

set_option maxHeartbeats 4000000 in
theorem zzlaid (ao : Option Addr) (n : Nat) (T : List Int) (hao : Txt ao T) (hT : T.length = n) (hn : n ≤ 1048576) (hbd : ∀ x ∈ T, 0 ≤ x ∧ x < 256) (g1 g2 m : Nat) (rs : List (Int × Int)) (hm : rs.length = m) (hmn : m ≤ 1048576) (hk : ∀ r ∈ rs, r.2 ≤ 9223372036854775807) (w : World)
    (hr : Row .u8 w ao T) (h1 : Row .i64 w (some ⟨g1, 0, none⟩) (fsts rs)) (h2 : Row .i64 w (some ⟨g2, 0, none⟩) (snds rs)) :
    Calls Trym.prog 18 #[.slice ao n n, .slice (some ⟨g1, 0, none⟩) m m, .slice (some ⟨g2, 0, none⟩) m m] w fun e w' => ∃ (gl gF gN K cap KA : Nat), e = .returned (.tuple #[.slice (some ⟨gl, 0, none⟩) K cap, .slice (some ⟨gF, 0, none⟩) KA KA, .slice (some ⟨gN, 0, none⟩) KA KA]) ∧
      K = (Lay.outT T rs).length ∧ KA = (Lay.outA rs).length ∧ Row .u8 w' (some ⟨gl, 0, none⟩) (Lay.outT T rs) ∧ Row .i64 w' (some ⟨gF, 0, none⟩) (fsts (Lay.outA rs)) ∧ Row .i64 w' (some ⟨gN, 0, none⟩) (snds (Lay.outA rs)) ∧ Below w.heap.size w w' := by
  obtain ⟨i6, hi6, hz60, hz61, hz62⟩ := info_parts Trym.info46
  obtain ⟨i3, hi3, hz30, hz31, hz32⟩ := info_parts Trym.info3
  have HR : Hid (Row .u8 w ao T) := hr
  have H1 : Hid (Row .i64 w (some ⟨g1, 0, none⟩) (fsts rs)) := h1
  have H2 : Hid (Row .i64 w (some ⟨g2, 0, none⟩) (snds rs)) := h2
  have HM : Hid (rs.length = m) := hm
  have HC : Hid (∀ (ga : Nat) (w' : World), Row .u8 w' ao T → RowP w' (some ⟨ga, 0, none⟩) rs → Calls Trym.prog 26 #[.agg #[.slice ao n n, .slice (some ⟨ga, 0, none⟩) m m]] w' fun e w'' => ∃ (gl gA K cap KA capA : Nat), e = .returned (.agg #[.slice (some ⟨gl, 0, none⟩) K cap, .slice (some ⟨gA, 0, none⟩) KA capA]) ∧
      K = (Lay.outT T rs).length ∧ KA = (Lay.outA rs).length ∧ Row .u8 w'' (some ⟨gl, 0, none⟩) (Lay.outT T rs) ∧ RowP w'' (some ⟨gA, 0, none⟩) (Lay.outA rs) ∧ Below w'.heap.size w' w'') := fun ga w' hr hp => laid_any ao n T hao hT hn hbd ga m rs hm hmn hk w' hr hp
  have HAl := Lay.outA_len rs
  rw [hm] at HAl
  clear hr h1 h2 hm hk hbd hT hao
  go_enter Trym.func18, Trym.ntmps18
  go_wp2_with (first | (at_make; refine wpList_make_full _ rfl (.tmp 16) (.tmp 16) 44 rfl w.heap.size 46 i6 (.agg #[.int .i64 0, .int .i64 0]) 2 Trym.underlying44 hi6 hz60 hz61 _ _ _ _ m rfl rfl rfl rfl (by rw [hz62]; omega) (by unfold maxLen; omega) (by simp) ?_; intro w1 hown1 hgrow1))
  generalize (madeCells (Value.agg #[.int .i64 0, .int .i64 0]).cells (m * 2)).toList = xs1 at hown1
  go_loopw [10] (fun i wr => ∃ (k : Nat) (xs : List Value), k ≤ m ∧ i = .int .i64 k ∧ Hid (xs.take (k * 2) = cells2 (rs.take k)) ∧
      wr.ownsRow w.heap.size 46 2 (.slice (some ⟨w.heap.size, 0, none⟩) m m) m xs ∧ Below w.heap.size w wr)
    (fun i _ => m - (intOf i).toNat)
  case atStart => exact ⟨0, xs1, Nat.zero_le _, rfl, (by rfl : _ = _), hown1, (Below.refl _ _).grown hgrow1 (Nat.le_refl _) (by simp)⟩
  case round =>
    obtain ⟨k, xs, hk, rfl, hx, ho, hbel⟩ := hrel
    clear hown1 hgrow1
    have lx : Hid (xs.length = m * 2) := ho.1
    by_cases hlt : k < m
    · have hlk : k < rs.length := by rw [HM.out]; exact hlt
      obtain ⟨ga, oa, ea, hga, hca⟩ := H1.out k (by simpa [fsts] using hlk)
      obtain ⟨gb, ob, eb, hgb, hcb⟩ := H2.out k (by simpa [snds] using hlk)
      simp only [Option.some.injEq, Addr.mk.injEq, and_true] at ea eb
      obtain ⟨rfl, rfl⟩ := ea
      obtain ⟨rfl, rfl⟩ := eb
      rw [← hbel.cell (by exact hga)] at hca
      rw [← hbel.cell (by exact hgb)] at hcb
      simp only [fsts, snds, List.getElem_map, Nat.zero_add] at hca hcb
      have hx' := set_take2 xs k (by rw [lx.out]; omega) (.int .i64 rs[k].1) (.int .i64 rs[k].2) _ hx
      rw [← cells2_take rs k hlk] at hx'
      generalize rs[k].1 = f at hca hx'
      generalize rs[k].2 = q at hcb hx'
      clear hlk
      obtain ⟨x0, hc0⟩ : ∃ x0, wr.cell? ⟨w.heap.size, k * 2, none⟩ = some x0 := ⟨xs[k * 2]'(by rw [lx.out]; omega), by rw [ho.cellAt (k * 2) (by omega), List.getElem?_eq_getElem (by rw [lx.out]; omega)]⟩
      obtain ⟨x1, hc1⟩ : ∃ x1, wr.cell? ⟨w.heap.size, k * 2 + 1, none⟩ = some x1 := ⟨xs[k * 2 + 1]'(by rw [lx.out]; omega), by rw [ho.cellAt (k * 2 + 1) (by omega), List.getElem?_eq_getElem (by rw [lx.out]; omega)]⟩
      have hf0 := ho.frozenAt (k * 2)
      have hf1 := ho.frozenAt (k * 2 + 1)
      have n1 : ¬ w.heap.size = g1 := by omega
      have n2 : ¬ w.heap.size = g2 := by omega
      have b1 : (k : Int) < (m : Int) := by omega
      have b0 : (0 : Int) ≤ (k : Int) := by omega
      go_wp2_with fail
      go_region_held3 (fun w' => w'.cell? ⟨g1, k, none⟩ = some (.int .i64 f) ∧ w'.cell? ⟨g2, k, none⟩ = some (.int .i64 q)) (go_keep) (fail)
      go_wp2
      have S1 := ho.stored (k * 2) (.int .i64 f)
      have S2 := S1.1.stored (k * 2 + 1) (.int .i64 q)
      go_roundw
      case rel => exact ⟨k + 1, _, by omega, by go_num, hx', S2.1.drew, ((hbel.setCell (by simp) _).setCell (by simp) _).drew⟩
      case measure => simp [intOf]; omega
    · have hF : Hid (xs = cells2 rs) := by
        have := hx.out
        rw [List.take_of_length_le (by rw [lx.out]; omega), List.take_of_length_le (by rw [HM.out]; omega)] at this
        exact this
      have ho' := ho
      rw [hF.out] at ho'
      have hcall := HC.out w.heap.size wr (HR.out.below hbel) (RowP.of_own HM.out.symm ho')
      have HCall : Hid (Calls Trym.prog 26 #[.agg #[.slice ao n n, .slice (some ⟨w.heap.size, 0, none⟩) m m]] wr fun e w'' => ∃ (gl gA K cap KA capA : Nat), e = .returned (.agg #[.slice (some ⟨gl, 0, none⟩) K cap, .slice (some ⟨gA, 0, none⟩) KA capA]) ∧
        K = (Lay.outT T rs).length ∧ KA = (Lay.outA rs).length ∧ Row .u8 w'' (some ⟨gl, 0, none⟩) (Lay.outT T rs) ∧ RowP w'' (some ⟨gA, 0, none⟩) (Lay.outA rs) ∧ Below wr.heap.size wr w'') := hcall
      clear hcall ho' ho hx hF lx HC
      go_wp2_with (first | (go_at_call 26; refine HCall.out.mono ?_; rintro e w3 ⟨gl, gA, K, cap, KA, capA, rfl, hK, hKA, hrl, hra, hb3⟩; have HK : Hid (K = (Lay.outT T rs).length) := hK; have HKA : Hid (KA = (Lay.outA rs).length) := hKA; have hKAb : KA ≤ 2097152 := (by omega); have HRl : Hid (Row .u8 w3 (some ⟨gl, 0, none⟩) (Lay.outT T rs)) := hrl; have HRa : Hid (RowP w3 (some ⟨gA, 0, none⟩) (Lay.outA rs)) := hra; clear hK hKA hrl hra) | (at_make; refine wpList_make_full _ rfl (.tmp 42) (.tmp 42) 31 rfl (w3.heap.size + 1) 3 i3 (.int .i64 0) 1 Trym.underlying31 hi3 hz30 hz31 _ _ _ _ KA rfl rfl rfl rfl (by rw [hz32]; omega) (by unfold maxLen; omega) (by simp) ?_; intro w4 hown4 hgrow4; have b4 : w4.cell? ⟨w3.heap.size, 1, none⟩ = some (.slice (some ⟨gA, 0, none⟩) KA capA) := hgrow4.cell (cell_r _ _ _ _).2 (by simp)) | (at_make; refine wpList_make_full _ rfl (.tmp 46) (.tmp 46) 31 rfl w4.heap.size 3 i3 (.int .i64 0) 1 Trym.underlying31 hi3 hz30 hz31 _ _ _ _ KA rfl rfl rfl rfl (by rw [hz32]; omega) (by unfold maxLen; omega) (by simp) ?_; intro w5 hown5 hgrow5; have b50 : w5.cell? ⟨w3.heap.size, 0, none⟩ = some (.slice (some ⟨gl, 0, none⟩) K cap) := hgrow5.cell (hgrow4.cell (cell_r _ _ _ _).1 (by simp)) (by simp); have b51 : w5.cell? ⟨w3.heap.size, 1, none⟩ = some (.slice (some ⟨gA, 0, none⟩) KA capA) := hgrow5.cell b4 (by simp)))
      have hb5 : Below w3.heap.size w3 w5 := (((Below.refl _ _).alloc (Nat.le_refl _) _).grown hgrow4 (by simp) (by simp)).grown hgrow5 (by have := hgrow4.size; simp at this; omega) (by simp)
      have hlF : w3.heap.size + 1 < w4.heap.size := by have := (hown4.lt _ rfl).2; simpa using this
      generalize (madeCells (Value.int .i64 0).cells (KA * 1)).toList = ys1 at hown4 hown5
      have hown4' : w5.ownsRow (w3.heap.size + 1) 3 1 (.slice (some ⟨w3.heap.size + 1, 0, none⟩) KA KA) KA ys1 := by
        have := hown4.kept hgrow5 (.inr (by simp [Value.ownBlock]))
        simpa using this
      have hb03 : Below w.heap.size w w3 := hbel.trans (hb3.mono hbel.size)
      have hbse : w.heap.size ≤ w3.heap.size := Nat.le_trans hbel.size hb3.size
      clear hb3 hbel HCall hgrow4 hgrow5 hown4 b4
      generalize w4.heap.size = gN at *
      generalize hbb : w3.heap.size = b at *
      have HBB : Hid (w3.heap.size = b) := hbb
      clear hbb
      go_loopw [14] (fun i wr => ∃ (k : Nat) (xs ys : List Value), k ≤ KA ∧ i = .int .i64 k ∧ Hid (xs.take k = (fsts ((Lay.outA rs).take k)).map (Value.int .i64)) ∧ Hid (ys.take k = (snds ((Lay.outA rs).take k)).map (Value.int .i64)) ∧
          wr.ownsRow (b + 1) 3 1 (.slice (some ⟨b + 1, 0, none⟩) KA KA) KA xs ∧ wr.ownsRow gN 3 1 (.slice (some ⟨gN, 0, none⟩) KA KA) KA ys ∧ Below (b + 1) w5 wr)
        (fun i _ => KA - (intOf i).toNat)
      case atStart => exact ⟨0, ys1, ys1, Nat.zero_le _, rfl, (by rfl : _ = _), (by rfl : _ = _), hown4', hown5, Below.refl _ _⟩
      case round =>
        obtain ⟨k, xs, ys, hk, rfl, hx, hy, ho1, ho2, hbel⟩ := hrel
        clear hown4' hown5
        rw [← hbel.cell (p := ⟨b, 0, none⟩) (by simp)] at b50
        rw [← hbel.cell (p := ⟨b, 1, none⟩) (by simp)] at b51
        have hb3r : Below b w3 wr := hb5.trans (hbel.mono (by omega))
        have HRa' : Hid (RowP wr (some ⟨gA, 0, none⟩) (Lay.outA rs)) := HRa.out.below (by rw [HBB.out]; exact hb3r)
        have HRl' : Hid (Row .u8 wr (some ⟨gl, 0, none⟩) (Lay.outT T rs)) := HRl.out.below (by rw [HBB.out]; exact hb3r)
        have lx : Hid (xs.length = KA) := by have := ho1.1; simpa [Hid] using this
        have ly : Hid (ys.length = KA) := by have := ho2.1; simpa [Hid] using this
        by_cases hlt : k < KA
        · have hlk : k < (Lay.outA rs).length := by rw [← HKA.out]; exact hlt
          obtain ⟨g, o, eg, hg, hc0, hc1⟩ := HRa.out k hlk
          rw [HBB.out] at hg
          rw [← hb3r.cell (by exact hg)] at hc0 hc1
          simp only [Option.some.injEq, Addr.mk.injEq, and_true] at eg
          obtain ⟨rfl, rfl⟩ := eg
          simp only [Nat.zero_add] at hc0 hc1
          have hx' := set_take xs k (by rw [lx.out]; exact hlt) (.int .i64 (Lay.outA rs)[k].1) _ hx
          have hy' := set_take ys k (by rw [ly.out]; exact hlt) (.int .i64 (Lay.outA rs)[k].2) _ hy
          rw [← fsts_take _ k hlk] at hx'
          rw [← snds_take _ k hlk] at hy'
          generalize (Lay.outA rs)[k].1 = f at hc0 hx'
          generalize (Lay.outA rs)[k].2 = q at hc1 hy'
          clear hlk
          obtain ⟨x0, hcx⟩ : ∃ x0, wr.cell? ⟨b + 1, k, none⟩ = some x0 := ⟨xs[k]'(by rw [lx.out]; exact hlt), by rw [ho1.cellAt k (by omega), List.getElem?_eq_getElem (by rw [lx.out]; exact hlt)]⟩
          obtain ⟨y0, hcy⟩ : ∃ y0, wr.cell? ⟨gN, k, none⟩ = some y0 := ⟨ys[k]'(by rw [ly.out]; exact hlt), by rw [ho2.cellAt k (by omega), List.getElem?_eq_getElem (by rw [ly.out]; exact hlt)]⟩
          have hfx := ho1.frozenAt k
          have hfy := ho2.frozenAt k
          have n1 : ¬ b + 1 = gA := by omega
          have n2 : ¬ b + 1 = gN := by omega
          have n3 : ¬ b + 1 = b := by omega
          go_wp2_with fail
          have S1 := ho1.stored k (.int .i64 f)
          have S2 := (ho2.kept S1.2 (.inr (by simp [Value.ownBlock]; omega))).stored k (.int .i64 q)
          have S3 := S1.1.kept S2.2 (.inr (by simp [Value.ownBlock]; omega))
          go_roundw
          case rel => exact ⟨k + 1, _, _, by omega, by go_num, hx', hy', S3, S2.1, (hbel.setCell (by simp) _).setCell (by simp; omega) _⟩
          case measure => simp [intOf]; omega
        · have hF1 : Hid (xs = (fsts (Lay.outA rs)).map (Value.int .i64)) := by
            have := hx.out
            rw [List.take_of_length_le (by rw [lx.out]; omega), List.take_of_length_le (by rw [← HKA.out]; omega)] at this
            exact this
          have hF2 : Hid (ys = (snds (Lay.outA rs)).map (Value.int .i64)) := by
            have := hy.out
            rw [List.take_of_length_le (by rw [ly.out]; omega), List.take_of_length_le (by rw [← HKA.out]; omega)] at this
            exact this
          have r1 := ho1
          have r2 := ho2
          rw [hF1.out] at r1
          rw [hF2.out] at r2
          have Q1 : Hid (Row .i64 wr (some ⟨b + 1, 0, none⟩) (fsts (Lay.outA rs))) := Row.of_own (by simp [fsts, HKA.out]) r1
          have Q2 : Hid (Row .i64 wr (some ⟨gN, 0, none⟩) (snds (Lay.outA rs))) := Row.of_own (by simp [snds, HKA.out]) r2
          have hbw : Below w.heap.size w wr := hb03.trans (hb3r.mono (by omega))
          clear r1 r2 hx hy hF1 hF2 lx ly
          go_wp2_with fail
          go_ret3
          exact ⟨gl, b + 1, gN, K, cap, KA, rfl, HK.out, HKA.out, HRl'.out, Q1.out, Q2.out, hbw⟩

end Go.Proofs.Qxb6604100aMods
