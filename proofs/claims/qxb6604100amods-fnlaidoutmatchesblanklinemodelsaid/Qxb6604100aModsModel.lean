/-
  modelLaidOut.
-/
import Derived.Test.Qxb6604100aModsModLaws
namespace Go.Proofs.Qxb6604100aMods
open Go.RowKit

def FV (T : List Int) (rs : List (Int × Int)) (i : Nat) : Value := .int .i64 (Lay.P T rs i : Nat)
def BV (rs : List (Int × Int)) (i : Nat) : Value := .bool (Lay.B rs i)

theorem model_close {w wA w4 : World} {gX gF gN n m K kF kN : Nat} {XX F N : List Int} {s : Lay.S} {T : List Int} {rs : List (Int × Int)} (h : TF wA w4 gX gF gN n m K XX kF F kN N) (hE : XX = Lay.outT T rs) (hA : s.A = Lay.outA rs) (hF : F = fsts s.A) (hN : N = snds s.A) (hb : Below w.heap.size w w4) :
    ∃ (gX' gF' gN' K' KF KN : Nat), Ending.returned (.tuple #[.slice (some ⟨gX, 0, none⟩) K (n + m), .slice (some ⟨gF, 0, none⟩) kF (2 * m), .slice (some ⟨gN, 0, none⟩) kN (2 * m)]) = .returned (.tuple #[.slice (some ⟨gX', 0, none⟩) K' (n + m), .slice (some ⟨gF', 0, none⟩) KF (2 * m), .slice (some ⟨gN', 0, none⟩) KN (2 * m)]) ∧
      K' = (Lay.outT T rs).length ∧ KF = (Lay.outA rs).length ∧ KN = (Lay.outA rs).length ∧ Row .u8 w4 (some ⟨gX', 0, none⟩) (Lay.outT T rs) ∧ Row .i64 w4 (some ⟨gF', 0, none⟩) (fsts (Lay.outA rs)) ∧ Row .i64 w4 (some ⟨gN', 0, none⟩) (snds (Lay.outA rs)) ∧ Below w.heap.size w w4 := by
  rw [hA] at hF hN
  subst hE hF hN
  have l2 := h.lF
  have l3 := h.lN
  simp only [fsts, snds, List.length_map] at l2 l3
  exact ⟨gX, gF, gN, K, kF, kN, rfl, h.lX, l2, l3, Row.of_own h.lX h.oX, Row.of_own h.lF h.oF, Row.of_own h.lN h.oN, hb⟩

set_option maxRecDepth 100000 in
set_option maxHeartbeats 8000000 in
theorem model_any (ao : Option Addr) (n : Nat) (T : List Int) (hao : Txt ao T) (hT : T.length = n) (hn : n ≤ 524288) (aR : Option Addr) (m : Nat) (rs : List (Int × Int)) (hm : rs.length = m) (hmn : m ≤ 32768) (htot : tot rs ≤ 1048576) (w : World)
    (hr : Row .u8 w ao T) (hp : RowP w aR rs) :
    Calls Trym.prog 19 #[.slice ao n n, .slice aR m m] w fun e w' => ∃ (gX gF gN K KF KN : Nat), e = .returned (.tuple #[.slice (some ⟨gX, 0, none⟩) K (n + m), .slice (some ⟨gF, 0, none⟩) KF (2 * m), .slice (some ⟨gN, 0, none⟩) KN (2 * m)]) ∧
      K = (Lay.outT T rs).length ∧ KF = (Lay.outA rs).length ∧ KN = (Lay.outA rs).length ∧ Row .u8 w' (some ⟨gX, 0, none⟩) (Lay.outT T rs) ∧ Row .i64 w' (some ⟨gF, 0, none⟩) (fsts (Lay.outA rs)) ∧ Row .i64 w' (some ⟨gN, 0, none⟩) (snds (Lay.outA rs)) ∧ Below w.heap.size w w' := by
  obtain ⟨i3, hi3, hz30, hz31, hz32⟩ := info_parts Trym.info3
  obtain ⟨i4, hi4, hz40, hz41, hz42⟩ := info_parts Trym.info4
  obtain ⟨i5, hi5, hz50, hz51, hz52⟩ := info_parts Trym.info5
  have HX : Hid (Txt ao T) := hao
  have HR0 : Hid (Row .u8 w ao T) := hr
  have HP0 : Hid (RowP w aR rs) := hp
  have HT : Hid (T.length = n) := hT
  have HM : Hid (rs.length = m) := hm
  have HTk : Hid (∀ k, Lay.tak (rs.take k) ≤ 1048576) := fun k => by have := tak_take rs k; have := tak_tot rs; omega
  clear hao hr hp hT hm htot
  go_enter Trym.func19, Trym.ntmps19
  go_wp2_with fail
  refine (ends_any ao n T HT.out (by omega) w HR0.out).mono ?_
  rintro e w1 ⟨gE, E, rfl, hEN, hEl, hrE, hb1⟩
  have HEN : Hid (Lay.EN T E) := hEN
  have HRE : Hid (Row .i64 w1 (some ⟨gE, 0, none⟩) (ints E)) := hrE
  have HR : Hid (Row .u8 w1 ao T) := HR0.out.below hb1
  have HP : Hid (RowP w1 aR rs) := HP0.out.below hb1
  clear hEN hrE HR0 HP0
  obtain ⟨KE, hKE⟩ : ∃ KE, KE = E.length := ⟨_, rfl⟩
  rw [← hKE] at hEl ⊢
  have HKE : Hid (KE = E.length) := hKE
  clear hKE
  go_wp2_with (first | (at_make; refine wpList_make_full _ rfl (.tmp 21) (.tmp 21) 31 rfl w1.heap.size 3 i3 (.int .i64 0) 1 Trym.underlying31 hi3 hz30 hz31 _ _ _ _ m rfl rfl rfl rfl (by rw [hz32]; omega) (by unfold maxLen; omega) (by simp) ?_; intro w2 hown2 hgrow2) | (at_make; refine wpList_make_full _ rfl (.tmp 24) (.tmp 24) 51 rfl w2.heap.size 4 i4 (.bool false) 1 Trym.underlying51 hi4 hz40 hz41 _ _ _ _ m rfl rfl rfl rfl (by rw [hz42]; omega) (by unfold maxLen; omega) (by simp) ?_; intro w3 hown3 hgrow3))
  have hlt2 : w1.heap.size < w2.heap.size := (hown2.lt _ rfl).2
  have hown2' := hown2.kept hgrow3 (.inr (by simp [Value.ownBlock]))
  have hb3 : Below w1.heap.size w1 w3 := ((Below.refl _ _).grown hgrow2 (Nat.le_refl _) (by simp)).grown hgrow3 (by omega) (by simp)
  have em1 : (madeCells (Value.int .i64 0).cells (m * 1)).toList = List.replicate m (.int .i64 0) := by rw [Nat.mul_one]; exact toList_madeCells_one _ _
  have em2 : (madeCells (Value.bool false).cells (m * 1)).toList = List.replicate m (.bool false) := by rw [Nat.mul_one]; exact toList_madeCells_one _ _
  rw [em1] at hown2'
  rw [em2] at hown3
  clear em1 em2 hown2 hgrow2 hgrow3
  generalize w2.heap.size = gB at *
  go_loopw [10, 11, 12] (fun tk ii pp wr => ∃ (k t : Nat) (xs ys : List Value), k ≤ m ∧ ii = .int .i64 k ∧ tk = .int .i64 t ∧ Hid (t = Lay.tak (rs.take k)) ∧ Hid (Fill (.int .i64 0) (FV T rs) m k xs) ∧ Hid (Fill (.bool false) (BV rs) m k ys) ∧
      wr.ownsRow w1.heap.size 3 1 (.slice (some ⟨w1.heap.size, 0, none⟩) m m) m xs ∧ wr.ownsRow gB 4 1 (.slice (some ⟨gB, 0, none⟩) m m) m ys ∧ Below w1.heap.size w1 wr)
    (fun _ ii _ _ => m - (intOf ii).toNat)
  case atStart => exact ⟨0, 0, _, _, Nat.zero_le _, rfl, rfl, (by rfl : _ = _), Fill.start _ _ _, Fill.start _ _ _, hown2', hown3, hb3⟩
  case round =>
    obtain ⟨k, t, xs, ys, hk, rfl, rfl, HTt, HFx, HFy, ho1, ho2, hbel⟩ := hrel
    clear hown2' hown3 hb3
    have ht : t ≤ 1048576 := by rw [HTt.out]; exact HTk.out k
    by_cases hlt : k < m
    · have hlk : k < rs.length := by rw [HM.out]; exact hlt
      obtain ⟨gR, oR, rfl, hgR, cR0, cR1⟩ := HP.out k hlk
      rw [← hbel.cell (by exact hgR)] at cR0 cR1
      have n1 : ¬ w1.heap.size = gR := by omega
      have n2 : ¬ gB = gR := by omega
      have n3 : ¬ w1.heap.size = gB := by omega
      have n4 : ¬ gB = w1.heap.size := by omega
      have lx : xs.length = m := HFx.out.1
      have ly : ys.length = m := HFy.out.1
      obtain ⟨x0, hcx⟩ : ∃ x0, wr.cell? ⟨w1.heap.size, k, none⟩ = some x0 := ⟨xs[k]'(by omega), by rw [ho1.cellAt k (by omega), List.getElem?_eq_getElem (by omega)]⟩
      obtain ⟨y0, hcy⟩ : ∃ y0, wr.cell? ⟨gB, k, none⟩ = some y0 := ⟨ys[k]'(by omega), by rw [ho2.cellAt k (by omega), List.getElem?_eq_getElem (by omega)]⟩
      have hfx := ho1.frozenAt k
      have hfy := ho2.frozenAt k
      clear lx ly
      have HPo : Hid (Lay.P T rs k = Lay.off E (min t KE)) := by rw [Lay.P_off HEN.out rs k (by omega), ← HTt.out, ← HKE.out]; exact rfl
      have HTs : Hid (t + rs[k].2.toNat = Lay.tak (rs.take (k + 1))) := by rw [tak_succ rs k hlk, ← HTt.out]; exact rfl
      have hT1 : t + rs[k].2.toNat ≤ 1048576 := by rw [HTs.out]; exact HTk.out (k + 1)
      clear HTt
      by_cases hk0 : k = 0
      · subst hk0
        have ht0 : min t KE = 0 ∧ True := ⟨by
          have e := HTs.out
          rw [tak_succ rs 0 hlk] at e
          have e2 : Lay.tak (rs.take 0) = 0 := by simp [Lay.tak]
          omega, trivial⟩
        have t0 : t = 0 := by
          have e := HTs.out
          rw [tak_succ rs 0 hlk] at e
          have e2 : Lay.tak (rs.take 0) = 0 := by simp [Lay.tak]
          omega
        subst t0
        have HF2 : Hid (Fill (.int .i64 0) (FV T rs) m 1 xs) := HFx.out.keep hlt (by simp [FV, P_zero])
        have HB2 : Hid (Fill (.bool false) (BV rs) m 1 (ys.set 0 (.bool (rs[0].1 != 1)))) := HFy.out.store hlt _ (by rw [BV, B_zero rs hlk])
        simp only [Nat.zero_mul, Nat.add_zero] at cR0 cR1
        generalize rs[0].1 = f at *
        generalize rs[0].2 = q at *
        clear HPo ht0 HFx HFy hlk
        have S2 := ho2.stored 0 (.bool (f != 1))
        have S1 := ho1.kept S2.2 (.inr (by simp [Value.ownBlock]; omega))
        have hbm : (0 : Int) < (m : Int) := by omega
        have hdE : decide ((KE : Int) < 0) = false := decide_eq_false (by omega)
        by_cases hq : 0 < q
        · go_wp2_with fail
          go_roundw
          case rel => exact ⟨1, 0 + q.toNat, xs, _, by omega, by go_num, congrArg (Value.int .i64) (by omega), HTs, HF2, HB2, S1, S2.1, hbel.setCell (by simp; omega) _⟩
          case measure => simp [intOf]; omega
        · have e0 : q.toNat = 0 := by omega
          rw [e0] at HTs
          go_wp2_with fail
          go_roundw
          case rel => exact ⟨1, 0, xs, _, by omega, by go_num, rfl, HTs, HF2, HB2, S1, S2.1, hbel.setCell (by simp; omega) _⟩
          case measure => simp [intOf]; omega
      · obtain ⟨j, rfl⟩ : ∃ j, k = j + 1 := ⟨k - 1, by omega⟩
        clear hk0
        have hlj : j < rs.length := by omega
        obtain ⟨gR', oR', eR', _, cP0, cP1⟩ := HP.out j hlj
        simp only [Option.some.injEq, Addr.mk.injEq, and_true] at eR'
        obtain ⟨rfl, rfl⟩ := eR'
        rw [← hbel.cell (by exact hgR)] at cP0 cP1
        have HB2 : Hid (Fill (.bool false) (BV rs) m (j + 1 + 1) (ys.set (j + 1) (.bool (rs[j + 1].1 != wrap64 (rs[j].1 + rs[j].2))))) := HFy.out.store hlt _ (by rw [BV, B_succ rs j hlk])
        have hjI : (j : Int) < (m : Int) := by omega
        have hjI1 : (j : Int) + 1 < (m : Int) := by omega
        have hjI0 : (0 : Int) ≤ (j : Int) := by omega
        have hjI2 : (0 : Int) ≤ (j : Int) + 1 := by omega
        have hj0 : ((j : Int) + 1 == 0) = false := by rw [beq_eq_false_iff_ne]; omega
        have hw3 : IntKind.i64.wrap (j : Int) = (j : Int) := by rw [IntWalk.i64_left]; exact IntWalk.wrap64_in _ (by omega)
        have hw4 : IntKind.i64.wrap ((j : Int) + 1 - 1) = (j : Int) := by rw [IntWalk.i64_left, IntWalk.wrap64_in _ (by omega)]; omega
        by_cases hp : KE < t
        · by_cases hp0 : KE = 0
          · subst hp0
            have HF2 : Hid (Fill (.int .i64 0) (FV T rs) m (j + 1 + 1) xs) := HFx.out.keep hlt (by rw [FV, HPo.out]; simp [Lay.off])
            have hpI : (0 : Int) < (t : Int) := by omega
            generalize rs[j + 1].1 = f at *
            generalize rs[j + 1].2 = q at *
            generalize rs[j].1 = f0 at *
            generalize rs[j].2 = q0 at *
            clear HPo HFx HFy hlk hlj
            go_wp2_with fail
            go_region_held3 (fun w' => w'.cell? ⟨gR, oR + (j + 1) * 2, none⟩ = some (.int .i64 f) ∧ w'.cell? ⟨gR, oR + j * 2, none⟩ = some (.int .i64 f0) ∧ w'.cell? ⟨gR, oR + j * 2 + 1, none⟩ = some (.int .i64 q0)) (go_keep) (fail)
            have S2 := ho2.stored (j + 1) (.bool (f != wrap64 (f0 + q0)))
            have S1 := ho1.kept S2.2 (.inr (by simp [Value.ownBlock]; omega))
            by_cases hq : 0 < q
            · go_wp2_with fail
              go_roundw
              case rel => exact ⟨j + 1 + 1, t + q.toNat, _, _, by omega, by go_num, congrArg (Value.int .i64) (by omega), HTs, HF2, HB2, S1.drew, S2.1.drew, (hbel.setCell (by simp; omega) _).drew⟩
              case measure => simp [intOf]; omega
            · have e0 : q.toNat = 0 := by omega
              rw [e0] at HTs
              go_wp2_with fail
              go_roundw
              case rel => exact ⟨j + 1 + 1, t, _, _, by omega, by go_num, rfl, HTs, HF2, HB2, S1.drew, S2.1.drew, (hbel.setCell (by simp; omega) _).drew⟩
              case measure => simp [intOf]; omega
          · obtain ⟨r, rfl⟩ : ∃ r, KE = r + 1 := ⟨KE - 1, by omega⟩
            have hrE : r < E.length := by rw [← HKE.out]; omega
            have ePv : Lay.P T rs (j + 1) = E[r] := by rw [HPo.out, Nat.min_eq_right (by omega), off_pos hrE]
            have cE := (row_at (HRE.out.below hbel) r (by rw [ints_len]; exact hrE)).1
            have eE : (ints E)[r]'(by rw [ints_len]; exact hrE) = ((Lay.P T rs (j + 1) : Nat) : Int) := by rw [ePv]; simp [ints]
            rw [eE] at cE
            clear eE ePv hrE
            have HF2 : Hid (Fill (.int .i64 0) (FV T rs) m (j + 1 + 1) (xs.set (j + 1) (.int .i64 (Lay.P T rs (j + 1) : Nat)))) := HFx.out.store hlt _ rfl
            have hpI : (r : Int) + 1 < (t : Int) := by omega
            have hrI : (0 : Int) ≤ (r : Int) := by omega
            generalize Lay.P T rs (j + 1) = pv at *
            generalize rs[j + 1].1 = f at *
            generalize rs[j + 1].2 = q at *
            generalize rs[j].1 = f0 at *
            generalize rs[j].2 = q0 at *
            clear HPo HFx HFy hlk hlj
            have S0 := ho1.stored (j + 1) (.int .i64 (pv : Nat))
            have bel0 : Below w1.heap.size w1 (wr.setCell ⟨w1.heap.size, j + 1, none⟩ (.int .i64 (pv : Nat))) := hbel.setCell (by simp) _
            have ho2' := ho2.kept S0.2 (.inr (by simp [Value.ownBlock]; omega))
            have d0 : (wr.setCell ⟨w1.heap.size, j + 1, none⟩ (.int .i64 (pv : Nat))).cell? ⟨gR, oR + (j + 1) * 2, none⟩ = some (.int .i64 f) := by rw [bel0.cell (by exact hgR), ← hbel.cell (by exact hgR)]; exact cR0
            have d1 : (wr.setCell ⟨w1.heap.size, j + 1, none⟩ (.int .i64 (pv : Nat))).cell? ⟨gR, oR + (j + 1) * 2 + 1, none⟩ = some (.int .i64 q) := by rw [bel0.cell (by exact hgR), ← hbel.cell (by exact hgR)]; exact cR1
            have d2 : (wr.setCell ⟨w1.heap.size, j + 1, none⟩ (.int .i64 (pv : Nat))).cell? ⟨gR, oR + j * 2, none⟩ = some (.int .i64 f0) := by rw [bel0.cell (by exact hgR), ← hbel.cell (by exact hgR)]; exact cP0
            have d3 : (wr.setCell ⟨w1.heap.size, j + 1, none⟩ (.int .i64 (pv : Nat))).cell? ⟨gR, oR + j * 2 + 1, none⟩ = some (.int .i64 q0) := by rw [bel0.cell (by exact hgR), ← hbel.cell (by exact hgR)]; exact cP1
            have hcy' : ∃ y1, (wr.setCell ⟨w1.heap.size, j + 1, none⟩ (.int .i64 (pv : Nat))).cell? ⟨gB, j + 1, none⟩ = some y1 := ⟨ys[j + 1]'(by have := ho2.1; omega), by rw [ho2'.cellAt (j + 1) (by omega), List.getElem?_eq_getElem]⟩
            have hfy' := ho2'.frozenAt (j + 1)
            have hS1 := S0.1
            obtain ⟨y1, hcy1⟩ := hcy'
            clear hcy
            go_wp2_with fail
            generalize wr.setCell ⟨w1.heap.size, j + 1, none⟩ (.int .i64 (pv : Nat)) = wq at *
            clear S0 cR0 cR1 cP0 cP1 hcx hfx hfy ho1 ho2 hbel
            go_region_held3 (fun w' => w'.cell? ⟨gR, oR + (j + 1) * 2, none⟩ = some (.int .i64 f) ∧ w'.cell? ⟨gR, oR + j * 2, none⟩ = some (.int .i64 f0) ∧ w'.cell? ⟨gR, oR + j * 2 + 1, none⟩ = some (.int .i64 q0)) (go_keep) (fail)
            have S2 := ho2'.stored (j + 1) (.bool (f != wrap64 (f0 + q0)))
            have S1 := hS1.kept S2.2 (.inr (by simp [Value.ownBlock]; omega))
            by_cases hq : 0 < q
            · go_wp2_with fail
              go_roundw
              case rel => exact ⟨j + 1 + 1, t + q.toNat, _, _, by omega, by go_num, congrArg (Value.int .i64) (by omega), HTs, HF2, HB2, S1.drew, S2.1.drew, (bel0.setCell (by simp; omega) _).drew⟩
              case measure => simp [intOf]; omega
            · have e0 : q.toNat = 0 := by omega
              rw [e0] at HTs
              go_wp2_with fail
              go_roundw
              case rel => exact ⟨j + 1 + 1, t, _, _, by omega, by go_num, rfl, HTs, HF2, HB2, S1.drew, S2.1.drew, (bel0.setCell (by simp; omega) _).drew⟩
              case measure => simp [intOf]; omega
        · by_cases hp0 : t = 0
          · subst hp0
            have HF2 : Hid (Fill (.int .i64 0) (FV T rs) m (j + 1 + 1) xs) := HFx.out.keep hlt (by rw [FV, HPo.out]; simp [Lay.off])
            have hpI : decide ((KE : Int) < 0) = false := decide_eq_false (by omega)
            generalize rs[j + 1].1 = f at *
            generalize rs[j + 1].2 = q at *
            generalize rs[j].1 = f0 at *
            generalize rs[j].2 = q0 at *
            clear HPo HFx HFy hlk hlj
            go_wp2_with fail
            go_region_held3 (fun w' => w'.cell? ⟨gR, oR + (j + 1) * 2, none⟩ = some (.int .i64 f) ∧ w'.cell? ⟨gR, oR + j * 2, none⟩ = some (.int .i64 f0) ∧ w'.cell? ⟨gR, oR + j * 2 + 1, none⟩ = some (.int .i64 q0)) (go_keep) (fail)
            have S2 := ho2.stored (j + 1) (.bool (f != wrap64 (f0 + q0)))
            have S1 := ho1.kept S2.2 (.inr (by simp [Value.ownBlock]; omega))
            by_cases hq : 0 < q
            · go_wp2_with fail
              go_roundw
              case rel => exact ⟨j + 1 + 1, 0 + q.toNat, _, _, by omega, by go_num, congrArg (Value.int .i64) (by omega), HTs, HF2, HB2, S1.drew, S2.1.drew, (hbel.setCell (by simp; omega) _).drew⟩
              case measure => simp [intOf]; omega
            · have e0 : q.toNat = 0 := by omega
              rw [e0] at HTs
              go_wp2_with fail
              go_roundw
              case rel => exact ⟨j + 1 + 1, 0, _, _, by omega, by go_num, rfl, HTs, HF2, HB2, S1.drew, S2.1.drew, (hbel.setCell (by simp; omega) _).drew⟩
              case measure => simp [intOf]; omega
          · obtain ⟨r, rfl⟩ : ∃ r, t = r + 1 := ⟨t - 1, by omega⟩
            have hrE : r < E.length := by rw [← HKE.out]; omega
            have ePv : Lay.P T rs (j + 1) = E[r] := by rw [HPo.out, Nat.min_eq_left (by omega), off_pos hrE]
            have cE := (row_at (HRE.out.below hbel) r (by rw [ints_len]; exact hrE)).1
            have eE : (ints E)[r]'(by rw [ints_len]; exact hrE) = ((Lay.P T rs (j + 1) : Nat) : Int) := by rw [ePv]; simp [ints]
            rw [eE] at cE
            clear eE ePv hrE
            have HF2 : Hid (Fill (.int .i64 0) (FV T rs) m (j + 1 + 1) (xs.set (j + 1) (.int .i64 (Lay.P T rs (j + 1) : Nat)))) := HFx.out.store hlt _ rfl
            have hpI : ¬ (KE : Int) < (r : Int) + 1 := by omega
            have hrI : (0 : Int) ≤ (r : Int) := by omega
            have hrI1 : (r : Int) < (KE : Int) := by omega
            generalize Lay.P T rs (j + 1) = pv at *
            generalize rs[j + 1].1 = f at *
            generalize rs[j + 1].2 = q at *
            generalize rs[j].1 = f0 at *
            generalize rs[j].2 = q0 at *
            clear HPo HFx HFy hlk hlj
            have S0 := ho1.stored (j + 1) (.int .i64 (pv : Nat))
            have bel0 : Below w1.heap.size w1 (wr.setCell ⟨w1.heap.size, j + 1, none⟩ (.int .i64 (pv : Nat))) := hbel.setCell (by simp) _
            have ho2' := ho2.kept S0.2 (.inr (by simp [Value.ownBlock]; omega))
            have d0 : (wr.setCell ⟨w1.heap.size, j + 1, none⟩ (.int .i64 (pv : Nat))).cell? ⟨gR, oR + (j + 1) * 2, none⟩ = some (.int .i64 f) := by rw [bel0.cell (by exact hgR), ← hbel.cell (by exact hgR)]; exact cR0
            have d1 : (wr.setCell ⟨w1.heap.size, j + 1, none⟩ (.int .i64 (pv : Nat))).cell? ⟨gR, oR + (j + 1) * 2 + 1, none⟩ = some (.int .i64 q) := by rw [bel0.cell (by exact hgR), ← hbel.cell (by exact hgR)]; exact cR1
            have d2 : (wr.setCell ⟨w1.heap.size, j + 1, none⟩ (.int .i64 (pv : Nat))).cell? ⟨gR, oR + j * 2, none⟩ = some (.int .i64 f0) := by rw [bel0.cell (by exact hgR), ← hbel.cell (by exact hgR)]; exact cP0
            have d3 : (wr.setCell ⟨w1.heap.size, j + 1, none⟩ (.int .i64 (pv : Nat))).cell? ⟨gR, oR + j * 2 + 1, none⟩ = some (.int .i64 q0) := by rw [bel0.cell (by exact hgR), ← hbel.cell (by exact hgR)]; exact cP1
            have hcy' : ∃ y1, (wr.setCell ⟨w1.heap.size, j + 1, none⟩ (.int .i64 (pv : Nat))).cell? ⟨gB, j + 1, none⟩ = some y1 := ⟨ys[j + 1]'(by have := ho2.1; omega), by rw [ho2'.cellAt (j + 1) (by omega), List.getElem?_eq_getElem]⟩
            have hfy' := ho2'.frozenAt (j + 1)
            have hS1 := S0.1
            obtain ⟨y1, hcy1⟩ := hcy'
            clear hcy
            go_wp2_with fail
            generalize wr.setCell ⟨w1.heap.size, j + 1, none⟩ (.int .i64 (pv : Nat)) = wq at *
            clear S0 cR0 cR1 cP0 cP1 hcx hfx hfy ho1 ho2 hbel
            go_region_held3 (fun w' => w'.cell? ⟨gR, oR + (j + 1) * 2, none⟩ = some (.int .i64 f) ∧ w'.cell? ⟨gR, oR + j * 2, none⟩ = some (.int .i64 f0) ∧ w'.cell? ⟨gR, oR + j * 2 + 1, none⟩ = some (.int .i64 q0)) (go_keep) (fail)
            have S2 := ho2'.stored (j + 1) (.bool (f != wrap64 (f0 + q0)))
            have S1 := hS1.kept S2.2 (.inr (by simp [Value.ownBlock]; omega))
            by_cases hq : 0 < q
            · go_wp2_with fail
              go_roundw
              case rel => exact ⟨j + 1 + 1, (r + 1) + q.toNat, _, _, by omega, by go_num, congrArg (Value.int .i64) (by omega), HTs, HF2, HB2, S1.drew, S2.1.drew, (bel0.setCell (by simp; omega) _).drew⟩
              case measure => simp [intOf]; omega
            · have e0 : q.toNat = 0 := by omega
              rw [e0] at HTs
              go_wp2_with fail
              go_roundw
              case rel => exact ⟨j + 1 + 1, (r + 1), _, _, by omega, by go_num, rfl, HTs, HF2, HB2, S1.drew, S2.1.drew, (bel0.setCell (by simp; omega) _).drew⟩
              case measure => simp [intOf]; omega
    · obtain rfl : k = m := by omega
      have cO : Hid (∀ i, i < k → wr.cell? ⟨w1.heap.size, i, none⟩ = some (FV T rs i)) := fun i hi => by rw [ho1.cellAt i (by omega)]; exact HFx.out.full i hi
      have cB : Hid (∀ i, i < k → wr.cell? ⟨gB, i, none⟩ = some (BV rs i)) := fun i hi => by rw [ho2.cellAt i (by omega)]; exact HFy.out.full i hi
      have lB : gB < wr.heap.size := (ho2.lt _ rfl).2
      have HRA : Hid (Row .u8 wr ao T) := HR.out.below hbel
      have HPA : Hid (RowP wr aR rs) := HP.out.below hbel
      have hbA : Below w.heap.size w wr := hb1.trans (hbel.mono hb1.size)
      clear HTt HFx HFy ho1 ho2 hbel HR HP HRE HEN HKE ht hb1 HTk
      generalize w1.heap.size = gO at *
      generalize wr = wA at *
      go_wp2_with (first | (at_make; refine wpList_make_own _ rfl (.const (.int .i64 0)) (.tmp 99) 22 rfl wA.heap.size 5 i5 (.int .u8 0) 1 Trym.underlying22 hi5 hz50 hz51 _ _ _ (n + k) rfl rfl (by omega) (by rw [hz52]; omega) (by unfold maxLen; omega) (Nat.le_refl _) ?_; intro wX hoX hgX) | (at_make; refine wpList_make_own _ rfl (.const (.int .i64 0)) (.tmp 103) 31 rfl wX.heap.size 3 i3 (.int .i64 0) 1 Trym.underlying31 hi3 hz30 hz31 _ _ _ (2 * k) rfl rfl (by omega) (by rw [hz32]; omega) (by unfold maxLen; omega) (Nat.le_refl _) ?_; intro wF hoF hgF) | (at_make; refine wpList_make_own _ rfl (.const (.int .i64 0)) (.tmp 107) 31 rfl wF.heap.size 3 i3 (.int .i64 0) 1 Trym.underlying31 hi3 hz30 hz31 _ _ _ (2 * k) rfl rfl (by omega) (by rw [hz32]; omega) (by unfold maxLen; omega) (Nat.le_refl _) ?_; intro wN hoN hgN))
      have lx : wA.heap.size < wX.heap.size := (hoX.lt _ rfl).2
      have lf : wX.heap.size < wF.heap.size := (hoF.lt _ rfl).2
      have T0 : TF wA wN wA.heap.size wX.heap.size wF.heap.size n k 0 [] 0 [] 0 [] :=
        ⟨(hoX.kept hgF (.inr (by simp [Value.ownBlock]))).kept hgN (.inr (by simp [Value.ownBlock])), hoF.kept hgN (.inr (by simp [Value.ownBlock])), hoN, lx, lf, (((Below.refl _ _).grown hgX (Nat.le_refl _) (by simp)).grown hgF (by omega) (by simp)).grown hgN (by omega) (by simp)⟩
      clear hoX hoF hoN hgX hgF hgN
      generalize wX.heap.size = gF at *
      generalize wF.heap.size = gN at *
      go_loopw [13, 14, 15, 16, 17] (fun tx fs nn frv ii wr => ∃ (i : Nat) (s : Lay.S) (X F N : List Int) (fr kX kF kN : Nat), i ≤ k ∧ ii = .int .i64 i ∧ frv = .int .i64 fr ∧ tx = .slice (some ⟨wA.heap.size, 0, none⟩) kX (n + k) ∧ fs = .slice (some ⟨gF, 0, none⟩) kF (2 * k) ∧ nn = .slice (some ⟨gN, 0, none⟩) kN (2 * k) ∧
          Hid (s = Lay.st T (rs.take i)) ∧ Hid (Lay.M T s X fr) ∧ Hid (F = fsts s.A) ∧ Hid (N = snds s.A) ∧ TF wA wr wA.heap.size gF gN n k kX X kF F kN N)
        (fun _ _ _ _ ii _ => k - (intOf ii).toNat)
      case atStart => exact ⟨0, Lay.s0, [], [], [], 0, 0, 0, 0, Nat.zero_le _, rfl, rfl, rfl, rfl, rfl, (by rfl : _ = _), Lay.M_start T, (by rfl : _ = _), (by rfl : _ = _), T0⟩
      case round =>
        obtain ⟨i, s, X, F, N, fr, kX, kF, kN, hi, rfl, rfl, rfl, rfl, rfl, HS, HMi, HF, HN, TT⟩ := hrel
        clear T0
        have hst := Lay.st_facts T (rs.take i)
        rw [← HS.out, HT.out, List.length_take, HM.out, Nat.min_eq_left hi] at hst
        obtain ⟨hs1, hs2, hs3, hs4⟩ := hst
        have hml := Lay.M_len HMi.out (by rw [HT.out]; exact hs1)
        rw [← TT.lX] at hml
        obtain ⟨hm1, hm2⟩ := hml
        have hkF : kF ≤ 2 * i := by rw [TT.lF, HF.out]; simpa [fsts] using hs3
        have hkN : kN ≤ 2 * i := by rw [TT.lN, HN.out]; simpa [snds] using hs3
        have hkX : kX + (s.pos - fr) ≤ s.pos + i := by omega
        clear hm1 hs4 hs2 hs3
        by_cases hlt2 : i < k
        · have hli : i < rs.length := by rw [HM.out]; exact hlt2
          obtain ⟨gR, oR, rfl, hgR, aR0, aR1⟩ := HPA.out i hli
          have aO := cO.out i hlt2
          have aB := cB.out i hlt2
          have ePs : Lay.P T rs i = s.pos := by rw [HS.out]; rfl
          rw [FV, ePs] at aO
          rw [BV, B_at T rs i hli, ← HS.out] at aB
          have HNx : Hid (Lay.st T (rs.take (i + 1)) = Lay.adv T s rs[i]) := by
            rw [List.take_succ_eq_append_getElem hli, Lay.st_snoc, ← HS.out]; exact rfl
          obtain ⟨⟨f, q⟩, hrk⟩ : ∃ r, r = rs[i] := ⟨_, rfl⟩
          rw [← hrk] at aR0 aR1 aB HNx
          clear hrk hli HS ePs
          generalize hpv : s.pos = pv at *
          have HPv : Hid (s.pos = pv) := hpv
          clear hpv
          have c0 := TT.cell hgR aR0
          have c1 := TT.cell hgR aR1
          have cOi := TT.cell (by omega) aO
          have cBi := TT.cell lB aB
          by_cases hf : f = s.nx
          · have hf' : (f != s.nx) = false := by simp [hf]
            have HM2 : Hid (Lay.M T (Lay.adv T s (f, q)) X fr) := Lay.M_eq HMi.out hf
            have HF2 : Hid (F ++ [f] = fsts (Lay.adv T s (f, q)).A) := by simp only [Lay.adv]; rw [if_pos hf, HF.out]; simp [fsts, Hid]
            have HN2 : Hid (N ++ [q] = snds (Lay.adv T s (f, q)).A) := by simp only [Lay.adv]; rw [if_pos hf, HN.out]; simp [snds, Hid]
            rw [hf'] at cBi
            have HS2 : Hid (Lay.adv T s (f, q) = Lay.st T (rs.take (i + 1))) := by rw [HNx.out]; exact rfl
            clear HNx HMi HF HN hf hf' aB HPv
            go_wp2_with (first | (at_builtin; refine wpList_append_fits _ rfl (.tmp 147) (.tmp 153) 31 rfl gF 3 i3 1 Trym.underlying31 hi3 hz31 gF kF (2 * k) _ rfl (TT.alloc _).oF ⟨wr.heap.size, 0, none⟩ 1 1 [.int .i64 f] rfl rfl (cell_one_new _ _ _) (by simp [Value.oneCell']) (by omega) ?_; intro w8 oo8 gg8; have T8 := (TT.alloc _).appF oo8 gg8; have e80 := T8.cell hgR aR0; have e81 := T8.cell hgR aR1; clear oo8 gg8) | (at_builtin; refine wpList_append_fits _ rfl (.tmp 155) (.tmp 161) 31 rfl gN 3 i3 1 Trym.underlying31 hi3 hz31 gN kN (2 * k) _ rfl (T8.alloc _).oN ⟨w8.heap.size, 0, none⟩ 1 1 [.int .i64 q] rfl rfl (cell_one_new _ _ _) (by simp [Value.oneCell']) (by omega) ?_; intro w9 oo9 gg9; have T9 := (T8.alloc _).appN oo9 gg9; have e90 := T9.cell hgR aR0; have e91 := T9.cell hgR aR1; clear oo9 gg9))
            have hsd : 0 ≤ i := Nat.zero_le _
            go_roundw
            case rel => exact ⟨i + 1, _, _, _, _, fr, kX, kF + 1, kN + 1, by omega, by go_num, rfl, rfl, rfl, rfl, HS2, HM2, HF2, HN2, T9⟩
            case measure => simp [intOf]; omega
          · have hf' : (f != s.nx) = true := by simpa using hf
            have HM2 : Hid (Lay.M T (Lay.adv T s (f, q)) ((X ++ (T.drop fr).take (pv - fr)) ++ [10]) pv) := by have := Lay.M_ne HMi.out (r := (f, q)) hf; rw [HPv.out] at this; exact this
            have HF2 : Hid ((F ++ [wrap64 (f - 1)]) ++ [f] = fsts (Lay.adv T s (f, q)).A) := by simp only [Lay.adv]; rw [if_neg hf, HF.out]; simp [fsts, Hid]
            have HN2 : Hid ((N ++ [1]) ++ [q] = snds (Lay.adv T s (f, q)).A) := by simp only [Lay.adv]; rw [if_neg hf, HN.out]; simp [snds, Hid]
            rw [hf'] at cBi
            have HS2 : Hid (Lay.adv T s (f, q) = Lay.st T (rs.take (i + 1))) := by rw [HNx.out]; exact rfl
            have hYl : ((T.drop fr).take (pv - fr)).length = pv - fr := by rw [List.length_take, List.length_drop, HT.out]; omega
            have HYl : Hid ((((T.drop fr).take (pv - fr)).map (Value.int .u8)).length = (pv - fr) * 1) := by rw [List.length_map, hYl]; simp [Hid]
            clear HNx HMi HF HN hf hf' aB HPv hYl
            by_cases hfn : fr = n
            · obtain rfl : pv = n := by omega
              subst hfn
              have eY : (T.drop fr).take (fr - fr) = [] := by simp
              rw [eY] at HM2
              clear HYl eY
              go_wp2_with (first | (at_builtin; refine wpList_append_fits_any _ rfl (.tmp 119) (.tmp 126) 22 rfl wA.heap.size 5 i5 1 Trym.underlying22 hi5 hz51 wA.heap.size kX (fr + k) _ rfl TT.oX ao 0 0 [] rfl rfl (fun _ => ⟨rfl, rfl⟩) (by simp) (by simp) (by omega) ?_; intro w4 oo4 gg4; have T4 := TT.appX (Y := []) oo4 gg4; simp only [Nat.add_zero] at T4; have e4O := T4.cell (by omega) aO; clear oo4 gg4) | (at_builtin; refine wpList_append_fits _ rfl (.tmp 132) (.tmp 133) 22 rfl wA.heap.size 5 i5 1 Trym.underlying22 hi5 hz51 wA.heap.size kX (fr + k) _ rfl (T4.alloc _).oX ⟨w4.heap.size, 0, none⟩ 1 1 [.int .u8 10] rfl rfl (cell_one_new _ _ _) (by simp [Value.oneCell']) (by omega) ?_; intro w5 oo5 gg5; have T5 := (T4.alloc _).appX (Y := [10]) oo5 gg5; have e50 := T5.cell hgR aR0; have e51 := T5.cell hgR aR1; clear oo5 gg5) | (at_builtin; refine wpList_append_fits _ rfl (.tmp 135) (.tmp 142) 31 rfl gF 3 i3 1 Trym.underlying31 hi3 hz31 gF kF (2 * k) _ rfl (T5.alloc _).oF ⟨w5.heap.size, 0, none⟩ 1 1 [.int .i64 (wrap64 (f - 1))] rfl rfl (cell_one_new _ _ _) (by simp [Value.oneCell']) (by omega) ?_; intro w6 oo6 gg6; have T6 := (T5.alloc _).appF oo6 gg6; have e60 := T6.cell hgR aR0; have e61 := T6.cell hgR aR1; clear oo6 gg6) | (at_builtin; refine wpList_append_fits _ rfl (.tmp 144) (.tmp 145) 31 rfl gN 3 i3 1 Trym.underlying31 hi3 hz31 gN kN (2 * k) _ rfl (T6.alloc _).oN ⟨w6.heap.size, 0, none⟩ 1 1 [.int .i64 1] rfl rfl (cell_one_new _ _ _) (by simp [Value.oneCell']) (by omega) ?_; intro w7 oo7 gg7; have T7 := (T6.alloc _).appN oo7 gg7; have e70 := T7.cell hgR aR0; have e71 := T7.cell hgR aR1; clear oo7 gg7) | (at_builtin; refine wpList_append_fits _ rfl (.tmp 147) (.tmp 153) 31 rfl gF 3 i3 1 Trym.underlying31 hi3 hz31 gF (kF + 1) (2 * k) _ rfl (T7.alloc _).oF ⟨w7.heap.size, 0, none⟩ 1 1 [.int .i64 f] rfl rfl (cell_one_new _ _ _) (by simp [Value.oneCell']) (by omega) ?_; intro w8 oo8 gg8; have T8 := (T7.alloc _).appF oo8 gg8; have e80 := T8.cell hgR aR0; have e81 := T8.cell hgR aR1; clear oo8 gg8) | (at_builtin; refine wpList_append_fits _ rfl (.tmp 155) (.tmp 161) 31 rfl gN 3 i3 1 Trym.underlying31 hi3 hz31 gN (kN + 1) (2 * k) _ rfl (T8.alloc _).oN ⟨w8.heap.size, 0, none⟩ 1 1 [.int .i64 q] rfl rfl (cell_one_new _ _ _) (by simp [Value.oneCell']) (by omega) ?_; intro w9 oo9 gg9; have T9 := (T8.alloc _).appN oo9 gg9; have e90 := T9.cell hgR aR0; have e91 := T9.cell hgR aR1; clear oo9 gg9))
              go_roundw
              case rel => exact ⟨i + 1, _, _, _, _, fr, _, _, _, by omega, by go_num, rfl, rfl, rfl, rfl, HS2, HM2, HF2, HN2, T9⟩
              case measure => simp [intOf]; omega
            · obtain ⟨g, rfl⟩ : ∃ g, ao = some ⟨g, 0, none⟩ := by
                rcases HX.out with ⟨_, h⟩ | h
                · have := HT.out; rw [h] at this; simp at this; omega
                · exact h
              have hlt3 : fr < n := by omega
              have HNews : Hid (∀ j u, (((T.drop fr).take (pv - fr)).map (Value.int .u8))[j]? = some u → wr.cell? ((⟨g, fr, none⟩ : Addr).add j) = some u) := (((HRA.out.below TT.bel).view fr).take (pv - fr)).cells
              go_wp2_with (first | (at_builtin; refine wpList_append_fits _ rfl (.tmp 119) (.tmp 126) 22 rfl wA.heap.size 5 i5 1 Trym.underlying22 hi5 hz51 wA.heap.size kX (n + k) _ rfl TT.oX ⟨g, fr, none⟩ (pv - fr) (n - fr) (((T.drop fr).take (pv - fr)).map (Value.int .u8)) rfl HYl.out HNews.out (ints_oneCell _ _) (by omega) ?_; intro w4 oo4 gg4; have T4 := TT.appX oo4 gg4; have e4O := T4.cell (by omega) aO; clear oo4 gg4) | (at_builtin; refine wpList_append_fits _ rfl (.tmp 132) (.tmp 133) 22 rfl wA.heap.size 5 i5 1 Trym.underlying22 hi5 hz51 wA.heap.size (kX + (pv - fr)) (n + k) _ rfl (T4.alloc _).oX ⟨w4.heap.size, 0, none⟩ 1 1 [.int .u8 10] rfl rfl (cell_one_new _ _ _) (by simp [Value.oneCell']) (by omega) ?_; intro w5 oo5 gg5; have T5 := (T4.alloc _).appX (Y := [10]) oo5 gg5; have e50 := T5.cell hgR aR0; have e51 := T5.cell hgR aR1; clear oo5 gg5) | (at_builtin; refine wpList_append_fits _ rfl (.tmp 135) (.tmp 142) 31 rfl gF 3 i3 1 Trym.underlying31 hi3 hz31 gF kF (2 * k) _ rfl (T5.alloc _).oF ⟨w5.heap.size, 0, none⟩ 1 1 [.int .i64 (wrap64 (f - 1))] rfl rfl (cell_one_new _ _ _) (by simp [Value.oneCell']) (by omega) ?_; intro w6 oo6 gg6; have T6 := (T5.alloc _).appF oo6 gg6; have e60 := T6.cell hgR aR0; have e61 := T6.cell hgR aR1; clear oo6 gg6) | (at_builtin; refine wpList_append_fits _ rfl (.tmp 144) (.tmp 145) 31 rfl gN 3 i3 1 Trym.underlying31 hi3 hz31 gN kN (2 * k) _ rfl (T6.alloc _).oN ⟨w6.heap.size, 0, none⟩ 1 1 [.int .i64 1] rfl rfl (cell_one_new _ _ _) (by simp [Value.oneCell']) (by omega) ?_; intro w7 oo7 gg7; have T7 := (T6.alloc _).appN oo7 gg7; have e70 := T7.cell hgR aR0; have e71 := T7.cell hgR aR1; clear oo7 gg7) | (at_builtin; refine wpList_append_fits _ rfl (.tmp 147) (.tmp 153) 31 rfl gF 3 i3 1 Trym.underlying31 hi3 hz31 gF (kF + 1) (2 * k) _ rfl (T7.alloc _).oF ⟨w7.heap.size, 0, none⟩ 1 1 [.int .i64 f] rfl rfl (cell_one_new _ _ _) (by simp [Value.oneCell']) (by omega) ?_; intro w8 oo8 gg8; have T8 := (T7.alloc _).appF oo8 gg8; have e80 := T8.cell hgR aR0; have e81 := T8.cell hgR aR1; clear oo8 gg8) | (at_builtin; refine wpList_append_fits _ rfl (.tmp 155) (.tmp 161) 31 rfl gN 3 i3 1 Trym.underlying31 hi3 hz31 gN (kN + 1) (2 * k) _ rfl (T8.alloc _).oN ⟨w8.heap.size, 0, none⟩ 1 1 [.int .i64 q] rfl rfl (cell_one_new _ _ _) (by simp [Value.oneCell']) (by omega) ?_; intro w9 oo9 gg9; have T9 := (T8.alloc _).appN oo9 gg9; have e90 := T9.cell hgR aR0; have e91 := T9.cell hgR aR1; clear oo9 gg9))
              go_roundw
              case rel => exact ⟨i + 1, _, _, _, _, pv, _, _, _, by omega, by go_num, rfl, rfl, rfl, rfl, HS2, HM2, HF2, HN2, T9⟩
              case measure => simp [intOf]; omega
        · obtain rfl : i = k := by omega
          have HSe : Hid (s = Lay.st T rs) := by
            rw [HS.out, List.take_of_length_le (by rw [HM.out]; omega)]; exact rfl
          have HE : Hid (X ++ T.drop fr = Lay.outT T rs) := by have := HMi.out; rw [HSe.out] at this; exact Lay.M_end this
          have HA : Hid (s.A = Lay.outA rs) := by rw [HSe.out]; exact Lay.st_A T rs
          clear HS HMi HSe
          by_cases hfn : fr = n
          · subst hfn
            have eY : T.drop fr = [] := List.drop_of_length_le (by rw [HT.out]; omega)
            rw [eY] at HE
            go_wp2_with (first | (at_builtin; refine wpList_append_fits_any _ rfl (.tmp 163) (.tmp 166) 22 rfl wA.heap.size 5 i5 1 Trym.underlying22 hi5 hz51 wA.heap.size kX (fr + i) _ rfl TT.oX ao 0 0 [] rfl rfl (fun _ => ⟨rfl, rfl⟩) (by simp) (by simp) (by omega) ?_; intro w4 oo4 gg4; have T4 := TT.appX (Y := []) oo4 gg4; simp only [Nat.add_zero] at T4; clear oo4 gg4))
            go_ret3
            exact model_close T4 HE.out HA.out HF.out HN.out (hbA.trans (T4.bel.mono hbA.size))
          · obtain ⟨g, rfl⟩ : ∃ g, ao = some ⟨g, 0, none⟩ := by
              rcases HX.out with ⟨_, h⟩ | h
              · have := HT.out; rw [h] at this; simp at this; omega
              · exact h
            have hlt3 : fr < n := by omega
            have HYl : Hid (((T.drop fr).map (Value.int .u8)).length = (n - fr) * 1) := by rw [List.length_map, List.length_drop, HT.out]; simp [Hid]
            have HNews : Hid (∀ j u, ((T.drop fr).map (Value.int .u8))[j]? = some u → wr.cell? ((⟨g, fr, none⟩ : Addr).add j) = some u) := ((HRA.out.below TT.bel).view fr).cells
            go_wp2_with (first | (at_builtin; refine wpList_append_fits _ rfl (.tmp 163) (.tmp 166) 22 rfl wA.heap.size 5 i5 1 Trym.underlying22 hi5 hz51 wA.heap.size kX (n + i) _ rfl TT.oX ⟨g, fr, none⟩ (n - fr) (n - fr) ((T.drop fr).map (Value.int .u8)) rfl HYl.out HNews.out (ints_oneCell _ _) (by omega) ?_; intro w4 oo4 gg4; have T4 := TT.appX oo4 gg4; clear oo4 gg4))
            go_ret3
            exact model_close T4 HE.out HA.out HF.out HN.out (hbA.trans (T4.bel.mono hbA.size))

end Go.Proofs.Qxb6604100aMods
