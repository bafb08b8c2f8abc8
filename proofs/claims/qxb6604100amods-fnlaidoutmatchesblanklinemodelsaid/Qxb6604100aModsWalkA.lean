/-
  THE LAW FnLaidOutOnlyAddsNeededBlankLines: its walk.
-/
import Derived.Test.Qxb6604100aModsFront
import Derived.Deep.QuietTactic
import Derived.BigQuiet
namespace Go.Proofs.Qxb6604100aMods
open Go.RowKit

theorem row_at {k : IntKind} {w : World} {g : Nat} {l : List Int} (h : Row k w (some ⟨g, 0, none⟩) l) (i : Nat) (hi : i < l.length) : w.cell? ⟨g, i, none⟩ = some (.int k l[i]) ∧ g < w.heap.size := by
  obtain ⟨g', o', e, hg, hc⟩ := h i hi
  simp only [Option.some.injEq, Addr.mk.injEq, and_true] at e
  obtain ⟨rfl, rfl⟩ := e
  rw [Nat.zero_add] at hc
  exact ⟨hc, hg⟩

set_option maxRecDepth 100000 in
set_option maxHeartbeats 8000000 in
theorem lawA_main (w : World) (a0 : Option Addr) (n c0 : Nat) (T : List Int) (a1 : Option Addr) (m c1 : Nat) (rs : List (Int × Int)) (hA : Args w a0 n c0 T a1 m c1 rs) (hn : n ≤ 524288) (hm : m ≤ 32768) :
    Calls Trym.prog 6 #[.slice a0 n c0, .slice a1 m c1] w fun e w' => e = .returned (.bool true) ∧ Below w.heap.size w w' := by
  have hd1 : decide ((524288 : Int) < (n : Int)) = false := decide_eq_false (by omega)
  have hd2 : decide ((32768 : Int) < (m : Int)) = false := decide_eq_false (by omega)
  go_enter Trym.func6, Trym.ntmps6
  go_wp2_with (first | (go_at_call 21; refine (zz21_ok _ _ _ _ _ _ hn hm _).mono ?_; rintro e w' ⟨rfl, rfl⟩))
  refine (runsFit_any a1 m c1 rs hA.lenR (by omega) w hA.rowR).mono ?_
  rintro e w' ⟨rfl | ⟨rfl, _⟩, rfl⟩
  · go_wp2_with fail
    go_ret
    exact ⟨rfl, Below.refl _ _⟩
  go_wp2_with fail
  refine (cloneB_any a0 n c0 T hA.lenT (by omega) hA.nilT w hA.rowT).mono ?_
  rintro e w1 ⟨aT, rfl, htx, hrT1, hb1⟩
  have HtX : Hid (Txt aT T) := htx
  have HT1 : Hid (Row .u8 w1 aT T) := hrT1
  clear htx hrT1
  go_wp2_with fail
  refine (cloneR_any a1 m c1 rs hA.lenR (by omega) hA.nilR w1 (hA.rowR.below hb1)).mono ?_
  rintro e w2 ⟨aR, rfl, hrR2, hb2⟩
  have HR2 : Hid (RowP w2 aR rs) := hrR2
  clear hrR2
  go_wp2_with fail
  refine (split_any aR m m rs hA.lenR (by omega) w2 HR2.out).mono ?_
  rintro e w3 ⟨g1, g2, rfl, hf3, hs3, hb3⟩
  have HF3 : Hid (Row .i64 w3 (some ⟨g1, 0, none⟩) (fsts rs)) := hf3
  have HS3 : Hid (Row .i64 w3 (some ⟨g2, 0, none⟩) (snds rs)) := hs3
  clear hf3 hs3
  go_wp2_with fail
  refine (zzlaid aT n T HtX.out hA.lenT (by omega) hA.bdT g1 g2 m rs hA.lenR (by omega) (fun r hr => (hA.bdR r hr).2.2) w3 ((HT1.out.below hb2).below hb3) HF3.out HS3.out).mono ?_
  rintro e w4 ⟨gl, gF, gN, K, cap, KA, rfl, hK, hKA, hrl, hrF, hrN, hb4⟩
  have HKA : Hid (KA = (Lay.outA rs).length) := hKA
  have HK : Hid (K = (Lay.outT T rs).length) := hK
  have HRl : Hid (Row .u8 w4 (some ⟨gl, 0, none⟩) (Lay.outT T rs)) := hrl
  have HRF : Hid (Row .i64 w4 (some ⟨gF, 0, none⟩) (fsts (Lay.outA rs))) := hrF
  have HRN : Hid (Row .i64 w4 (some ⟨gN, 0, none⟩) (snds (Lay.outA rs))) := hrN
  have HRT : Hid (Row .u8 w4 aT T) := ((HT1.out.below hb2).below hb3).below hb4
  have HRR : Hid (RowP w4 aR rs) := (HR2.out.below hb3).below hb4
  have hAl := Lay.outA_len rs
  rw [← hKA, hA.lenR] at hAl
  have hb04 : Below w.heap.size w w4 := ((hb1.trans (hb2.mono hb1.size)).trans (hb3.mono (Nat.le_trans hb1.size hb2.size))).trans (hb4.mono (Nat.le_trans hb1.size (Nat.le_trans hb2.size hb3.size)))
  clear hKA hK hrl hrF hrN HF3 HS3 HR2 HT1 hb1 hb2 hb3 hb4
  obtain ⟨hAl1, hAl2⟩ := hAl
  have hq : ((KA : Int) != (KA : Int)) = false := by simp
  have hq2 : ¬ (KA : Int) - (m : Int) < 0 := by omega
  have hq3 : ¬ (m : Int) < (KA : Int) - (m : Int) := by omega
  go_wp2_with fail
  go_loopw [11, 12] (fun jj ii wr => ∃ (i j : Nat), i ≤ m ∧ ii = .int .i64 i ∧ jj = .int .i64 j ∧ j ≤ KA ∧ Hid (Lay.J (Lay.outA rs) rs i j) ∧ Below w4.heap.size w4 wr) (fun _ ii _ => m - (intOf ii).toNat)
  case atStart => exact ⟨0, 0, Nat.zero_le _, rfl, rfl, Nat.zero_le _, Lay.J_start rs, Below.refl _ _⟩
  case round =>
    obtain ⟨i, j, hi, rfl, rfl, hj, HJ, hbel⟩ := hrel
    by_cases hlt : i < m
    · have hli : i < rs.length := by rw [hA.lenR]; exact hlt
      have hRR := HRR.out.below hbel
      have hRF := HRF.out.below hbel
      have hRN := HRN.out.below hbel
      obtain ⟨gR, oR, rfl, hgR, cR0, cR1⟩ := hRR i hli
      have hbdi := hA.bdR rs[i] (List.getElem_mem hli)
      by_cases hi0 : i = 0
      · subst hi0
        have hj0 : j = 0 := HJ.out.2.2.2.1 rfl
        subst hj0
        simp only [Nat.zero_mul, Nat.add_zero] at cR0 cR1
        by_cases hfo : rs[0].1 = Lay.nxt rs 0
        · obtain ⟨hjA, eA, HJ2⟩ := Lay.J_follow hli hfo HJ.out
          have hj1 : 0 < KA := by rw [HKA.out]; exact hjA
          have cF := (row_at hRF 0 (by simpa [fsts] using hjA)).1
          have cN := (row_at hRN 0 (by simpa [snds] using hjA)).1
          simp only [fsts, snds, List.getElem_map, eA] at cF cN
          have e1 : rs[0].1 = 1 := hfo
          have hfo' : (rs[0].1 == 1) = true := by simpa using e1
          have hfo'' : (rs[0].1 != 1) = false := by simp [e1]
          have HJ3 : Hid (Lay.J (Lay.outA rs) rs 1 1) := HJ2
          generalize rs[0].1 = f at *
          generalize rs[0].2 = q at *
          clear hRR hRF hRN hjA eA HJ2 hfo HJ e1 hli hbdi
          have cF' := fun o => cell_keep wr o cF
          have cN' := fun o => cell_keep wr o cN
          have hff : (f != f) = false := by simp
          have hqq : (q != q) = false := by simp
          have hKI : (0 : Int) < (KA : Int) := by omega
          go_wp2_with fail
          go_quiet (fail)
          go_wp2_with fail
          go_roundw
          case rel => exact ⟨1, 1, by omega, by go_num, by go_num, by omega, HJ3, below_drewN (hbel.alloc hbel.size _) _⟩
          case measure => simp [intOf]; omega
        · obtain ⟨hjA, eA, eB, HJ2⟩ := Lay.J_blank hli hfo HJ.out
          have hj1 : 1 < KA := by rw [HKA.out]; exact hjA
          have cF := (row_at hRF 0 (by simp [fsts]; omega)).1
          have cN := (row_at hRN 0 (by simp [snds]; omega)).1
          have cF1 := (row_at hRF 1 (by simp [fsts]; omega)).1
          have cN1 := (row_at hRN 1 (by simp [snds]; omega)).1
          simp only [fsts, snds, List.getElem_map, eA] at cF cN
          simp only [Nat.zero_add] at eB
          simp only [fsts, snds, List.getElem_map, eB] at cF1 cN1
          have hfo' : (rs[0].1 == 1) = false := by simpa [Lay.nxt] using hfo
          have hw1 : (wrap64 (rs[0].1 - 1) != rs[0].1) = true := by simpa using Lay.wrap_ne
          have hw2 : (wrap64 (wrap64 (rs[0].1 - 1) + 1) != rs[0].1) = false := by rw [Lay.wrap_back hbdi.1.1 hbdi.1.2]; simp
          have hw3 : (wrap64 (rs[0].1 - 1) != wrap64 (rs[0].1 - 1)) = false := by simp
          have HJ3 : Hid (Lay.J (Lay.outA rs) rs 1 2) := HJ2
          generalize rs[0].1 = f at *
          generalize rs[0].2 = q at *
          clear hRR hRF hRN hjA eA eB HJ2 hfo HJ hli hbdi
          have cF' := fun o => cell_keep wr o cF
          have cN' := fun o => cell_keep wr o cN
          have cF1' := fun o => cell_keep wr o cF1
          have cN1' := fun o => cell_keep wr o cN1
          have hff : (f != f) = false := by simp
          have hqq : (q != q) = false := by simp
          have hKI : (0 : Int) < (KA : Int) := by omega
          have hKI1 : (1 : Int) < (KA : Int) := by omega
          have hKI2 : decide ((KA : Int) ≤ 1) = false := decide_eq_false (by omega)
          go_wp2_with fail
          go_quiet (fail)
          go_wp2_with fail
          go_quiet (fail)
          go_wp2_with fail
          go_quiet (fail)
          go_wp2_with fail
          go_quiet (fail)
          go_wp2_with fail
          go_roundw
          case rel => exact ⟨1, 2, by omega, by go_num, by go_num, by omega, HJ3, below_drewN (hbel.alloc hbel.size _) _⟩
          case measure => simp [intOf]; omega
      · obtain ⟨p, rfl⟩ : ∃ p, i = p + 1 := ⟨i - 1, by omega⟩
        clear hi0
        have hlp : p < rs.length := by omega
        obtain ⟨gR', oR', eR', _, cP0, cP1⟩ := hRR p hlp
        simp only [Option.some.injEq, Addr.mk.injEq, and_true] at eR'
        obtain ⟨rfl, rfl⟩ := eR'
        obtain ⟨hjp, eprev⟩ := HJ.out.2.2.2.2 (by omega)
        obtain ⟨t, rfl⟩ : ∃ t, j = t + 1 := ⟨j - 1, by omega⟩
        have hnx : Lay.nxt rs (p + 1) = wrap64 (rs[p].1 + rs[p].2) := Lay.nxt_succ rs p hlp
        have cP0' := fun o => cell_keep wr o cP0
        have cP1' := fun o => cell_keep wr o cP1
        have hpI : (p : Int) < (m : Int) := by omega
        have hpI0 : (0 : Int) ≤ (p : Int) := by omega
        have hp0 : ((p : Int) + 1 == 0) = false := by rw [beq_eq_false_iff_ne]; omega
        have ht0 : ((t : Int) + 1 == 0) = false := by rw [beq_eq_false_iff_ne]; omega
        by_cases hfo : rs[p + 1].1 = Lay.nxt rs (p + 1)
        · obtain ⟨hjA, eA, HJ2⟩ := Lay.J_follow hli hfo HJ.out
          have hj1 : t + 1 < KA := by rw [HKA.out]; exact hjA
          have hA0 : (Lay.outA rs)[t]'(by omega) = rs[p] := by
            simp only [Nat.add_sub_cancel, List.getD, List.getElem?_eq_getElem (show t < (Lay.outA rs).length by omega), List.getElem?_eq_getElem hlp, Option.getD_some] at eprev
            exact eprev
          have cF := (row_at hRF (t + 1) (by simpa [fsts] using hjA)).1
          have cN := (row_at hRN (t + 1) (by simpa [snds] using hjA)).1
          have cF0 := (row_at hRF t (by simp [fsts]; omega)).1
          have cN0 := (row_at hRN t (by simp [snds]; omega)).1
          simp only [fsts, snds, List.getElem_map, eA] at cF cN
          simp only [fsts, snds, List.getElem_map, hA0] at cF0 cN0
          have e1 : rs[p + 1].1 = wrap64 (rs[p].1 + rs[p].2) := hfo.trans hnx
          have hfo' : (rs[p + 1].1 == wrap64 (rs[p].1 + rs[p].2)) = true := by simpa using e1
          have hfo2 : (wrap64 (rs[p].1 + rs[p].2) != rs[p + 1].1) = false := by simp [e1]
          have HJ3 : Hid (Lay.J (Lay.outA rs) rs (p + 1 + 1) (t + 1 + 1)) := HJ2
          generalize rs[p + 1].1 = f at *
          generalize rs[p + 1].2 = q at *
          generalize rs[p].1 = f0 at *
          generalize rs[p].2 = q0 at *
          clear hRR hRF hRN hjA eA HJ2 hfo HJ hli hbdi eprev hA0 hnx e1 hlp hjp
          have cF' := fun o => cell_keep wr o cF
          have cN' := fun o => cell_keep wr o cN
          have cF0' := fun o => cell_keep wr o cF0
          have cN0' := fun o => cell_keep wr o cN0
          have hff : (f != f) = false := by simp
          have hqq : (q != q) = false := by simp
          have hKI : (t : Int) + 1 < (KA : Int) := by omega
          have hKI0 : (t : Int) < (KA : Int) := by omega
          have hKI1 : (0 : Int) ≤ (t : Int) := by omega
          have hKI2 : (0 : Int) ≤ (t : Int) + 1 := by omega
          go_wp2_with fail
          go_quiet (fail)
          go_wp2_with fail
          go_quiet (fail)
          go_wp2_with fail
          go_quiet (fail)
          go_wp2_with fail
          go_roundw
          case rel => exact ⟨p + 1 + 1, t + 1 + 1, by omega, by go_num, by go_num, by omega, HJ3, below_drewN (hbel.alloc hbel.size _) _⟩
          case measure => simp [intOf]; omega
        · obtain ⟨hjA, eA, eB, HJ2⟩ := Lay.J_blank hli hfo HJ.out
          have hj1 : t + 2 < KA := by rw [HKA.out]; exact hjA
          have cF := (row_at hRF (t + 1) (by simp [fsts]; omega)).1
          have cN := (row_at hRN (t + 1) (by simp [snds]; omega)).1
          have cF1 := (row_at hRF (t + 2) (by simp [fsts]; omega)).1
          have cN1 := (row_at hRN (t + 2) (by simp [snds]; omega)).1
          simp only [fsts, snds, List.getElem_map, eA] at cF cN
          have eB' : (Lay.outA rs)[t + 2]'(by omega) = rs[p + 1] := eB
          simp only [fsts, snds, List.getElem_map, eB'] at cF1 cN1
          have hfo' : (rs[p + 1].1 == wrap64 (rs[p].1 + rs[p].2)) = false := by rw [← hnx]; simpa using hfo
          have hw1 : (wrap64 (rs[p + 1].1 - 1) != rs[p + 1].1) = true := by simpa using Lay.wrap_ne
          have hw2 : (wrap64 (wrap64 (rs[p + 1].1 - 1) + 1) != rs[p + 1].1) = false := by rw [Lay.wrap_back hbdi.1.1 hbdi.1.2]; simp
          have hw3 : (wrap64 (rs[p + 1].1 - 1) != wrap64 (rs[p + 1].1 - 1)) = false := by simp
          have HJ3 : Hid (Lay.J (Lay.outA rs) rs (p + 1 + 1) (t + 1 + 2)) := HJ2
          generalize rs[p + 1].1 = f at *
          generalize rs[p + 1].2 = q at *
          generalize rs[p].1 = f0 at *
          generalize rs[p].2 = q0 at *
          clear hRR hRF hRN hjA eA eB eB' HJ2 hfo HJ hli hbdi eprev hnx hlp hjp
          have cF' := fun o => cell_keep wr o cF
          have cN' := fun o => cell_keep wr o cN
          have cF1' := fun o => cell_keep wr o cF1
          have cN1' := fun o => cell_keep wr o cN1
          have hff : (f != f) = false := by simp
          have hqq : (q != q) = false := by simp
          have hKI : (t : Int) + 1 < (KA : Int) := by omega
          have hKI0 : (t : Int) + 1 + 1 < (KA : Int) := by omega
          have hKI1 : (0 : Int) ≤ (t : Int) + 1 := by omega
          have hKI2 : (0 : Int) ≤ (t : Int) + 1 + 1 := by omega
          have hKI3 : decide ((KA : Int) ≤ (t : Int) + 1 + 1) = false := decide_eq_false (by omega)
          have htN : ((t : Int) + 1 + 1).toNat = t + 2 := by omega
          have ht1 : ((t : Int) + 1 + 1 == 0) = false := by rw [beq_eq_false_iff_ne]; omega
          go_wp2_with fail
          go_quiet (fail)
          go_wp2_with fail
          go_quiet (fail)
          go_wp2_with fail
          go_quiet (fail)
          go_wp2_with fail
          go_quiet (fail)
          go_wp2_with fail
          go_quiet (fail)
          go_wp2_with fail
          go_roundw
          case rel => exact ⟨p + 1 + 1, t + 1 + 2, by omega, by go_num, by go_num, by omega, HJ3, below_drewN (hbel.alloc hbel.size _) _⟩
          case measure => simp [intOf]; omega
    · obtain rfl : i = m := by omega
      have hjE : j = KA := by rw [HKA.out]; exact Lay.J_end (by rw [hA.lenR]; omega) HJ.out
      subst hjE
      have hne : ((j : Int) != (j : Int)) = false := by simp
      have HG : Hid (Lay.G (Lay.outT T rs) T 0 0 0 (j - i)) := by
        have := Lay.G_start (Lay.out_Ins T rs)
        rw [← HKA.out, hA.lenR] at this
        exact this
      have HRl' : Hid (Row .u8 wr (some ⟨gl, 0, none⟩) (Lay.outT T rs)) := HRl.out.below hbel
      have HRT' : Hid (Row .u8 wr aT T) := HRT.out.below hbel
      have hbw : Below w.heap.size w wr := hb04.trans (hbel.mono hb04.size)
      have hKb : Hid (T.length = n) := hA.lenT
      clear HJ HRF HRN HRR HRl HRT
      have hKl : K + i = n + j := by
        have hf := Lay.st_facts T rs
        have e : (Lay.st T rs).A = Lay.outA rs := Lay.st_A T rs
        rw [e, ← HKA.out, hA.lenR, hA.lenT] at hf
        rw [HK.out, Lay.outT, List.length_append, List.length_drop, hA.lenT]
        omega
      have HKl : Hid (K + i = n + j) := hKl
      have hKm : K ≤ 1048576 := by omega
      clear hKl
      go_wp2_with fail
      go_loop [15, 16, 17] (fun kk ex ii => ∃ (a b x : Nat), a ≤ K ∧ ii = .int .i64 a ∧ kk = .int .i64 b ∧ ex = .int .i64 x ∧ b ≤ n ∧ x ≤ 2097152 ∧ Hid (Lay.G (Lay.outT T rs) T a b x (j - i))) (fun _ _ ii => K - (intOf ii).toNat)
      case atStart => exact ⟨0, 0, 0, Nat.zero_le _, rfl, rfl, rfl, Nat.zero_le _, by omega, HG⟩
      case round =>
        obtain ⟨a, b, x, ha, rfl, rfl, rfl, hb, hx, HGr⟩ := hrel
        clear HG
        by_cases hlt2 : a < K
        · have hao : a < (Lay.outT T rs).length := by rw [← HK.out]; exact hlt2
          have cO := (row_at HRl'.out a hao).1
          by_cases hbn : b < n
          · have hbT : b < T.length := by rw [hKb.out]; exact hbn
            obtain ⟨gT, oT, rfl, _, cT⟩ := HRT'.out b hbT
            by_cases hc : (Lay.outT T rs)[a] = T[b]
            · have HG2 : Hid (Lay.G (Lay.outT T rs) T (a + 1) (b + 1) x (j - i)) := Lay.G_match hao hbT hc HGr.out
              have hc' : ((Lay.outT T rs)[a] == T[b]) = true := by simpa using hc
              generalize (Lay.outT T rs)[a] = c at cO hc'
              generalize T[b] = d at cT hc'
              clear HGr hc hao hbT
              go_wp2_with fail
              go_round
              case rel => exact ⟨a + 1, b + 1, x, by omega, by go_num, by go_num, rfl, by omega, hx, HG2⟩
              case measure => simp [intOf]; omega
            · obtain ⟨h10, hG2⟩ := Lay.G_extra hao (fun _ => hc) HGr.out
              have HG2 : Hid (Lay.G (Lay.outT T rs) T (a + 1) b (x + 1) (j - i)) := hG2
              have hxb := (Lay.G_bd hG2).2
              rw [hA.lenT] at hxb
              have hc' : ((Lay.outT T rs)[a] == T[b]) = false := by simpa using hc
              have h10' : ((Lay.outT T rs)[a] == 10) = true := by simpa using h10
              generalize (Lay.outT T rs)[a] = c at cO hc' h10'
              generalize T[b] = d at cT hc'
              clear HGr hc hao hbT h10 hG2
              go_wp2_with fail
              go_round
              case rel => exact ⟨a + 1, b, x + 1, by omega, by go_num, rfl, by go_num, by omega, by omega, HG2⟩
              case measure => simp [intOf]; omega
          · obtain ⟨h10, hG2⟩ := Lay.G_extra hao (fun h => absurd h (by rw [hKb.out]; omega)) HGr.out
            have HG2 : Hid (Lay.G (Lay.outT T rs) T (a + 1) b (x + 1) (j - i)) := hG2
            have hxb := (Lay.G_bd hG2).2
            rw [hA.lenT] at hxb
            have h10' : ((Lay.outT T rs)[a] == 10) = true := by simpa using h10
            generalize (Lay.outT T rs)[a] = c at cO h10'
            clear HGr hao h10 hG2
            go_wp2_with fail
            go_round
            case rel => exact ⟨a + 1, b, x + 1, by omega, by go_num, rfl, by go_num, by omega, by omega, HG2⟩
            case measure => simp [intOf]; omega
        · obtain ⟨e1, e2⟩ := Lay.G_end (by rw [← HK.out]; omega) HGr.out
          rw [hA.lenT] at e1
          have q1 : ((b : Int) == (n : Int)) = true := by rw [beq_iff_eq]; omega
          have q2 : ((x : Int) == (j : Int) - (i : Int)) = true := by rw [beq_iff_eq]; omega
          clear HGr e1 e2
          go_wp2_with fail
          go_ret
          exact ⟨rfl, hbw⟩

end Go.Proofs.Qxb6604100aMods
