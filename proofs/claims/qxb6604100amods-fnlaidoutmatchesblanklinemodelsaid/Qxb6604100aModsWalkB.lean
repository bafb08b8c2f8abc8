/-
  THE LAW FnLaidOutMatchesBlankLineModel: its walk.
-/
import Derived.Test.Qxb6604100aModsModel
namespace Go.Proofs.Qxb6604100aMods
open Go.RowKit

set_option maxRecDepth 100000 in
set_option maxHeartbeats 8000000 in
theorem lawB_main (w : World) (a0 : Option Addr) (n c0 : Nat) (T : List Int) (a1 : Option Addr) (m c1 : Nat) (rs : List (Int × Int)) (hA : Args w a0 n c0 T a1 m c1 rs) (hn : n ≤ 524288) (hm : m ≤ 32768) :
    Calls Trym.prog 5 #[.slice a0 n c0, .slice a1 m c1] w fun e w' => e = .returned (.bool true) ∧ Below w.heap.size w w' := by
  have hd1 : decide ((524288 : Int) < (n : Int)) = false := decide_eq_false (by omega)
  have hd2 : decide ((32768 : Int) < (m : Int)) = false := decide_eq_false (by omega)
  go_enter Trym.func5, Trym.ntmps5
  go_wp2_with (first | (go_at_call 14; refine (zz14_ok _ _ _ _ _ _ hn hm _).mono ?_; rintro e w' ⟨rfl, rfl⟩))
  refine (runsFit_any a1 m c1 rs hA.lenR (by omega) w hA.rowR).mono ?_
  rintro e w' ⟨rfl | ⟨rfl, htt⟩, rfl⟩
  · go_wp2_with fail
    go_ret
    exact ⟨rfl, Below.refl _ _⟩
  have HTT : Hid (tot rs ≤ 1048576) := htt
  clear htt
  go_wp2_with fail
  refine (cloneB_any a0 n c0 T hA.lenT (by omega) hA.nilT w hA.rowT).mono ?_
  rintro e w1 ⟨aT, rfl, htx, hrT1, hb1⟩
  have HtX : Hid (Txt aT T) := htx
  have HT1 : Hid (Row .u8 w1 aT T) := hrT1
  clear htx hrT1
  go_wp2_with fail
  refine (cloneR_any a1 m c1 rs hA.lenR (by omega) hA.nilR w1 (hA.rowR.below hb1)).mono ?_
  rintro e w2 ⟨aR, rfl, hrR2, hb2⟩
  have HR2 : Hid (RowP w2 aR rs) := hrR2
  clear hrR2
  go_wp2_with fail
  refine (split_any aR m m rs hA.lenR (by omega) w2 HR2.out).mono ?_
  rintro e w3 ⟨g1, g2, rfl, hf3, hs3, hb3⟩
  have HF3 : Hid (Row .i64 w3 (some ⟨g1, 0, none⟩) (fsts rs)) := hf3
  have HS3 : Hid (Row .i64 w3 (some ⟨g2, 0, none⟩) (snds rs)) := hs3
  clear hf3 hs3
  go_wp2_with fail
  refine (zzlaid aT n T HtX.out hA.lenT (by omega) hA.bdT g1 g2 m rs hA.lenR (by omega) (fun r hr => (hA.bdR r hr).2.2) w3 ((HT1.out.below hb2).below hb3) HF3.out HS3.out).mono ?_
  rintro e w4 ⟨gl, gF, gN, K, cap, KA, rfl, hK, hKA, hrl, hrF, hrN, hb4⟩
  have HKA : Hid (KA = (Lay.outA rs).length) := hKA
  have HK : Hid (K = (Lay.outT T rs).length) := hK
  have HRl : Hid (Row .u8 w4 (some ⟨gl, 0, none⟩) (Lay.outT T rs)) := hrl
  have HRF : Hid (Row .i64 w4 (some ⟨gF, 0, none⟩) (fsts (Lay.outA rs))) := hrF
  have HRN : Hid (Row .i64 w4 (some ⟨gN, 0, none⟩) (snds (Lay.outA rs))) := hrN
  have HRT : Hid (Row .u8 w4 aT T) := ((HT1.out.below hb2).below hb3).below hb4
  have HRR : Hid (RowP w4 aR rs) := (HR2.out.below hb3).below hb4
  have hAl := Lay.outA_len rs
  rw [← hKA, hA.lenR] at hAl
  have hKl : K ≤ 1048576 := by
    have hf := Lay.st_facts T rs
    have e : (Lay.st T rs).A = Lay.outA rs := Lay.st_A T rs
    rw [e, ← hKA, hA.lenR, hA.lenT] at hf
    rw [hK, Lay.outT, List.length_append, List.length_drop, hA.lenT]
    omega
  have hb04 : Below w.heap.size w w4 := ((hb1.trans (hb2.mono hb1.size)).trans (hb3.mono (Nat.le_trans hb1.size hb2.size))).trans (hb4.mono (Nat.le_trans hb1.size (Nat.le_trans hb2.size hb3.size)))
  clear hKA hK hrl hrF hrN HF3 HS3 HR2 HT1 hb1 hb2 hb3 hb4
  obtain ⟨hAl1, hAl2⟩ := hAl
  go_wp2_with fail
  refine (model_any aT n T HtX.out hA.lenT hn aR m rs hA.lenR hm HTT.out w4 HRT.out HRR.out).mono ?_
  rintro e w5 ⟨gX, gF', gN', K', KF, KN, rfl, hK', hKF, hKN, hrX, hrF', hrN', hb5⟩
  obtain rfl : K' = K := by rw [hK', HK.out]
  obtain rfl : KF = KA := by rw [hKF, HKA.out]
  obtain rfl : KN = KF := by rw [hKN, hKF]
  have HRX : Hid (Row .u8 w5 (some ⟨gX, 0, none⟩) (Lay.outT T rs)) := hrX
  have HRF' : Hid (Row .i64 w5 (some ⟨gF', 0, none⟩) (fsts (Lay.outA rs))) := hrF'
  have HRN' : Hid (Row .i64 w5 (some ⟨gN', 0, none⟩) (snds (Lay.outA rs))) := hrN'
  have QL : Hid (Row .u8 w5 (some ⟨gl, 0, none⟩) (Lay.outT T rs)) := HRl.out.below hb5
  have QF : Hid (Row .i64 w5 (some ⟨gF, 0, none⟩) (fsts (Lay.outA rs))) := HRF.out.below hb5
  have QN : Hid (Row .i64 w5 (some ⟨gN, 0, none⟩) (snds (Lay.outA rs))) := HRN.out.below hb5
  have hb05 : Below w.heap.size w w5 := hb04.trans (hb5.mono hb04.size)
  have HlF : Hid ((fsts (Lay.outA rs)).length = KN) := by rw [HKA.out]; simp [fsts, Hid]
  have HlN : Hid ((snds (Lay.outA rs)).length = KN) := by rw [HKA.out]; simp [snds, Hid]
  clear hK' hKF hKN hrX hrF' hrN' HRl HRF HRN HRT HRR hb5
  go_wp2_with fail
  refine (eqB gl gX K' cap (n + m) (Lay.outT T rs) HK.out.symm (by omega) w5 QL.out HRX.out).mono ?_
  rintro e w6 ⟨rfl, hb6⟩
  have HC7 : Hid (Calls Trym.prog 20 #[.slice (some ⟨gF, 0, none⟩) KN KN, .slice (some ⟨gF', 0, none⟩) KN (2 * m)] w6 fun e w' => e = .returned (.bool true) ∧ Below w6.heap.size w6 w') :=
    eqI gF gF' KN KN (2 * m) _ HlF.out (by omega) w6 (QF.out.below hb6) (HRF'.out.below hb6)
  have hb06 : Below w.heap.size w w6 := hb05.trans (hb6.mono hb05.size)
  go_wp2_with fail
  refine HC7.out.mono ?_
  rintro e w7 ⟨rfl, hb7⟩
  have HC8 : Hid (Calls Trym.prog 20 #[.slice (some ⟨gN, 0, none⟩) KN KN, .slice (some ⟨gN', 0, none⟩) KN (2 * m)] w7 fun e w' => e = .returned (.bool true) ∧ Below w7.heap.size w7 w') :=
    eqI gN gN' KN KN (2 * m) _ HlN.out (by omega) w7 ((QN.out.below hb6).below hb7) ((HRN'.out.below hb6).below hb7)
  have hb07 : Below w.heap.size w w7 := hb06.trans (hb7.mono hb06.size)
  go_wp2_with fail
  refine HC8.out.mono ?_
  rintro e w8 ⟨rfl, hb8⟩
  go_wp2_with fail
  go_ret
  exact ⟨rfl, hb07.trans (hb8.mono hb07.size)⟩

set_option maxRecDepth 100000 in
set_option maxHeartbeats 4000000 in
theorem lawB (w : World) (a0 : Option Addr) (n c0 : Nat) (T : List Int) (a1 : Option Addr) (m c1 : Nat) (rs : List (Int × Int)) (hA : Args w a0 n c0 T a1 m c1 rs) :
    Calls Trym.prog 5 #[.slice a0 n c0, .slice a1 m c1] w fun e w' => e = .returned (.bool true) ∧ Below w.heap.size w w' := by
  by_cases hn : n ≤ 524288
  · by_cases hm : m ≤ 32768
    · exact lawB_main w a0 n c0 T a1 m c1 rs hA hn hm
    · clear hA
      go_enter Trym.func5, Trym.ntmps5
      go_wp2_with fail
      refine (zz14 _ _ _ _ _ _ _).mono ?_
      rintro e w' ⟨b, rfl, rfl⟩
      cases b
      all_goals
        go_wp2_with fail
        go_ret
        exact ⟨rfl, Below.refl _ _⟩
  · clear hA
    go_enter Trym.func5, Trym.ntmps5
    go_wp2_with fail
    refine (zz14 _ _ _ _ _ _ _).mono ?_
    rintro e w' ⟨b, rfl, rfl⟩
    cases b
    all_goals
      go_wp2_with fail
      go_ret
      exact ⟨rfl, Below.refl _ _⟩

end Go.Proofs.Qxb6604100aMods
