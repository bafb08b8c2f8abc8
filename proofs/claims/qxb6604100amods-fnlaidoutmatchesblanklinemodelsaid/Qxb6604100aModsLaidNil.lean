/-
  laidOut of a nil text.
-/
import Derived.Test.Qxb6604100aModsLaid
namespace Go.Proofs.Qxb6604100aMods
open Go.RowKit

set_option maxHeartbeats 8000000 in
theorem laid_nil (ga m : Nat) (rs : List (Int × Int)) (hm : rs.length = m) (hmn : m ≤ 1048576) (hk : ∀ r ∈ rs, r.2 ≤ 9223372036854775807) (w : World)
    (hp : RowP w (some ⟨ga, 0, none⟩) rs) :
    Calls Trym.prog 26 #[.agg #[.slice none 0 0, .slice (some ⟨ga, 0, none⟩) m m]] w fun e w' => ∃ (gl gA K cap KA capA : Nat), e = .returned (.agg #[.slice (some ⟨gl, 0, none⟩) K cap, .slice (some ⟨gA, 0, none⟩) KA capA]) ∧
      K = (Lay.outT [] rs).length ∧ KA = (Lay.outA rs).length ∧ Row .u8 w' (some ⟨gl, 0, none⟩) (Lay.outT [] rs) ∧ RowP w' (some ⟨gA, 0, none⟩) (Lay.outA rs) ∧ Below w.heap.size w w' := by
  obtain ⟨i5, hi5, hz50, hz51, hz52⟩ := info_parts Trym.info5
  obtain ⟨i6, hi6, hz60, hz61, hz62⟩ := info_parts Trym.info46
  have HP : Hid (RowP w (some ⟨ga, 0, none⟩) rs) := hp
  have HM : Hid (rs.length = m) := hm
  have HK : Hid (∀ r ∈ rs, r.2 ≤ 9223372036854775807) := hk
  clear hp hm hk
  go_enter Trym.func26, Trym.ntmps26
  go_wp2_with (first | (at_make; refine wpList_make_own _ rfl (.const (.int .i64 0)) (.tmp 18) 22 rfl (w.heap.size + 2) 5 i5 (.int .u8 0) 1 Trym.underlying22 hi5 hz50 hz51 _ _ _ m rfl rfl (by omega) (by rw [hz52]; omega) (by unfold maxLen; omega) (by simp) ?_; intro w1 hown1 hgrow1; have cb1 : w1.cell? ⟨w.heap.size, 1, none⟩ = some (.slice (some ⟨ga, 0, none⟩) m m) := hgrow1.cell (cell_of_row _ _ _ _ _ _ (boxes_at w _ _)) (by simp)) | (at_make; refine wpList_make_own _ rfl (.const (.int .i64 0)) (.tmp 22) 44 rfl (w.heap.size + 2) 46 i6 (.agg #[.int .i64 0, .int .i64 0]) 2 Trym.underlying44 hi6 hz60 hz61 _ _ _ m rfl rfl rfl (by rw [hz62]; omega) (by unfold maxLen; omega) (by have := hgrow1.size; simp at this ⊢; omega) ?_; intro w2 hown2 hgrow2; have cb2 : w2.cell? ⟨w.heap.size, 1, none⟩ = some (.slice (some ⟨ga, 0, none⟩) m m) := hgrow2.cell cb1 (by simp)))
  have hBo : Hid (boxes w (.slice none 0 0) (.slice (some ⟨ga, 0, none⟩) m m) = (w.alloc (.cells #[.slice none 0 0, .slice (some ⟨ga, 0, none⟩) m m] 48)).alloc (.cells #[.slice none 0 0, .slice none 0 0] 48)) := (by rfl : _ = _)
  rw [← hBo.out] at hgrow1 hown1
  have hsz0 := boxes_size w (.slice none 0 0) (.slice (some ⟨ga, 0, none⟩) m m)
  rw [hsz0] at hown1
  have hlt1 : w.heap.size + 2 < w1.heap.size := (hown1.lt _ rfl).2
  have hL2 : w2.ownsRow (w.heap.size + 2) 5 1 (.slice (some ⟨w.heap.size + 1 + 1, 0, none⟩) 0 m) 0 (List.map (Value.int .u8) []) := hown1.kept hgrow2 (.inr (by simp [Value.ownBlock]))
  have hB2 : Below (w.heap.size + 2) (boxes w (.slice none 0 0) (.slice (some ⟨ga, 0, none⟩) m m)) w2 := ((Below.refl _ _).grown hgrow1 (by omega) (by simp)).grown hgrow2 (by omega) (by simp)
  have hne2 : (Value.slice (some ⟨w1.heap.size, 0, none⟩) 0 m).ownBlock ≠ some (w.heap.size + 1 + 1) := by simp [Value.ownBlock]; omega
  have hA2 : w2.ownsRow (w.heap.size + 2) 46 2 (.slice (some ⟨w1.heap.size, 0, none⟩) 0 m) 0 (cells2 []) := hown2
  clear hown1 hgrow1 hgrow2 hown2 hlt1 cb1 cb2 hBo hsz0
  go_loopw [3, 4, 5, 6, 27] (fun tx ld at' nx ii wr => ∃ (i : Nat) (s : Lay.S), i ≤ m ∧ ii = .int .i64 i ∧ Hid (s = Lay.st [] (rs.take i)) ∧ tx = .slice none 0 0 ∧ s.pos ≤ 0 ∧
      ld = .slice (some ⟨w.heap.size + 1 + 1, 0, none⟩) s.L.length m ∧ s.L.length ≤ i ∧ nx = .int .i64 s.nx ∧ s.A.length ≤ 2 * i ∧
      wr.ownsRow (w.heap.size + 2) 5 1 (.slice (some ⟨w.heap.size + 1 + 1, 0, none⟩) s.L.length m) s.L.length (s.L.map (Value.int .u8)) ∧ wr.ownsRow (w.heap.size + 2) 46 2 at' s.A.length (cells2 s.A) ∧
      at'.ownBlock ≠ some (w.heap.size + 1 + 1) ∧ at' ≠ .slice none 0 0 ∧ Below (w.heap.size + 2) (boxes w (.slice none 0 0) (.slice (some ⟨ga, 0, none⟩) m m)) wr)
    (fun _ _ _ _ ii _ => m - (intOf ii).toNat)
  case atStart => exact ⟨0, Lay.s0, Nat.zero_le _, rfl, (by rfl : _ = _), rfl, by simp [Lay.s0], rfl, by simp [Lay.s0], rfl, by simp [Lay.s0], hL2, hA2, hne2, by simp, hB2⟩
  case round =>
    obtain ⟨i, s, hi, rfl, HS, rfl, hp0, rfl, hLl, rfl, hAl, hoL, hoA, hne, hnn, hbel⟩ := hrel
    clear hL2 hA2 hne2 hB2
    have hR : w.heap.size + 2 < wr.heap.size := (hoL.lt _ rfl).2
    have hbw : Below w.heap.size w wr := (boxes_below w _ _).trans (hbel.mono (by omega))
    have hRA : some wr.heap.size ≠ u5.ownBlock := fun e => by have := (hoA.lt _ e.symm).2; omega
    by_cases hlt : i < m
    · have hli : i < rs.length := by rw [HM.out]; exact hlt
      obtain ⟨g', o', eg, hg', hc0, hc1⟩ := (HP.out.below hbw) i hli
      simp only [Option.some.injEq, Addr.mk.injEq, and_true] at eg
      obtain ⟨rfl, rfl⟩ := eg
      have HN : Hid (Lay.st [] (rs.take (i + 1)) = Lay.adv [] s rs[i]) := by
        rw [List.take_succ_eq_append_getElem hli, Lay.st_snoc, ← HS.out]; exact rfl
      obtain ⟨⟨f, k⟩, hrk⟩ : ∃ r, r = rs[i] := ⟨_, rfl⟩
      have hk9 : k ≤ 9223372036854775807 := by have := HK.out rs[i] (List.getElem_mem hli); rw [← hrk] at this; exact this
      rw [← hrk] at hc0 hc1 HN
      simp only [Nat.zero_add] at hc0 hc1
      clear hrk hli hg'
      by_cases hf : f = s.nx
      · have hf' : (f != s.nx) = false := by simp [hf]
        have Hf : Hid (f = s.nx) := hf
        clear hf
        have H := half_eq (f := f) (k := k) hR hoL hoA hne hnn hbel
        go_wp2_with fail
        generalize wr.alloc (Obj.cells #[Value.int IntKind.i64 f, Value.int IntKind.i64 k] 46) = w4 at H ⊢
        have rB0 := H.r0
        have rB1 := H.r1
        clear hoL hoA hne hnn hRA hc0 hc1
        have hsz4 := H.sz
        generalize wr.heap.size = R at *
        go_loopw [9, 47] (fun en cn wq => wq = w4 ∧ ∃ (j : Nat), en = .int .i64 0 ∧ cn = .int .i64 j ∧ ((j : Int) ≤ k ∨ j = 0)) (fun _ cn _ => (k - intOf cn).toNat)
        case atStart => exact ⟨rfl, 0, rfl, rfl, .inr rfl⟩
        case round =>
          obtain ⟨hwq, j, rfl, rfl, hjk⟩ := hrel
          have hwq' := hwq.symm
          subst hwq'
          clear hwq
          by_cases hj : (j : Int) < k
          · have hj9 : (j : Int) < 9223372036854775807 := by omega
            go_wp2_with (go_at_call 29; refine (idxB_nil _).mono ?_; rintro e' w' ⟨rfl, rfl⟩)
            go_roundw
            case rel => exact ⟨trivial, j + 1, rfl, by go_num, .inl (by omega)⟩
            case measure => simp [intOf]; omega
          · have hbR := H.bR
            go_wp2_with (first | (at_builtin; refine wpList_append_fits_any _ rfl (.tmp 62) (.tmp 65) 22 rfl (w.heap.size + 2) 5 i5 1 Trym.underlying22 hi5 hz51 (w.heap.size + 1 + 1) s.L.length m _ rfl H.hL none 0 0 [] rfl rfl (fun _ => ⟨rfl, rfl⟩) (by simp) (by simp) (by omega) ?_; intro w5 hL5 hg5; have rC0 : w5.cell? ⟨R, 0, none⟩ = some (.int .i64 f) := hg5.cell rB0 (by simp; omega); have rC1 : w5.cell? ⟨R, 1, none⟩ = some (.int .i64 k) := hg5.cell rB1 (by simp; omega); have hA5 := H.hA.kept hg5 (.inr H.ne)) | (at_builtin; refine wpList_append_own_at _ rfl (.tmp 70) (.tmp 72) 44 rfl (w.heap.size + 2) 46 i6 (.agg #[.int .i64 0, .int .i64 0]) 2 16 Trym.underlying44 hi6 hz60 hz61 hz62 rfl (by decide) _ s.A.length _ rfl (hA5.alloc _) ⟨w5.heap.size, 0, none⟩ 1 1 [.int .i64 f, .int .i64 k] rfl rfl (World.news_of_block (cs := #[.int .i64 f, .int .i64 k]) (heap_alloc_new _ _)) (by simp [Value.oneCell']) (by unfold maxLen; omega) (by omega) (by have := hg5.size; simp at this ⊢; omega) ?_; intro v6 w6 hA6 hg6 hnil6 hat6; have rD0 : w6.cell? ⟨R, 0, none⟩ = some (.int .i64 f) := hg6.cell (cell_keep _ _ rC0) H.rA; have rD1 : w6.cell? ⟨R, 1, none⟩ = some (.int .i64 k) := hg6.cell (cell_keep _ _ rC1) H.rA))
            simp only [Nat.add_zero, List.append_nil] at hL5
            obtain ⟨z1, z2, z3, z4, z5⟩ := half_end (X := []) (e := 0) H rfl rfl rfl (by simpa using hL5) hg5 hA6 hg6 hnil6 hat6
            have HF : Hid (Lay.adv [] s (f, k) = Lay.st [] (rs.take (i + 1))) := by rw [HN.out]; exact rfl
            have eL : (Lay.adv [] s (f, k)).L = s.L ++ [] := by simp only [Lay.adv, List.drop_nil, List.take_nil]; rw [if_pos Hf.out]
            have eA : (Lay.adv [] s (f, k)).A = s.A ++ [(f, k)] := by simp only [Lay.adv]; rw [if_pos Hf.out]
            have eP : (Lay.adv [] s (f, k)).pos ≤ 0 := by
              have := Lay.cut_le (([] : List Int).drop s.pos) k.toNat
              simp at this
              simp only [Lay.adv, List.drop_nil, this]; omega
            have eN : (Lay.adv [] s (f, k)).nx = wrap64 (f + k) := rfl
            rw [← eL] at z1
            rw [← eA] at z2
            have hl2 : (Lay.adv [] s (f, k)).L.length = s.L.length := by rw [eL, List.length_append]; rfl
            have hl3 : (Lay.adv [] s (f, k)).A.length = s.A.length + 1 := by rw [eA, List.length_append]; rfl
            generalize Lay.adv [] s (f, k) = s' at *
            go_roundw
            case rel => exact ⟨i + 1, s', by omega, by go_num, HF, rfl, eP, by rw [hl2], by omega, by rw [eN], by omega, z1, z2, z3, z4, z5⟩
            case measure => simp [intOf]; omega
      · have hf' : (f != s.nx) = true := by simpa using hf
        go_wp2_with (first | (at_builtin; refine wpList_append_fits _ rfl (.tmp 35) (.tmp 36) 22 rfl (w.heap.size + 2) 5 i5 1 Trym.underlying22 hi5 hz51 (w.heap.size + 1 + 1) s.L.length m _ rfl ((hoL.alloc _).alloc _) ⟨wr.heap.size + 1, 0, none⟩ 1 1 [.int .u8 10] rfl rfl (cell_new2 _ _ _ _) (by simp [Value.oneCell']) (by omega) ?_; intro w3 hL3 hg3; have rA0 : w3.cell? ⟨wr.heap.size, 0, none⟩ = some (.int .i64 f) := hg3.cell (cell_keep _ _ (cell_r _ _ _ _).1) (by simp; omega); have rA1 : w3.cell? ⟨wr.heap.size, 1, none⟩ = some (.int .i64 k) := hg3.cell (cell_keep _ _ (cell_r _ _ _ _).2) (by simp; omega); have hA3 := ((hoA.alloc _).alloc _).kept hg3 (.inr hne)) | (at_builtin; refine wpList_append_own_at _ rfl (.tmp 38) (.tmp 43) 44 rfl (w.heap.size + 2) 46 i6 (.agg #[.int .i64 0, .int .i64 0]) 2 16 Trym.underlying44 hi6 hz60 hz61 hz62 rfl (by decide) _ s.A.length _ rfl (hA3.alloc _) ⟨w3.heap.size, 0, none⟩ 1 1 [.int .i64 (wrap64 (f - 1)), .int .i64 1] rfl rfl (World.news_of_block (cs := #[.int .i64 (wrap64 (f - 1)), .int .i64 1]) (heap_alloc_new _ _)) (by simp [Value.oneCell']) (by unfold maxLen; omega) (by omega) (by have := hg3.size; simp at this ⊢; omega) ?_; intro v4 w4 hA4 hg4 hnil4 hat4; have rB0 : w4.cell? ⟨wr.heap.size, 0, none⟩ = some (.int .i64 f) := hg4.cell (cell_keep _ _ rA0) hRA; have rB1 : w4.cell? ⟨wr.heap.size, 1, none⟩ = some (.int .i64 k) := hg4.cell (cell_keep _ _ rA1) hRA))
        have H := half_ne hR hoA hne hbel hL3 hg3 hA4 hg4 hnil4 hat4 rB0 rB1
        clear hL3 hg3 hA4 hg4 hnil4 hat4 rA0 rA1 hA3 hoL hoA hne hnn hRA hc0 hc1
        have hsz4 := H.sz
        generalize wr.heap.size = R at *
        go_loopw [9, 47] (fun en cn wq => wq = w4 ∧ ∃ (j : Nat), en = .int .i64 0 ∧ cn = .int .i64 j ∧ ((j : Int) ≤ k ∨ j = 0)) (fun _ cn _ => (k - intOf cn).toNat)
        case atStart => exact ⟨rfl, 0, rfl, rfl, .inr rfl⟩
        case round =>
          obtain ⟨hwq, j, rfl, rfl, hjk⟩ := hrel
          have hwq' := hwq.symm
          subst hwq'
          clear hwq
          by_cases hj : (j : Int) < k
          · have hj9 : (j : Int) < 9223372036854775807 := by omega
            go_wp2_with (go_at_call 29; refine (idxB_nil _).mono ?_; rintro e' w' ⟨rfl, rfl⟩)
            go_roundw
            case rel => exact ⟨trivial, j + 1, rfl, by go_num, .inl (by omega)⟩
            case measure => simp [intOf]; omega
          · have hbR := H.bR
            go_wp2_with (first | (at_builtin; refine wpList_append_fits_any _ rfl (.tmp 62) (.tmp 65) 22 rfl (w.heap.size + 2) 5 i5 1 Trym.underlying22 hi5 hz51 (w.heap.size + 1 + 1) (s.L.length + 1) m _ rfl H.hL none 0 0 [] rfl rfl (fun _ => ⟨rfl, rfl⟩) (by simp) (by simp) (by omega) ?_; intro w5 hL5 hg5; have rC0 : w5.cell? ⟨R, 0, none⟩ = some (.int .i64 f) := hg5.cell rB0 (by simp; omega); have rC1 : w5.cell? ⟨R, 1, none⟩ = some (.int .i64 k) := hg5.cell rB1 (by simp; omega); have hA5 := H.hA.kept hg5 (.inr H.ne)) | (at_builtin; refine wpList_append_own_at _ rfl (.tmp 70) (.tmp 72) 44 rfl (w.heap.size + 2) 46 i6 (.agg #[.int .i64 0, .int .i64 0]) 2 16 Trym.underlying44 hi6 hz60 hz61 hz62 rfl (by decide) _ (s.A.length + 1) _ rfl (hA5.alloc _) ⟨w5.heap.size, 0, none⟩ 1 1 [.int .i64 f, .int .i64 k] rfl rfl (World.news_of_block (cs := #[.int .i64 f, .int .i64 k]) (heap_alloc_new _ _)) (by simp [Value.oneCell']) (by unfold maxLen; omega) (by omega) (by have := hg5.size; simp at this ⊢; omega) ?_; intro v6 w6 hA6 hg6 hnil6 hat6; have rD0 : w6.cell? ⟨R, 0, none⟩ = some (.int .i64 f) := hg6.cell (cell_keep _ _ rC0) H.rA; have rD1 : w6.cell? ⟨R, 1, none⟩ = some (.int .i64 k) := hg6.cell (cell_keep _ _ rC1) H.rA))
            simp only [Nat.add_zero, List.append_nil] at hL5
            obtain ⟨z1, z2, z3, z4, z5⟩ := half_end (X := []) (e := 0) H (by simp) (by simp) rfl (by simpa using hL5) hg5 hA6 hg6 hnil6 hat6
            have HF : Hid (Lay.adv [] s (f, k) = Lay.st [] (rs.take (i + 1))) := by rw [HN.out]; exact rfl
            have eL : (Lay.adv [] s (f, k)).L = (s.L ++ [10]) ++ [] := by simp only [Lay.adv, List.drop_nil, List.take_nil]; rw [if_neg hf]
            have eA : (Lay.adv [] s (f, k)).A = (s.A ++ [(wrap64 (f - 1), 1)]) ++ [(f, k)] := by simp only [Lay.adv]; rw [if_neg hf]
            have eP : (Lay.adv [] s (f, k)).pos ≤ 0 := by
              have := Lay.cut_le (([] : List Int).drop s.pos) k.toNat
              simp at this
              simp only [Lay.adv, List.drop_nil, this]; omega
            have eN : (Lay.adv [] s (f, k)).nx = wrap64 (f + k) := rfl
            rw [← eL] at z1
            rw [← eA] at z2
            have hl2 : (Lay.adv [] s (f, k)).L.length = (s.L.length + 1) := by rw [eL, List.length_append]; simp
            have hl3 : (Lay.adv [] s (f, k)).A.length = (s.A.length + 1) + 1 := by rw [eA, List.length_append]; simp
            generalize Lay.adv [] s (f, k) = s' at *
            go_roundw
            case rel => exact ⟨i + 1, s', by omega, by go_num, HF, rfl, eP, by rw [hl2], by omega, by rw [eN], by omega, z1, z2, z3, z4, z5⟩
            case measure => simp [intOf]; omega
    · obtain rfl : i = m := by omega
      have HS2 : Hid (s = Lay.st [] rs) := by
        rw [HS.out, List.take_of_length_le (by rw [HM.out]; omega)]; exact rfl
      clear HS
      have hres := boxes_res w (.slice none 0 0) (.slice (some ⟨ga, 0, none⟩) i i)
      rw [← hbel.block (w.heap.size + 1) (by omega)] at hres
      obtain ⟨gA, capA, rfl⟩ : ∃ gA capA, u5 = .slice (some ⟨gA, 0, none⟩) s.A.length capA := by
        rcases hoA.2 with ⟨h, _⟩ | ⟨gA, capA, cur, h, _⟩
        · exact absurd h hnn
        · exact ⟨gA, capA, h⟩
      have HRes : Hid (wr.heap[w.heap.size + 1]? = some (.cells #[.slice none 0 0, .slice none 0 0] 48 (0, 0))) := hres
      clear hres
      go_wp2_with (first | (at_builtin; refine wpList_append_fits_any _ rfl (.tmp 80) (.tmp 81) 22 rfl (w.heap.size + 2) 5 i5 1 Trym.underlying22 hi5 hz51 (w.heap.size + 1 + 1) s.L.length i _ rfl hoL none 0 0 [] rfl rfl (fun _ => ⟨rfl, rfl⟩) (by simp) (by simp) (by omega) ?_; intro w5 hL5 hg5; have q0 : w5.heap[w.heap.size + 1]? = some (.cells #[.slice none 0 0, .slice none 0 0] 48 (0, 0)) := (hg5.block _ (by omega) (by simp)).trans HRes.out; have q1 : w5.cell? ⟨w.heap.size + 1, 0, none⟩ = some (.slice none 0 0) := cell_of_row _ _ 0 _ _ _ q0; have q2 : w5.cell? ⟨w.heap.size + 1, 1, none⟩ = some (.slice none 0 0) := cell_of_row _ _ 1 _ _ _ q0; have q3 := frozen_of_row _ _ 0 _ _ q0; have q4 := frozen_of_row _ _ 1 _ _ q0; clear q0))
      refine bodyPost_ret (v := .agg #[.slice (some ⟨w.heap.size + 1 + 1, 0, none⟩) s.L.length i, .slice (some ⟨gA, 0, none⟩) s.A.length capA]) (by simp [results, Trym.results26, go_sem, q1, q2]) rfl ?_
      exact ⟨_, gA, _, _, _, capA, rfl, laid_close (d := 0) HS2.out (by simp) hbw hR hoA hne (by simpa using hL5) hg5 _ _⟩

end Go.Proofs.Qxb6604100aMods
