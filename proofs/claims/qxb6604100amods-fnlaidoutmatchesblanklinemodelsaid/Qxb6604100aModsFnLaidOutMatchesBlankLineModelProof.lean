/-
  THE PROOF OF 'Rows.FnLaidOutMatchesBlankLineModelSaid': the row's step over the walk 'lawB'. After the kit's shell for a law over slices; the slice of structs is opened by Derived/Deep/SlicePairs.lean; the world behind the call is told by 'Below'.
-/
import Derived.Test.Qxb6604100aModsRows
import Derived.Test.Qxb6604100aModsWalkB
import Derived.WalkKit
import Derived.ProofKit
import Derived.OpenShut
import Derived.ShutString
import Derived.ChangeOld
import Derived.Below
import Derived.Deep.SlicePairs
namespace Go.Proofs.Qxb6604100aMods.fnLaidOutMatchesBlankLineModel
open Go.ChangeShapes Go.WideShapes Go.ChangeAt Go.RowKit
set_option linter.unusedVariables false

theorem own : ownKnob Trym.prog.godebug = none := by kernel_rfl
theorem laidOut : laidOutB Trym.prog = true := by kernel_rfl
theorem cells39 : Trym.prog.cellsOf 39 = 2 := by kernel_rfl
theorem cells3 : Trym.prog.cellsOf 3 = 1 := by kernel_rfl

/-- A slice of bytes that came in, as the walk is told of it. -/
theorem open_bytes {H : Type} {enc : TypeId × Value → H} {W : World} {a : Option Addr} {len cap : Nat} {d : DataW H} {p : List MemPlace} (h : DataW.Trod enc Trym.prog W 0 (fun _ => true) true 22 (.slice a len cap) d p) :
    ∃ T : List Int, T.length = len ∧ (a = none → len = 0 ∧ cap = 0) ∧ Row .u8 W a T ∧ (∀ x ∈ T, 0 ≤ x ∧ x < 256) := by
  obtain ⟨fuel, hf⟩ := h
  rcases open_ints Trym.underlying22 Trym.underlying5 (by kernel_rfl) hf with ⟨hcs, _⟩ | ⟨x, l, c, zs, hcs, _, hl, hm, hz, _, hcell, hwz⟩
  · simp [Value.cells] at hcs
    obtain ⟨rfl, rfl, rfl⟩ := hcs
    exact ⟨[], rfl, fun _ => ⟨rfl, rfl⟩, Row.empty rfl, by simp⟩
  · simp [Value.cells] at hcs
    obtain ⟨rfl, rfl, rfl⟩ := hcs
    simp only [if_true] at hz
    refine ⟨zs.take len, by rw [List.length_take]; omega, fun h => by simp at h, ?_, ?_⟩
    · intro i hi
      rw [List.length_take] at hi
      have hc := hcell i (by omega)
      have hs := World.cell?_spot (hcell 0 (by omega))
      obtain ⟨g, o, sp⟩ := x
      have hsp : sp = none := by simpa [Addr.add] using hs
      subst hsp
      rw [Addr.add_lit] at hc
      refine ⟨g, o, rfl, World.block_lt_of_cell? W _ hc, ?_⟩
      · rw [hc, List.getElem_take]
        simp [List.getD, List.getElem?_eq_getElem (show i < zs.length by omega)]
    · intro y hy
      have := bounds_u8 (hwz y (List.mem_of_mem_take hy))
      omega

/-- A slice of runs that came in, as the walk is told of it. -/
theorem open_runs {H : Type} {enc : TypeId × Value → H} {W : World} {a : Option Addr} {len cap : Nat} {d : DataW H} {p : List MemPlace} (h : DataW.Trod enc Trym.prog W 0 (fun _ => true) true 27 (.slice a len cap) d p) :
    ∃ rs : List (Int × Int), rs.length = len ∧ (a = none → len = 0 ∧ cap = 0) ∧ RowP W a rs ∧ (∀ r ∈ rs, (-9223372036854775808 ≤ r.1 ∧ r.1 ≤ 9223372036854775807) ∧ (-9223372036854775808 ≤ r.2 ∧ r.2 ≤ 9223372036854775807)) := by
  obtain ⟨fuel, hf⟩ := h
  have hf' : DataW.trod enc Trym.prog W 0 (fun _ => true) true fuel 27 [.slice a len cap] = some (d, p) := by simpa [Value.cells] using hf
  rcases Deep.open_slice_pairs Trym.underlying27 Trym.underlying39 cells39 rfl rfl cells3 cells3 hf' with ⟨hcs, _⟩ | ⟨x, l, c, m, n, V0, V1, D0, D1, P0, P1, hcs, _, hl, hm, hmm, _, hall⟩
  · simp only [List.cons.injEq, Value.slice.injEq, and_true] at hcs
    obtain ⟨rfl, rfl, rfl⟩ := hcs
    exact ⟨[], rfl, fun _ => ⟨rfl, rfl⟩, RowP.empty rfl, by simp⟩
  · simp only [List.cons.injEq, Value.slice.injEq, and_true] at hcs
    obtain ⟨rfl, rfl, rfl⟩ := hcs
    simp only [if_true] at hmm
    have each : ∀ i, i < len → ∃ r : Int × Int, W.cell? (x.add (i * 2)) = some (.int .i64 r.1) ∧ W.cell? (x.add (i * 2 + 1)) = some (.int .i64 r.2) ∧ (-9223372036854775808 ≤ r.1 ∧ r.1 ≤ 9223372036854775807) ∧ (-9223372036854775808 ≤ r.2 ∧ r.2 ≤ 9223372036854775807) := by
      intro i hi
      obtain ⟨h0, h1, t0, t1⟩ := hall i (by omega)
      obtain ⟨n0, e0, _, w0⟩ := DataW.trod_int Trym.underlying3 t0
      obtain ⟨n1, e1, _, w1⟩ := DataW.trod_int Trym.underlying3 t1
      simp only [List.cons.injEq, and_true] at e0 e1
      rw [e0] at h0
      rw [e1] at h1
      exact ⟨(n0, n1), h0, h1, bounds_i64 w0, bounds_i64 w1⟩
    obtain ⟨R, hR⟩ := Deep.choose_lt each
    refine ⟨(List.range len).map R, by simp, fun h => by simp at h, ?_, ?_⟩
    · intro i hi
      simp only [List.length_map, List.length_range] at hi
      obtain ⟨h0, h1, _⟩ := hR i hi
      obtain ⟨h00, _⟩ := hR 0 (by omega)
      have hs := World.cell?_spot h00
      obtain ⟨g, o, sp⟩ := x
      have hsp : sp = none := by simpa [Addr.add] using hs
      subst hsp
      have hb := World.block_lt_of_cell? W _ h0
      rw [Addr.add_lit] at h0 h1 hb
      refine ⟨g, o, rfl, hb, ?_, ?_⟩
      · rw [h0]; simp
      · rw [Nat.add_assoc, h1]; simp
    · intro r hr
      simp only [List.mem_map, List.mem_range] at hr
      obtain ⟨i, hi, rfl⟩ := hr
      exact ⟨(hR i hi).2.2.1, (hR i hi).2.2.2⟩

set_option maxRecDepth 100000 in
theorem lifted (os : Os) (started : os.Started) (H : Type) (enc : TypeId × Value → H) :
    ReturnsInHanded {} Trym.checked os 5 .any (Rows.fnLaidOutMatchesBlankLineModelSpec.pre6 enc Trym.prog Trym.f5 Rows.fnLaidOutMatchesBlankLineModelRow.domain false) (Rows.fnLaidOutMatchesBlankLineModelSpec.post enc Trym.prog Trym.f5 false true false false) := by
  refine returnsInHanded_of_change (C := Trym.checked) own started (by kernel_rfl) Trym.func5
    (ChangeSpec.witness6 (enc := enc) (C := Trym.checked) false ⟨#[], #[.slice none 0 0, .slice none 0 0], []⟩ 8 (by kernel_rfl) (by kernel_rfl) (by kernel_rfl) (by kernel_rfl)) ?_
  intro W base args ds gs before hval0 hW hcnd _
  have hval : ∀ (j : Nat) t v, Trym.f5.params[j]? = some t → args[j]? = some v → Value.okWide Trym.prog W .any base t v := hval0
  have hW' := hW
  obtain ⟨p, q, hA0, hV, rfl, hfz, hnd⟩ := hW
  have hA : DataW.TrodAll enc Trym.prog W 0 (fun _ => true) true Trym.f5.params.toList args.toList ds p := hA0
  rw [Trym.params5] at hA hval
  obtain ⟨v0, vs0, d0, ds0, p0, q0, hargs, rfl, rfl, h0, r0⟩ := trodAll_cons hA
  obtain ⟨v1, vs1, d1, ds1, p1, q1, rfl, rfl, rfl, h1, r1⟩ := trodAll_cons r0
  obtain ⟨rfl, rfl, rfl⟩ := trodAll_nil r1
  obtain rfl : args = #[v0, v1] := by cases args; simp_all
  obtain ⟨rfl, rfl⟩ := trodVars_none hV
  obtain ⟨a0, len0, cap0, rfl⟩ := okWide_slice Trym.underlying22 (hval 0 22 v0 rfl rfl)
  obtain ⟨a1, len1, cap1, rfl⟩ := okWide_slice Trym.underlying27 (hval 1 27 v1 rfl rfl)
  have k0 := h0
  have k1 := h1
  have lt0 : ∀ x ∈ p0, x.block < W.heap.size := by obtain ⟨m, hm⟩ := k0; exact DataW.trod_lt m _ _ _ hm
  have lt1 : ∀ x ∈ p1, x.block < W.heap.size := by obtain ⟨m, hm⟩ := k1; exact DataW.trod_lt m _ _ _ hm
  obtain ⟨T, lenT, nilT, rowT, bdT⟩ := open_bytes h0
  obtain ⟨rs, lenR, nilR, rowR, bdR⟩ := open_runs h1
  clear hA0 hval0
  refine (lawB W a0 len0 cap0 T a1 len1 cap1 rs ⟨lenT, nilT, rowT, bdT, lenR, nilR, rowR, bdR⟩).mono fun e W' ⟨he, bel⟩ => ?_
  subst he
  exact ⟨_, rfl, _, _, _, [], _, [], hW', trodAll_mk1 (shut_bool Trym.underlying4 _), (trodAll_cons_mk (Below.trod laidOut (by kernel_rfl) (of_decide_eq_true (by kernel_rfl)) k0 bel lt0) (trodAll_cons_mk (Below.trod laidOut (by kernel_rfl) (of_decide_eq_true (by kernel_rfl)) k1 bel lt1) trodAll_mk0)), rfl, bel.frame _, fun h => by cases h⟩

theorem over : Rows.fnLaidOutMatchesBlankLineModelRow.holds Trym.pinned (OpenSpec.ofChange Rows.fnLaidOutMatchesBlankLineModelSpec) :=
  OpenClaim.holds_of_wide 5 Trym.f5 rfl rfl rfl rfl rfl rfl rfl ⟨rfl, rfl, rfl, rfl, rfl⟩ rfl rfl rfl rfl rfl (by kernel_rfl) Trym.func5 (by kernel_rfl)
    (of_decide_eq_true (by kernel_rfl)) (by unfold Func.isWrapper; first | (rw [if_pos (by decide +kernel)]; kernel_rfl) | (rw [if_neg (by decide +kernel)]; exact ⟨rfl, rfl⟩))
    (fun os started H enc _ => lifted os started H enc)

/-- THE STATEMENT -/
theorem proved : Rows.FnLaidOutMatchesBlankLineModelSaid :=
  over
#print axioms proved
end Go.Proofs.Qxb6604100aMods.fnLaidOutMatchesBlankLineModel
