/-
  laidOut.
-/
import Derived.Test.Qxb6604100aModsIdx
import Derived.Deep.QuietTactic
import Derived.BigQuiet
import Derived.Maps.AppendAt
import Derived.Deep.AppendLies
namespace Go.Proofs.Qxb6604100aMods
open Go.RowKit

/-- The world with laidOut's two boxes: its receiver, its result. -/
def boxes (w : World) (u v : Value) : World := (w.alloc (.cells #[u, v] 48)).alloc (.cells #[.slice none 0 0, .slice none 0 0] 48)
theorem boxes_size (w : World) (u v : Value) : (boxes w u v).heap.size = w.heap.size + 2 := by simp [boxes]
theorem boxes_below (w : World) (u v : Value) : Below w.heap.size w (boxes w u v) := ((Below.refl _ _).alloc (Nat.le_refl _) _).alloc (by simp) _
theorem boxes_at (w : World) (u v : Value) : (boxes w u v).heap[w.heap.size]? = some (.cells #[u, v] 48 (0, 0)) := by
  unfold boxes
  rw [Below.heap_alloc _ _ _ (by simp)]
  exact heap_alloc_new w _
theorem boxes_res (w : World) (u v : Value) : (boxes w u v).heap[w.heap.size + 1]? = some (.cells #[.slice none 0 0, .slice none 0 0] 48 (0, 0)) := by
  have := heap_alloc_new (w.alloc (.cells #[u, v] 48)) (.cells #[.slice none 0 0, .slice none 0 0] 48)
  simpa [boxes] using this

/-! ### views of the text -/
theorem Row.view {k : IntKind} {w : World} {g : Nat} {T : List Int} (h : Row k w (some ⟨g, 0, none⟩) T) (p : Nat) : Row k w (some ⟨g, p, none⟩) (T.drop p) := by
  intro i hi
  simp only [List.length_drop] at hi
  obtain ⟨g', o', e, hg, hc⟩ := h (p + i) (by omega)
  simp only [Option.some.injEq, Addr.mk.injEq, and_true] at e
  obtain ⟨rfl, rfl⟩ := e
  refine ⟨g, p, rfl, hg, ?_⟩
  rw [Nat.zero_add] at hc
  rw [hc, List.getElem_drop]
theorem Row.empty {k : IntKind} {w : World} {ao : Option Addr} {l : List Int} (h : l.length = 0) : Row k w ao l := fun i hi => absurd hi (by omega)
theorem Row.take {k : IntKind} {w : World} {ao : Option Addr} {l : List Int} (h : Row k w ao l) (e : Nat) : Row k w ao (l.take e) := by
  intro i hi
  simp only [List.length_take] at hi
  obtain ⟨g, o, h1, h2, h3⟩ := h i (by omega)
  exact ⟨g, o, h1, h2, by rw [h3, List.getElem_take]⟩

theorem idx_none' {b o n c : Nat} {l : List Int} (hl : l.length = n) (hbd : ∀ x ∈ l, 0 ≤ x ∧ x < 256) {w : World} (hr : Row .u8 w (some ⟨b, o, none⟩) l) (hn : Lay.nl l = none) :
    Calls Trym.prog 29 #[.slice (some ⟨b, o, none⟩) n c, .int .u8 10] w fun e w' => e = .returned (.int .i64 (-1)) ∧ w = w' := by
  have := idxB_some b o n c l hl hbd w hr
  rw [nlI, hn] at this
  exact this
theorem idx_some' {b o n c : Nat} {l : List Int} {i : Nat} (hl : l.length = n) (hbd : ∀ x ∈ l, 0 ≤ x ∧ x < 256) {w : World} (hr : Row .u8 w (some ⟨b, o, none⟩) l) (hn : Lay.nl l = some i) :
    Calls Trym.prog 29 #[.slice (some ⟨b, o, none⟩) n c, .int .u8 10] w fun e w' => e = .returned (.int .i64 (i : Int)) ∧ w = w' := by
  have := idxB_some b o n c l hl hbd w hr
  rw [nlI, hn] at this
  exact this

/-! ### blocks that a round lays -/
theorem cell_new2 (w : World) (o : Obj) (x : Value) (t : TypeId) : ∀ j u, [x][j]? = some u → ((w.alloc o).alloc (.cells #[x] t)).cell? ((⟨w.heap.size + 1, 0, none⟩ : Addr).add j) = some u := by
  have := cell_one_new (w.alloc o) x t
  simpa using this
theorem cell_r (w : World) (a b : Value) (t : TypeId) : (w.alloc (.cells #[a, b] t)).cell? ⟨w.heap.size, 0, none⟩ = some a ∧ (w.alloc (.cells #[a, b] t)).cell? ⟨w.heap.size, 1, none⟩ = some b := by
  have h := heap_alloc_new w (.cells #[a, b] t)
  exact ⟨cell_of_row _ _ 0 _ _ _ h, cell_of_row _ _ 1 _ _ _ h⟩
theorem cell_keep (w : World) (o : Obj) {a : Addr} {v : Value} (h : w.cell? a = some v) : (w.alloc o).cell? a = some v :=
  (((Below.refl w.heap.size w).alloc (Nat.le_refl _) o).cell (World.block_lt_of_cell? w a h)).trans h

/-- What stands in the middle of a round: behind the test on 'next'. -/
structure Half (B : Nat) (bx w4 : World) (R cap qL : Nat) (L1 : List Int) (v4 : Value) (qA : Nat) (A1 : List (Int × Int)) (f k : Int) : Prop where
  hL : w4.ownsRow (B + 2) 5 1 (.slice (some ⟨B + 1 + 1, 0, none⟩) qL cap) qL (L1.map (Value.int .u8))
  hA : w4.ownsRow (B + 2) 46 2 v4 qA (cells2 A1)
  ne : v4.ownBlock ≠ some (B + 1 + 1)
  nn : v4 ≠ .slice none 0 0
  rA : some R ≠ v4.ownBlock
  bel : Below (B + 2) bx w4
  r0 : w4.cell? ⟨R, 0, none⟩ = some (.int .i64 f)
  r1 : w4.cell? ⟨R, 1, none⟩ = some (.int .i64 k)
  sz : R < w4.heap.size
  bR : B + 2 < R

theorem half_eq {B : Nat} {bx wr : World} {cap : Nat} {L : List Int} {v : Value} {A : List (Int × Int)} {f k : Int} (hB : B + 2 < wr.heap.size)
    (hoL : wr.ownsRow (B + 2) 5 1 (.slice (some ⟨B + 1 + 1, 0, none⟩) L.length cap) L.length (L.map (Value.int .u8))) (hoA : wr.ownsRow (B + 2) 46 2 v A.length (cells2 A))
    (hne : v.ownBlock ≠ some (B + 1 + 1)) (hnn : v ≠ .slice none 0 0) (hbel : Below (B + 2) bx wr) :
    Half B bx (wr.alloc (.cells #[.int .i64 f, .int .i64 k] 46)) wr.heap.size cap L.length L v A.length A f k :=
  ⟨hoL.alloc _, hoA.alloc _, hne, hnn, fun e => by have := (hoA.lt _ e.symm).2; omega, hbel.alloc (by omega) _, (cell_r _ _ _ _).1, (cell_r _ _ _ _).2, by simp, hB⟩

theorem half_ne {B : Nat} {bx wr w3 w4 : World} {cap : Nat} {L : List Int} {v v4 : Value} {A : List (Int × Int)} {f k : Int} {o1 o2 o3 : Obj} (hB : B + 2 < wr.heap.size)
    (hoA : wr.ownsRow (B + 2) 46 2 v A.length (cells2 A))
    (hne : v.ownBlock ≠ some (B + 1 + 1)) (hbel : Below (B + 2) bx wr)
    (hL3 : w3.ownsRow (B + 2) 5 1 (.slice (some ⟨B + 1 + 1, 0, none⟩) (L.length + 1) cap) (L.length + 1) (L.map (Value.int .u8) ++ [.int .u8 10])) (hg3 : ((wr.alloc o1).alloc o2).grownBy w3 (some (B + 1 + 1)))
    (hA4 : w4.ownsRow (B + 2) 46 2 v4 (A.length + 1) (cells2 A ++ [.int .i64 (wrap64 (f - 1)), .int .i64 1])) (hg4 : (w3.alloc o3).grownBy w4 v.ownBlock) (hnil : v4 = .slice none 0 0 ↔ v = .slice none 0 0 ∧ 1 = 0)
    (hat : v4.ownBlock = v.ownBlock ∨ v4.ownBlock = some (w3.alloc o3).heap.size) (r0 : w4.cell? ⟨wr.heap.size, 0, none⟩ = some (.int .i64 f)) (r1 : w4.cell? ⟨wr.heap.size, 1, none⟩ = some (.int .i64 k)) :
    Half B bx w4 wr.heap.size cap (L.length + 1) (L ++ [10]) v4 (A.length + 1) (A ++ [(wrap64 (f - 1), 1)]) f k := by
  have s3 := hg3.size
  have s4 := hg4.size
  simp only [World.size_alloc] at s3 s4
  have hv : ∀ kk, v.ownBlock = some kk → B + 2 ≤ kk ∧ kk < wr.heap.size := fun kk h => hoA.lt kk h
  refine ⟨by simpa using (hL3.alloc o3).kept hg4 (.inr (by simpa [Value.ownBlock] using hne.symm)), by simpa [cells2] using hA4, ?_, fun h => by simp [hnil] at h, ?_, ?_, r0, r1, by omega, hB⟩
  · rcases hat with h | h
    · rw [h]; exact hne
    · rw [h]; simp; omega
  · rcases hat with h | h
    · rw [h]; intro e; have := (hv _ e.symm).2; omega
    · rw [h]; simp; omega
  · refine ((((hbel.alloc (by omega) o1).alloc (by simp; omega) o2).grown hg3 (by simp; omega) (by intro kk h; simp at h; omega)).alloc (by omega) o3).grown hg4 (by simp; omega) (fun kk h => (hv kk h).1)

theorem half_end {B : Nat} {bx w4 w5 w6 : World} {R cap qL qA e : Nat} {L1 X : List Int} {v4 v6 : Value} {A1 : List (Int × Int)} {f k : Int} {o : Obj} (H : Half B bx w4 R cap qL L1 v4 qA A1 f k) (hq : qL = L1.length) (hqA : qA = A1.length) (hX : X.length = e)
    (hL5 : w5.ownsRow (B + 2) 5 1 (.slice (some ⟨B + 1 + 1, 0, none⟩) (qL + e) cap) (qL + e) (L1.map (Value.int .u8) ++ X.map (Value.int .u8))) (hg5 : w4.grownBy w5 (some (B + 1 + 1)))
    (hA6 : w6.ownsRow (B + 2) 46 2 v6 (qA + 1) (cells2 A1 ++ [.int .i64 f, .int .i64 k])) (hg6 : (w5.alloc o).grownBy w6 v4.ownBlock) (hnil : v6 = .slice none 0 0 ↔ v4 = .slice none 0 0 ∧ 1 = 0)
    (hat : v6.ownBlock = v4.ownBlock ∨ v6.ownBlock = some (w5.alloc o).heap.size) :
    w6.ownsRow (B + 2) 5 1 (.slice (some ⟨B + 1 + 1, 0, none⟩) (L1 ++ X).length cap) (L1 ++ X).length ((L1 ++ X).map (Value.int .u8)) ∧ w6.ownsRow (B + 2) 46 2 v6 (A1 ++ [(f, k)]).length (cells2 (A1 ++ [(f, k)])) ∧
      v6.ownBlock ≠ some (B + 1 + 1) ∧ v6 ≠ .slice none 0 0 ∧ Below (B + 2) bx w6 := by
  subst hq hqA hX
  have s5 := hg5.size
  have h4 := H.sz
  have h5 := H.bR
  refine ⟨by simpa using (hL5.alloc o).kept hg6 (.inr (by simpa [Value.ownBlock] using H.ne.symm)), by simpa [cells2] using hA6, ?_, fun h => by simp [hnil] at h, ?_⟩
  · rcases hat with h | h
    · rw [h]; exact H.ne
    · rw [h]; simp; omega
  · exact (((H.bel.grown hg5 (by omega) (by intro kk h; simp at h; omega)).alloc (by omega) o).grown hg6 (by simp; omega) (fun kk h => (H.hA.lt kk h).1))

theorem laid_close {w wr w5 : World} {s : Lay.S} {T : List Int} {rs : List (Int × Int)} {d cap gA capA : Nat} (hs : s = Lay.st T rs) (hX : (T.drop s.pos).length = d) (hbw : Below w.heap.size w wr) (hR : w.heap.size + 2 < wr.heap.size)
    (hoA : wr.ownsRow (w.heap.size + 2) 46 2 (.slice (some ⟨gA, 0, none⟩) s.A.length capA) s.A.length (cells2 s.A)) (hne : (Value.slice (some ⟨gA, 0, none⟩) s.A.length capA).ownBlock ≠ some (w.heap.size + 1 + 1))
    (hL5 : w5.ownsRow (w.heap.size + 2) 5 1 (.slice (some ⟨w.heap.size + 1 + 1, 0, none⟩) (s.L.length + d) cap) (s.L.length + d) (s.L.map (Value.int .u8) ++ (T.drop s.pos).map (Value.int .u8))) (hg5 : wr.grownBy w5 (some (w.heap.size + 1 + 1))) (a b : Value) :
    s.L.length + d = (Lay.outT T rs).length ∧ s.A.length = (Lay.outA rs).length ∧
      Row .u8 ((w5.setCell ⟨w.heap.size + 1, 0, none⟩ a).setCell ⟨w.heap.size + 1, 1, none⟩ b) (some ⟨w.heap.size + 1 + 1, 0, none⟩) (Lay.outT T rs) ∧
      RowP ((w5.setCell ⟨w.heap.size + 1, 0, none⟩ a).setCell ⟨w.heap.size + 1, 1, none⟩ b) (some ⟨gA, 0, none⟩) (Lay.outA rs) ∧
      Below w.heap.size w ((w5.setCell ⟨w.heap.size + 1, 0, none⟩ a).setCell ⟨w.heap.size + 1, 1, none⟩ b) := by
  have eT : Lay.outT T rs = s.L ++ T.drop s.pos := by rw [Lay.outT, ← hs]
  have eA : Lay.outA rs = s.A := by rw [hs, Lay.st_A]; rfl
  have hn : s.L.length + d = (Lay.outT T rs).length := by rw [eT, List.length_append, hX]
  have h1 := ownsRow_setCell_below (ownsRow_setCell_below hL5 (a := ⟨w.heap.size + 1, 0, none⟩) (by simp) a) (a := ⟨w.heap.size + 1, 1, none⟩) (by simp) b
  have h2 := ownsRow_setCell_below (ownsRow_setCell_below (hoA.kept hg5 (.inr hne)) (a := ⟨w.heap.size + 1, 0, none⟩) (by simp) a) (a := ⟨w.heap.size + 1, 1, none⟩) (by simp) b
  rw [← List.map_append, ← eT] at h1
  refine ⟨hn, by rw [eA], Row.of_own hn h1, ?_, ((hbw.grown hg5 (by omega) (by intro k h; simp at h; omega)).setCell (by simp) _).setCell (by simp) _⟩
  rw [eA]
  exact RowP.of_own rfl h2

set_option maxHeartbeats 8000000 in
theorem laid_some (g n : Nat) (T : List Int) (hT : T.length = n) (hn : n ≤ 1048576) (hbd : ∀ x ∈ T, 0 ≤ x ∧ x < 256) (ga m : Nat) (rs : List (Int × Int)) (hm : rs.length = m) (hmn : m ≤ 1048576) (hk : ∀ r ∈ rs, r.2 ≤ 9223372036854775807) (w : World)
    (hr : Row .u8 w (some ⟨g, 0, none⟩) T) (hp : RowP w (some ⟨ga, 0, none⟩) rs) :
    Calls Trym.prog 26 #[.agg #[.slice (some ⟨g, 0, none⟩) n n, .slice (some ⟨ga, 0, none⟩) m m]] w fun e w' => ∃ (gl gA K cap KA capA : Nat), e = .returned (.agg #[.slice (some ⟨gl, 0, none⟩) K cap, .slice (some ⟨gA, 0, none⟩) KA capA]) ∧
      K = (Lay.outT T rs).length ∧ KA = (Lay.outA rs).length ∧ Row .u8 w' (some ⟨gl, 0, none⟩) (Lay.outT T rs) ∧ RowP w' (some ⟨gA, 0, none⟩) (Lay.outA rs) ∧ Below w.heap.size w w' := by
  obtain ⟨i5, hi5, hz50, hz51, hz52⟩ := info_parts Trym.info5
  obtain ⟨i6, hi6, hz60, hz61, hz62⟩ := info_parts Trym.info46
  have HR : Hid (Row .u8 w (some ⟨g, 0, none⟩) T) := hr
  have HP : Hid (RowP w (some ⟨ga, 0, none⟩) rs) := hp
  have HB : Hid (∀ x ∈ T, 0 ≤ x ∧ x < 256) := hbd
  have HT : Hid (T.length = n) := hT
  have HM : Hid (rs.length = m) := hm
  have HK : Hid (∀ r ∈ rs, r.2 ≤ 9223372036854775807) := hk
  clear hr hp hbd hT hm hk
  go_enter Trym.func26, Trym.ntmps26
  go_wp2_with (first | (at_make; refine wpList_make_own _ rfl (.const (.int .i64 0)) (.tmp 18) 22 rfl (w.heap.size + 2) 5 i5 (.int .u8 0) 1 Trym.underlying22 hi5 hz50 hz51 _ _ _ (n + m) rfl rfl (by omega) (by rw [hz52]; omega) (by unfold maxLen; omega) (by simp) ?_; intro w1 hown1 hgrow1; have cb1 : w1.cell? ⟨w.heap.size, 1, none⟩ = some (.slice (some ⟨ga, 0, none⟩) m m) := hgrow1.cell (cell_of_row _ _ _ _ _ _ (boxes_at w _ _)) (by simp)) | (at_make; refine wpList_make_own _ rfl (.const (.int .i64 0)) (.tmp 22) 44 rfl (w.heap.size + 2) 46 i6 (.agg #[.int .i64 0, .int .i64 0]) 2 Trym.underlying44 hi6 hz60 hz61 _ _ _ m rfl rfl rfl (by rw [hz62]; omega) (by unfold maxLen; omega) (by have := hgrow1.size; simp at this ⊢; omega) ?_; intro w2 hown2 hgrow2; have cb2 : w2.cell? ⟨w.heap.size, 1, none⟩ = some (.slice (some ⟨ga, 0, none⟩) m m) := hgrow2.cell cb1 (by simp)))
  have hBo : Hid (boxes w (.slice (some ⟨g, 0, none⟩) n n) (.slice (some ⟨ga, 0, none⟩) m m) = (w.alloc (.cells #[.slice (some ⟨g, 0, none⟩) n n, .slice (some ⟨ga, 0, none⟩) m m] 48)).alloc (.cells #[.slice none 0 0, .slice none 0 0] 48)) := (by rfl : _ = _)
  rw [← hBo.out] at hgrow1 hown1
  have hsz0 := boxes_size w (.slice (some ⟨g, 0, none⟩) n n) (.slice (some ⟨ga, 0, none⟩) m m)
  rw [hsz0] at hown1
  have hlt1 : w.heap.size + 2 < w1.heap.size := (hown1.lt _ rfl).2
  have hL2 : w2.ownsRow (w.heap.size + 2) 5 1 (.slice (some ⟨w.heap.size + 1 + 1, 0, none⟩) 0 (n + m)) 0 (List.map (Value.int .u8) []) := hown1.kept hgrow2 (.inr (by simp [Value.ownBlock]))
  have hB2 : Below (w.heap.size + 2) (boxes w (.slice (some ⟨g, 0, none⟩) n n) (.slice (some ⟨ga, 0, none⟩) m m)) w2 := ((Below.refl _ _).grown hgrow1 (by omega) (by simp)).grown hgrow2 (by omega) (by simp)
  have hne2 : (Value.slice (some ⟨w1.heap.size, 0, none⟩) 0 m).ownBlock ≠ some (w.heap.size + 1 + 1) := by simp [Value.ownBlock]; omega
  have hA2 : w2.ownsRow (w.heap.size + 2) 46 2 (.slice (some ⟨w1.heap.size, 0, none⟩) 0 m) 0 (cells2 []) := hown2
  clear hown1 hgrow1 hgrow2 hown2 hlt1 cb1 cb2 hBo
  have HZ : Hid ((boxes w (.slice (some ⟨g, 0, none⟩) n n) (.slice (some ⟨ga, 0, none⟩) m m)).heap.size = w.heap.size + 2) := hsz0
  clear hsz0
  go_loopw [3, 4, 5, 6, 27] (fun tx ld at' nx ii wr => ∃ (i : Nat) (s : Lay.S) (o d : Nat), i ≤ m ∧ ii = .int .i64 i ∧ Hid (s = Lay.st T (rs.take i)) ∧ tx = .slice (some ⟨g, o, none⟩) d d ∧ d + s.pos ≤ n ∧ n ≤ d + s.pos ∧ (0 < d → o = s.pos) ∧
      ld = .slice (some ⟨w.heap.size + 1 + 1, 0, none⟩) s.L.length (n + m) ∧ s.L.length ≤ s.pos + i ∧ nx = .int .i64 s.nx ∧ s.A.length ≤ 2 * i ∧
      wr.ownsRow (w.heap.size + 2) 5 1 (.slice (some ⟨w.heap.size + 1 + 1, 0, none⟩) s.L.length (n + m)) s.L.length (s.L.map (Value.int .u8)) ∧ wr.ownsRow (w.heap.size + 2) 46 2 at' s.A.length (cells2 s.A) ∧
      at'.ownBlock ≠ some (w.heap.size + 1 + 1) ∧ at' ≠ .slice none 0 0 ∧ Below (w.heap.size + 2) (boxes w (.slice (some ⟨g, 0, none⟩) n n) (.slice (some ⟨ga, 0, none⟩) m m)) wr)
    (fun _ _ _ _ ii _ => m - (intOf ii).toNat)
  case atStart => exact ⟨0, Lay.s0, 0, n, Nat.zero_le _, rfl, (by rfl : _ = _), rfl, by simp [Lay.s0], by simp [Lay.s0], fun _ => rfl, rfl, by simp [Lay.s0], rfl, by simp [Lay.s0], hL2, hA2, hne2, by simp, hB2⟩
  case round =>
    obtain ⟨i, s, o, d, hi, rfl, HS, rfl, hd1, hd2, ho, rfl, hLl, rfl, hAl, hoL, hoA, hne, hnn, hbel⟩ := hrel
    clear hL2 hA2 hne2 hB2
    have hR : w.heap.size + 2 < wr.heap.size := (hoL.lt _ rfl).2
    have hbw : Below w.heap.size w wr := (boxes_below w _ _).trans (hbel.mono (by omega))
    have hRA : some wr.heap.size ≠ u5.ownBlock := fun e => by have := (hoA.lt _ e.symm).2; omega
    by_cases hlt : i < m
    · have hli : i < rs.length := by rw [HM.out]; exact hlt
      obtain ⟨g', o', eg, hg', hc0, hc1⟩ := (HP.out.below hbw) i hli
      simp only [Option.some.injEq, Addr.mk.injEq, and_true] at eg
      obtain ⟨rfl, rfl⟩ := eg
      have HN : Hid (Lay.st T (rs.take (i + 1)) = Lay.adv T s rs[i]) := by
        rw [List.take_succ_eq_append_getElem hli, Lay.st_snoc, ← HS.out]; exact rfl
      obtain ⟨⟨f, k⟩, hrk⟩ : ∃ r, r = rs[i] := ⟨_, rfl⟩
      have hk9 : k ≤ 9223372036854775807 := by have := HK.out rs[i] (List.getElem_mem hli); rw [← hrk] at this; exact this
      rw [← hrk] at hc0 hc1 HN
      simp only [Nat.zero_add] at hc0 hc1
      clear hrk hli hg'
      by_cases hf : f = s.nx
      · have hf' : (f != s.nx) = false := by simp [hf]
        have Hf : Hid (f = s.nx) := hf
        clear hf
        have H := half_eq (f := f) (k := k) hR hoL hoA hne hnn hbel
        go_wp2_with fail
        generalize wr.alloc (Obj.cells #[Value.int IntKind.i64 f, Value.int IntKind.i64 k] 46) = w4 at H ⊢
        have rB0 := H.r0
        have rB1 := H.r1
        clear hoL hoA hne hnn hRA hc0 hc1
        have hRo : Hid (Row .u8 w4 (some ⟨g, 0, none⟩) T) := HR.out.below ((boxes_below w _ _).trans (H.bel.mono (by omega)))
        have hsz4 := H.sz
        generalize wr.heap.size = R at *
        go_loopw [9, 47] (fun en cn wq => wq = w4 ∧ ∃ (j e : Nat), en = .int .i64 e ∧ cn = .int .i64 j ∧ e ≤ d ∧ ((j : Int) ≤ k ∨ j = 0) ∧ Hid (e = Lay.cut (T.drop s.pos) j)) (fun _ cn _ => (k - intOf cn).toNat)
        case atStart => exact ⟨rfl, 0, 0, rfl, rfl, Nat.zero_le _, .inr rfl, (by rfl : _ = _)⟩
        case round =>
          obtain ⟨hwq, j, e, rfl, rfl, hed, hjk, HE⟩ := hrel
          have hwq' := hwq.symm
          subst hwq'
          clear hwq
          by_cases hj : (j : Int) < k
          · have hj9 : (j : Int) < 9223372036854775807 := by omega
            by_cases he : e = d
            · subst he
              have hnl : Lay.nl (T.drop (s.pos + e)) = none := by rw [List.drop_of_length_le (by rw [HT.out]; omega)]; rfl
              have HE2 : Hid (e = Lay.cut (T.drop s.pos) (j + 1)) := by
                rw [Lay.cut, ← HE.out, Lay.stepE, List.drop_drop, hnl]; simp [Hid, HT.out]; omega
              have hidx := idx_none' (b := g) (o := o) (n := 0) (c := 0) (l := []) rfl (by simp) (w := w4) (Row.empty rfl) rfl
              have HI : Hid (Calls Trym.prog 29 #[.slice (some ⟨g, o, none⟩) 0 0, .int .u8 10] w4 fun e w' => e = .returned (.int .i64 (-1)) ∧ w4 = w') := hidx
              clear hidx hnl HE
              go_wp2_with (go_at_call 29; refine HI.out.mono ?_; rintro e' w' ⟨rfl, rfl⟩)
              go_roundw
              case rel => exact ⟨trivial, j + 1, e, rfl, by go_num, by omega, .inl (by omega), HE2⟩
              case measure => simp [intOf]; omega
            · have hlt2 : e < d := by omega
              obtain rfl := ho (by omega)
              have hview := (hRo.out.view (s.pos + e))
              have hvl : (T.drop (s.pos + e)).length = d - e := by rw [List.length_drop, HT.out]; omega
              have hvb : ∀ x ∈ T.drop (s.pos + e), 0 ≤ x ∧ x < 256 := fun x hx => HB.out x (List.mem_of_mem_drop hx)
              cases hnl : Lay.nl (T.drop (s.pos + e)) with
              | none =>
                have HE2 : Hid (d = Lay.cut (T.drop s.pos) (j + 1)) := by
                  rw [Lay.cut, ← HE.out, Lay.stepE, List.drop_drop, hnl]; simp [Hid, HT.out]; omega
                have HI : Hid (Calls Trym.prog 29 #[.slice (some ⟨g, s.pos + e, none⟩) (d - e) (d - e), .int .u8 10] w4 fun e w' => e = .returned (.int .i64 (-1)) ∧ w4 = w') := idx_none' hvl hvb hview hnl
                clear hnl HE hview hvl hvb
                go_wp2_with (go_at_call 29; refine HI.out.mono ?_; rintro e' w' ⟨rfl, rfl⟩)
                go_roundw
                case rel => exact ⟨trivial, j + 1, d, rfl, by go_num, by omega, .inl (by omega), HE2⟩
                case measure => simp [intOf]; omega
              | some x =>
                have hxl := Lay.nl_lt hnl
                rw [hvl] at hxl
                have HE2 : Hid (e + (x + 1) = Lay.cut (T.drop s.pos) (j + 1)) := by
                  rw [Lay.cut, ← HE.out, Lay.stepE, List.drop_drop, hnl]; simp [Hid]
                have HI : Hid (Calls Trym.prog 29 #[.slice (some ⟨g, s.pos + e, none⟩) (d - e) (d - e), .int .u8 10] w4 fun e w' => e = .returned (.int .i64 (x : Int)) ∧ w4 = w') := idx_some' hvl hvb hview hnl
                clear hnl HE hview hvl hvb
                go_wp2_with (go_at_call 29; refine HI.out.mono ?_; rintro e' w' ⟨rfl, rfl⟩)
                go_roundw
                case rel => exact ⟨trivial, j + 1, e + (x + 1), by go_num, by go_num, by omega, .inl (by omega), HE2⟩
                case measure => simp [intOf]; omega
          · have HC : Hid (e = Lay.cut (T.drop s.pos) k.toNat) := by
              have : j = k.toNat := by omega
              rw [← this]; exact HE
            have hXl : ((T.drop s.pos).take e).length = e := by rw [List.length_take, List.length_drop, HT.out]; omega
            have hNl : Hid ((((T.drop s.pos).take e).map (Value.int .u8)).length = e * 1) := by rw [List.length_map, hXl]; simp [Hid]
            have hNews : Hid (∀ j u, (((T.drop s.pos).take e).map (Value.int .u8))[j]? = some u → w4.cell? ((⟨g, o, none⟩ : Addr).add j) = some u) := by
              by_cases hd0 : 0 < d
              · rw [ho hd0]; exact ((hRo.out.view s.pos).take e).cells
              · intro j u hu
                have := (List.getElem?_eq_some_iff.1 hu).1
                rw [List.length_map, hXl] at this
                omega
            have HX : Hid (((T.drop s.pos).take e).length = e) := hXl
            clear HE hXl hjk
            have hbR := H.bR
            by_cases he : e = d
            · subst he
              go_wp2_with (first | (at_builtin; refine wpList_append_fits _ rfl (.tmp 62) (.tmp 65) 22 rfl (w.heap.size + 2) 5 i5 1 Trym.underlying22 hi5 hz51 (w.heap.size + 1 + 1) s.L.length (n + m) _ rfl H.hL ⟨g, o, none⟩ e e (((T.drop s.pos).take e).map (Value.int .u8)) rfl hNl.out hNews.out (ints_oneCell _ _) (by omega) ?_; intro w5 hL5 hg5; have rC0 : w5.cell? ⟨R, 0, none⟩ = some (.int .i64 f) := hg5.cell rB0 (by simp; omega); have rC1 : w5.cell? ⟨R, 1, none⟩ = some (.int .i64 k) := hg5.cell rB1 (by simp; omega); have hA5 := H.hA.kept hg5 (.inr H.ne)) | (at_builtin; refine wpList_append_own_at _ rfl (.tmp 70) (.tmp 72) 44 rfl (w.heap.size + 2) 46 i6 (.agg #[.int .i64 0, .int .i64 0]) 2 16 Trym.underlying44 hi6 hz60 hz61 hz62 rfl (by decide) _ s.A.length _ rfl (hA5.alloc _) ⟨w5.heap.size, 0, none⟩ 1 1 [.int .i64 f, .int .i64 k] rfl rfl (World.news_of_block (cs := #[.int .i64 f, .int .i64 k]) (heap_alloc_new _ _)) (by simp [Value.oneCell']) (by unfold maxLen; omega) (by omega) (by have := hg5.size; simp at this ⊢; omega) ?_; intro v6 w6 hA6 hg6 hnil6 hat6; have rD0 : w6.cell? ⟨R, 0, none⟩ = some (.int .i64 f) := hg6.cell (cell_keep _ _ rC0) H.rA; have rD1 : w6.cell? ⟨R, 1, none⟩ = some (.int .i64 k) := hg6.cell (cell_keep _ _ rC1) H.rA))
              obtain ⟨z1, z2, z3, z4, z5⟩ := half_end H rfl rfl HX.out hL5 hg5 hA6 hg6 hnil6 hat6
              have HF : Hid (Lay.adv T s (f, k) = Lay.st T (rs.take (i + 1))) := by rw [HN.out]; exact rfl
              have eL : (Lay.adv T s (f, k)).L = s.L ++ (T.drop s.pos).take e := by rw [HC.out]; simp only [Lay.adv]; rw [if_pos Hf.out]
              have eA : (Lay.adv T s (f, k)).A = s.A ++ [(f, k)] := by simp only [Lay.adv]; rw [if_pos Hf.out]
              have eP : (Lay.adv T s (f, k)).pos = s.pos + e := by rw [HC.out]; rfl
              have eN : (Lay.adv T s (f, k)).nx = wrap64 (f + k) := rfl
              have hl1 := HX.out
              rw [← eL] at z1
              rw [← eA] at z2
              have hl2 : (Lay.adv T s (f, k)).L.length = s.L.length + e := by rw [eL, List.length_append, hl1]
              have hl3 : (Lay.adv T s (f, k)).A.length = s.A.length + 1 := by rw [eA, List.length_append]; rfl
              generalize Lay.adv T s (f, k) = s' at *
              go_roundw
              case rel => exact ⟨i + 1, s', o, 0, by omega, by go_num, HF, rfl, by omega, by omega, fun h => absurd h (by omega), by rw [hl2], by omega, by rw [eN], by omega, z1, z2, z3, z4, z5⟩
              case measure => simp [intOf]; omega
            · have hlt2 : e < d := by omega
              go_wp2_with (first | (at_builtin; refine wpList_append_fits _ rfl (.tmp 62) (.tmp 65) 22 rfl (w.heap.size + 2) 5 i5 1 Trym.underlying22 hi5 hz51 (w.heap.size + 1 + 1) s.L.length (n + m) _ rfl H.hL ⟨g, o, none⟩ e d (((T.drop s.pos).take e).map (Value.int .u8)) rfl hNl.out hNews.out (ints_oneCell _ _) (by omega) ?_; intro w5 hL5 hg5; have rC0 : w5.cell? ⟨R, 0, none⟩ = some (.int .i64 f) := hg5.cell rB0 (by simp; omega); have rC1 : w5.cell? ⟨R, 1, none⟩ = some (.int .i64 k) := hg5.cell rB1 (by simp; omega); have hA5 := H.hA.kept hg5 (.inr H.ne)) | (at_builtin; refine wpList_append_own_at _ rfl (.tmp 70) (.tmp 72) 44 rfl (w.heap.size + 2) 46 i6 (.agg #[.int .i64 0, .int .i64 0]) 2 16 Trym.underlying44 hi6 hz60 hz61 hz62 rfl (by decide) _ s.A.length _ rfl (hA5.alloc _) ⟨w5.heap.size, 0, none⟩ 1 1 [.int .i64 f, .int .i64 k] rfl rfl (World.news_of_block (cs := #[.int .i64 f, .int .i64 k]) (heap_alloc_new _ _)) (by simp [Value.oneCell']) (by unfold maxLen; omega) (by omega) (by have := hg5.size; simp at this ⊢; omega) ?_; intro v6 w6 hA6 hg6 hnil6 hat6; have rD0 : w6.cell? ⟨R, 0, none⟩ = some (.int .i64 f) := hg6.cell (cell_keep _ _ rC0) H.rA; have rD1 : w6.cell? ⟨R, 1, none⟩ = some (.int .i64 k) := hg6.cell (cell_keep _ _ rC1) H.rA))
              obtain ⟨z1, z2, z3, z4, z5⟩ := half_end H rfl rfl HX.out hL5 hg5 hA6 hg6 hnil6 hat6
              have HF : Hid (Lay.adv T s (f, k) = Lay.st T (rs.take (i + 1))) := by rw [HN.out]; exact rfl
              have eL : (Lay.adv T s (f, k)).L = s.L ++ (T.drop s.pos).take e := by rw [HC.out]; simp only [Lay.adv]; rw [if_pos Hf.out]
              have eA : (Lay.adv T s (f, k)).A = s.A ++ [(f, k)] := by simp only [Lay.adv]; rw [if_pos Hf.out]
              have eP : (Lay.adv T s (f, k)).pos = s.pos + e := by rw [HC.out]; rfl
              have eN : (Lay.adv T s (f, k)).nx = wrap64 (f + k) := rfl
              have hl1 := HX.out
              rw [← eL] at z1
              rw [← eA] at z2
              have hl2 : (Lay.adv T s (f, k)).L.length = s.L.length + e := by rw [eL, List.length_append, hl1]
              have hl3 : (Lay.adv T s (f, k)).A.length = s.A.length + 1 := by rw [eA, List.length_append]; rfl
              generalize Lay.adv T s (f, k) = s' at *
              go_roundw
              case rel => exact ⟨i + 1, s', (o + e), (d - e), by omega, by go_num, HF, rfl, by omega, by omega, fun _ => by rw [ho (by omega), eP], by rw [hl2], by omega, by rw [eN], by omega, z1, z2, z3, z4, z5⟩
              case measure => simp [intOf]; omega
      · have hf' : (f != s.nx) = true := by simpa using hf
        go_wp2_with (first | (at_builtin; refine wpList_append_fits _ rfl (.tmp 35) (.tmp 36) 22 rfl (w.heap.size + 2) 5 i5 1 Trym.underlying22 hi5 hz51 (w.heap.size + 1 + 1) s.L.length (n + m) _ rfl ((hoL.alloc _).alloc _) ⟨wr.heap.size + 1, 0, none⟩ 1 1 [.int .u8 10] rfl rfl (cell_new2 _ _ _ _) (by simp [Value.oneCell']) (by omega) ?_; intro w3 hL3 hg3; have rA0 : w3.cell? ⟨wr.heap.size, 0, none⟩ = some (.int .i64 f) := hg3.cell (cell_keep _ _ (cell_r _ _ _ _).1) (by simp; omega); have rA1 : w3.cell? ⟨wr.heap.size, 1, none⟩ = some (.int .i64 k) := hg3.cell (cell_keep _ _ (cell_r _ _ _ _).2) (by simp; omega); have hA3 := ((hoA.alloc _).alloc _).kept hg3 (.inr hne)) | (at_builtin; refine wpList_append_own_at _ rfl (.tmp 38) (.tmp 43) 44 rfl (w.heap.size + 2) 46 i6 (.agg #[.int .i64 0, .int .i64 0]) 2 16 Trym.underlying44 hi6 hz60 hz61 hz62 rfl (by decide) _ s.A.length _ rfl (hA3.alloc _) ⟨w3.heap.size, 0, none⟩ 1 1 [.int .i64 (wrap64 (f - 1)), .int .i64 1] rfl rfl (World.news_of_block (cs := #[.int .i64 (wrap64 (f - 1)), .int .i64 1]) (heap_alloc_new _ _)) (by simp [Value.oneCell']) (by unfold maxLen; omega) (by omega) (by have := hg3.size; simp at this ⊢; omega) ?_; intro v4 w4 hA4 hg4 hnil4 hat4; have rB0 : w4.cell? ⟨wr.heap.size, 0, none⟩ = some (.int .i64 f) := hg4.cell (cell_keep _ _ rA0) hRA; have rB1 : w4.cell? ⟨wr.heap.size, 1, none⟩ = some (.int .i64 k) := hg4.cell (cell_keep _ _ rA1) hRA))
        have H := half_ne hR hoA hne hbel hL3 hg3 hA4 hg4 hnil4 hat4 rB0 rB1
        clear hL3 hg3 hA4 hg4 hnil4 hat4 rA0 rA1 hA3 hoL hoA hne hnn hRA hc0 hc1
        have hRo : Hid (Row .u8 w4 (some ⟨g, 0, none⟩) T) := HR.out.below ((boxes_below w _ _).trans (H.bel.mono (by omega)))
        have hsz4 := H.sz
        generalize wr.heap.size = R at *
        go_loopw [9, 47] (fun en cn wq => wq = w4 ∧ ∃ (j e : Nat), en = .int .i64 e ∧ cn = .int .i64 j ∧ e ≤ d ∧ ((j : Int) ≤ k ∨ j = 0) ∧ Hid (e = Lay.cut (T.drop s.pos) j)) (fun _ cn _ => (k - intOf cn).toNat)
        case atStart => exact ⟨rfl, 0, 0, rfl, rfl, Nat.zero_le _, .inr rfl, (by rfl : _ = _)⟩
        case round =>
          obtain ⟨hwq, j, e, rfl, rfl, hed, hjk, HE⟩ := hrel
          have hwq' := hwq.symm
          subst hwq'
          clear hwq
          by_cases hj : (j : Int) < k
          · have hj9 : (j : Int) < 9223372036854775807 := by omega
            by_cases he : e = d
            · subst he
              have hnl : Lay.nl (T.drop (s.pos + e)) = none := by rw [List.drop_of_length_le (by rw [HT.out]; omega)]; rfl
              have HE2 : Hid (e = Lay.cut (T.drop s.pos) (j + 1)) := by
                rw [Lay.cut, ← HE.out, Lay.stepE, List.drop_drop, hnl]; simp [Hid, HT.out]; omega
              have hidx := idx_none' (b := g) (o := o) (n := 0) (c := 0) (l := []) rfl (by simp) (w := w4) (Row.empty rfl) rfl
              have HI : Hid (Calls Trym.prog 29 #[.slice (some ⟨g, o, none⟩) 0 0, .int .u8 10] w4 fun e w' => e = .returned (.int .i64 (-1)) ∧ w4 = w') := hidx
              clear hidx hnl HE
              go_wp2_with (go_at_call 29; refine HI.out.mono ?_; rintro e' w' ⟨rfl, rfl⟩)
              go_roundw
              case rel => exact ⟨trivial, j + 1, e, rfl, by go_num, by omega, .inl (by omega), HE2⟩
              case measure => simp [intOf]; omega
            · have hlt2 : e < d := by omega
              obtain rfl := ho (by omega)
              have hview := (hRo.out.view (s.pos + e))
              have hvl : (T.drop (s.pos + e)).length = d - e := by rw [List.length_drop, HT.out]; omega
              have hvb : ∀ x ∈ T.drop (s.pos + e), 0 ≤ x ∧ x < 256 := fun x hx => HB.out x (List.mem_of_mem_drop hx)
              cases hnl : Lay.nl (T.drop (s.pos + e)) with
              | none =>
                have HE2 : Hid (d = Lay.cut (T.drop s.pos) (j + 1)) := by
                  rw [Lay.cut, ← HE.out, Lay.stepE, List.drop_drop, hnl]; simp [Hid, HT.out]; omega
                have HI : Hid (Calls Trym.prog 29 #[.slice (some ⟨g, s.pos + e, none⟩) (d - e) (d - e), .int .u8 10] w4 fun e w' => e = .returned (.int .i64 (-1)) ∧ w4 = w') := idx_none' hvl hvb hview hnl
                clear hnl HE hview hvl hvb
                go_wp2_with (go_at_call 29; refine HI.out.mono ?_; rintro e' w' ⟨rfl, rfl⟩)
                go_roundw
                case rel => exact ⟨trivial, j + 1, d, rfl, by go_num, by omega, .inl (by omega), HE2⟩
                case measure => simp [intOf]; omega
              | some x =>
                have hxl := Lay.nl_lt hnl
                rw [hvl] at hxl
                have HE2 : Hid (e + (x + 1) = Lay.cut (T.drop s.pos) (j + 1)) := by
                  rw [Lay.cut, ← HE.out, Lay.stepE, List.drop_drop, hnl]; simp [Hid]
                have HI : Hid (Calls Trym.prog 29 #[.slice (some ⟨g, s.pos + e, none⟩) (d - e) (d - e), .int .u8 10] w4 fun e w' => e = .returned (.int .i64 (x : Int)) ∧ w4 = w') := idx_some' hvl hvb hview hnl
                clear hnl HE hview hvl hvb
                go_wp2_with (go_at_call 29; refine HI.out.mono ?_; rintro e' w' ⟨rfl, rfl⟩)
                go_roundw
                case rel => exact ⟨trivial, j + 1, e + (x + 1), by go_num, by go_num, by omega, .inl (by omega), HE2⟩
                case measure => simp [intOf]; omega
          · have HC : Hid (e = Lay.cut (T.drop s.pos) k.toNat) := by
              have : j = k.toNat := by omega
              rw [← this]; exact HE
            have hXl : ((T.drop s.pos).take e).length = e := by rw [List.length_take, List.length_drop, HT.out]; omega
            have hNl : Hid ((((T.drop s.pos).take e).map (Value.int .u8)).length = e * 1) := by rw [List.length_map, hXl]; simp [Hid]
            have hNews : Hid (∀ j u, (((T.drop s.pos).take e).map (Value.int .u8))[j]? = some u → w4.cell? ((⟨g, o, none⟩ : Addr).add j) = some u) := by
              by_cases hd0 : 0 < d
              · rw [ho hd0]; exact ((hRo.out.view s.pos).take e).cells
              · intro j u hu
                have := (List.getElem?_eq_some_iff.1 hu).1
                rw [List.length_map, hXl] at this
                omega
            have HX : Hid (((T.drop s.pos).take e).length = e) := hXl
            clear HE hXl hjk
            have hbR := H.bR
            by_cases he : e = d
            · subst he
              go_wp2_with (first | (at_builtin; refine wpList_append_fits _ rfl (.tmp 62) (.tmp 65) 22 rfl (w.heap.size + 2) 5 i5 1 Trym.underlying22 hi5 hz51 (w.heap.size + 1 + 1) (s.L.length + 1) (n + m) _ rfl H.hL ⟨g, o, none⟩ e e (((T.drop s.pos).take e).map (Value.int .u8)) rfl hNl.out hNews.out (ints_oneCell _ _) (by omega) ?_; intro w5 hL5 hg5; have rC0 : w5.cell? ⟨R, 0, none⟩ = some (.int .i64 f) := hg5.cell rB0 (by simp; omega); have rC1 : w5.cell? ⟨R, 1, none⟩ = some (.int .i64 k) := hg5.cell rB1 (by simp; omega); have hA5 := H.hA.kept hg5 (.inr H.ne)) | (at_builtin; refine wpList_append_own_at _ rfl (.tmp 70) (.tmp 72) 44 rfl (w.heap.size + 2) 46 i6 (.agg #[.int .i64 0, .int .i64 0]) 2 16 Trym.underlying44 hi6 hz60 hz61 hz62 rfl (by decide) _ (s.A.length + 1) _ rfl (hA5.alloc _) ⟨w5.heap.size, 0, none⟩ 1 1 [.int .i64 f, .int .i64 k] rfl rfl (World.news_of_block (cs := #[.int .i64 f, .int .i64 k]) (heap_alloc_new _ _)) (by simp [Value.oneCell']) (by unfold maxLen; omega) (by omega) (by have := hg5.size; simp at this ⊢; omega) ?_; intro v6 w6 hA6 hg6 hnil6 hat6; have rD0 : w6.cell? ⟨R, 0, none⟩ = some (.int .i64 f) := hg6.cell (cell_keep _ _ rC0) H.rA; have rD1 : w6.cell? ⟨R, 1, none⟩ = some (.int .i64 k) := hg6.cell (cell_keep _ _ rC1) H.rA))
              obtain ⟨z1, z2, z3, z4, z5⟩ := half_end H (by simp) (by simp) HX.out hL5 hg5 hA6 hg6 hnil6 hat6
              have HF : Hid (Lay.adv T s (f, k) = Lay.st T (rs.take (i + 1))) := by rw [HN.out]; exact rfl
              have eL : (Lay.adv T s (f, k)).L = (s.L ++ [10]) ++ (T.drop s.pos).take e := by rw [HC.out]; simp only [Lay.adv]; rw [if_neg hf]
              have eA : (Lay.adv T s (f, k)).A = (s.A ++ [(wrap64 (f - 1), 1)]) ++ [(f, k)] := by simp only [Lay.adv]; rw [if_neg hf]
              have eP : (Lay.adv T s (f, k)).pos = s.pos + e := by rw [HC.out]; rfl
              have eN : (Lay.adv T s (f, k)).nx = wrap64 (f + k) := rfl
              have hl1 := HX.out
              rw [← eL] at z1
              rw [← eA] at z2
              have hl2 : (Lay.adv T s (f, k)).L.length = (s.L.length + 1) + e := by rw [eL, List.length_append, hl1]; simp
              have hl3 : (Lay.adv T s (f, k)).A.length = (s.A.length + 1) + 1 := by rw [eA, List.length_append]; simp
              generalize Lay.adv T s (f, k) = s' at *
              go_roundw
              case rel => exact ⟨i + 1, s', o, 0, by omega, by go_num, HF, rfl, by omega, by omega, fun h => absurd h (by omega), by rw [hl2], by omega, by rw [eN], by omega, z1, z2, z3, z4, z5⟩
              case measure => simp [intOf]; omega
            · have hlt2 : e < d := by omega
              go_wp2_with (first | (at_builtin; refine wpList_append_fits _ rfl (.tmp 62) (.tmp 65) 22 rfl (w.heap.size + 2) 5 i5 1 Trym.underlying22 hi5 hz51 (w.heap.size + 1 + 1) (s.L.length + 1) (n + m) _ rfl H.hL ⟨g, o, none⟩ e d (((T.drop s.pos).take e).map (Value.int .u8)) rfl hNl.out hNews.out (ints_oneCell _ _) (by omega) ?_; intro w5 hL5 hg5; have rC0 : w5.cell? ⟨R, 0, none⟩ = some (.int .i64 f) := hg5.cell rB0 (by simp; omega); have rC1 : w5.cell? ⟨R, 1, none⟩ = some (.int .i64 k) := hg5.cell rB1 (by simp; omega); have hA5 := H.hA.kept hg5 (.inr H.ne)) | (at_builtin; refine wpList_append_own_at _ rfl (.tmp 70) (.tmp 72) 44 rfl (w.heap.size + 2) 46 i6 (.agg #[.int .i64 0, .int .i64 0]) 2 16 Trym.underlying44 hi6 hz60 hz61 hz62 rfl (by decide) _ (s.A.length + 1) _ rfl (hA5.alloc _) ⟨w5.heap.size, 0, none⟩ 1 1 [.int .i64 f, .int .i64 k] rfl rfl (World.news_of_block (cs := #[.int .i64 f, .int .i64 k]) (heap_alloc_new _ _)) (by simp [Value.oneCell']) (by unfold maxLen; omega) (by omega) (by have := hg5.size; simp at this ⊢; omega) ?_; intro v6 w6 hA6 hg6 hnil6 hat6; have rD0 : w6.cell? ⟨R, 0, none⟩ = some (.int .i64 f) := hg6.cell (cell_keep _ _ rC0) H.rA; have rD1 : w6.cell? ⟨R, 1, none⟩ = some (.int .i64 k) := hg6.cell (cell_keep _ _ rC1) H.rA))
              obtain ⟨z1, z2, z3, z4, z5⟩ := half_end H (by simp) (by simp) HX.out hL5 hg5 hA6 hg6 hnil6 hat6
              have HF : Hid (Lay.adv T s (f, k) = Lay.st T (rs.take (i + 1))) := by rw [HN.out]; exact rfl
              have eL : (Lay.adv T s (f, k)).L = (s.L ++ [10]) ++ (T.drop s.pos).take e := by rw [HC.out]; simp only [Lay.adv]; rw [if_neg hf]
              have eA : (Lay.adv T s (f, k)).A = (s.A ++ [(wrap64 (f - 1), 1)]) ++ [(f, k)] := by simp only [Lay.adv]; rw [if_neg hf]
              have eP : (Lay.adv T s (f, k)).pos = s.pos + e := by rw [HC.out]; rfl
              have eN : (Lay.adv T s (f, k)).nx = wrap64 (f + k) := rfl
              have hl1 := HX.out
              rw [← eL] at z1
              rw [← eA] at z2
              have hl2 : (Lay.adv T s (f, k)).L.length = (s.L.length + 1) + e := by rw [eL, List.length_append, hl1]; simp
              have hl3 : (Lay.adv T s (f, k)).A.length = (s.A.length + 1) + 1 := by rw [eA, List.length_append]; simp
              generalize Lay.adv T s (f, k) = s' at *
              go_roundw
              case rel => exact ⟨i + 1, s', (o + e), (d - e), by omega, by go_num, HF, rfl, by omega, by omega, fun _ => by rw [ho (by omega), eP], by rw [hl2], by omega, by rw [eN], by omega, z1, z2, z3, z4, z5⟩
              case measure => simp [intOf]; omega
    · obtain rfl : i = m := by omega
      have HS2 : Hid (s = Lay.st T rs) := by
        rw [HS.out, List.take_of_length_le (by rw [HM.out]; omega)]; exact rfl
      clear HS
      have hRo : Hid (Row .u8 wr (some ⟨g, 0, none⟩) T) := HR.out.below hbw
      have hXl : (T.drop s.pos).length = d := by rw [List.length_drop, HT.out]; omega
      have hNl : Hid (((T.drop s.pos).map (Value.int .u8)).length = d * 1) := by rw [List.length_map, hXl]; simp [Hid]
      have hNews : Hid (∀ j u, ((T.drop s.pos).map (Value.int .u8))[j]? = some u → wr.cell? ((⟨g, o, none⟩ : Addr).add j) = some u) := by
        by_cases hd0 : 0 < d
        · rw [ho hd0]; exact (hRo.out.view s.pos).cells
        · intro j u hu
          have := (List.getElem?_eq_some_iff.1 hu).1
          rw [List.length_map, hXl] at this
          omega
      have HX : Hid ((T.drop s.pos).length = d) := hXl
      clear hXl
      have hres := boxes_res w (.slice (some ⟨g, 0, none⟩) n n) (.slice (some ⟨ga, 0, none⟩) i i)
      rw [← hbel.block (w.heap.size + 1) (by omega)] at hres
      obtain ⟨gA, capA, rfl⟩ : ∃ gA capA, u5 = .slice (some ⟨gA, 0, none⟩) s.A.length capA := by
        rcases hoA.2 with ⟨h, _⟩ | ⟨gA, capA, cur, h, _⟩
        · exact absurd h hnn
        · exact ⟨gA, capA, h⟩
      have HRes : Hid (wr.heap[w.heap.size + 1]? = some (.cells #[.slice none 0 0, .slice none 0 0] 48 (0, 0))) := hres
      clear hres
      go_wp2_with (first | (at_builtin; refine wpList_append_fits _ rfl (.tmp 80) (.tmp 81) 22 rfl (w.heap.size + 2) 5 i5 1 Trym.underlying22 hi5 hz51 (w.heap.size + 1 + 1) s.L.length (n + i) _ rfl hoL ⟨g, o, none⟩ d d ((T.drop s.pos).map (Value.int .u8)) rfl hNl.out hNews.out (ints_oneCell _ _) (by omega) ?_; intro w5 hL5 hg5; have q0 : w5.heap[w.heap.size + 1]? = some (.cells #[.slice none 0 0, .slice none 0 0] 48 (0, 0)) := (hg5.block _ (by omega) (by simp)).trans HRes.out; have q1 : w5.cell? ⟨w.heap.size + 1, 0, none⟩ = some (.slice none 0 0) := cell_of_row _ _ 0 _ _ _ q0; have q2 : w5.cell? ⟨w.heap.size + 1, 1, none⟩ = some (.slice none 0 0) := cell_of_row _ _ 1 _ _ _ q0; have q3 := frozen_of_row _ _ 0 _ _ q0; have q4 := frozen_of_row _ _ 1 _ _ q0; clear q0))
      refine bodyPost_ret (v := .agg #[.slice (some ⟨w.heap.size + 1 + 1, 0, none⟩) (s.L.length + d) (n + i), .slice (some ⟨gA, 0, none⟩) s.A.length capA]) (by simp [results, Trym.results26, go_sem, q1, q2]) rfl ?_
      exact ⟨_, gA, _, _, _, capA, rfl, laid_close HS2.out HX.out hbw hR hoA hne hL5 hg5 _ _⟩

end Go.Proofs.Qxb6604100aMods
