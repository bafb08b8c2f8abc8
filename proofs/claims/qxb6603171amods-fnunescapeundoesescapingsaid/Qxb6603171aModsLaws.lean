/-
  LAWS FOR THE WALK: 'make([]byte, l, c)' with both sizes variables; 'copy(b, s)' from a string over the whole of b; one byte appended within the capacity, in a region that draws its order, with what lies behind it kept.
-/
import Derived.Test.Qxb6603171aModsOnce
import Derived.Lib.BufferWrite
import Derived.Deep.RegionHeld3
import Derived.Deep.AppendLies
namespace Go.Proofs.Qxb6603171aMods
open Go.RowKit

theorem own_make {w : World} {l n : Nat} (h : l ≤ n) (hn : n ≤ maxLen) :
    (w.alloc (.cells (madeCells (Value.int .u8 0).cells (n * 1)) 5)).ownsRow w.heap.size 5 1 (.slice (some ⟨w.heap.size, 0, none⟩) l n) l ((madeCells (Value.int .u8 0).cells (n * 1)).toList.take l) := by
  refine ⟨?_, .inr ⟨w.heap.size, n, _, rfl, Nat.le_refl _, heap_alloc_new w _, h, hn, size_madeCells _ _, by simp⟩⟩
  rw [List.length_take, Array.length_toList, size_madeCells]
  omega

/-- 'make([]byte, l, c)': a new row, l elements of it in use. -/
theorem wpList_make_lc {P : Program} (w : World) {ops : Array Oper} {rest : List Oper} {o : Oper} {a : Act} {Q : Exit → Act → World → Prop}
    (hg : o.guard = none) (l c : Operand) (t : TypeId) (hop : o.op = Op.makeSlice t l c)
    (i : TypeInfo) (h1 : P.underlying t = some (.slice 5)) (h2 : P.info? 5 = some i) (h3 : i.zero = some (.int .u8 0)) (h4 : i.size = 1) (h5 : i.bytes = 1)
    (kl kc : IntKind) (k n : Nat) (hl : a.eval l = .int kl (k : Int)) (hc : a.eval c = .int kc (n : Int)) (hkn : k ≤ n) (b2 : n ≤ 281474976710656)
    (hK : ∀ w' xs, w'.ownsRow w.heap.size 5 1 (.slice (some ⟨w.heap.size, 0, none⟩) k n) k xs → w.grownBy w' none → wpList P ops Q rest (a.put o.dst (.slice (some ⟨w.heap.size, 0, none⟩) k n)) w') :
    wpList P ops Q (o :: rest) a w := by
  refine wpList_plain hg fun K hK' => ?_
  have hrun := run_make (P := P) w t 5 i (.int .u8 0) h1 h2 h3 kl kc (k : Int) (n : Int) (by omega) (by omega) (by rw [h5]; omega) (by omega)
  simp only [Int.toNat_natCast, h4] at hrun
  unfold Oper.wp
  simp only [execOp, hop, hl, hc, hrun, Result.andThen, Sem.run_bind, Sem.run_pure]
  exact hK' _ _ (hK _ _ (own_make hkn (by unfold maxLen; omega)) (World.grownBy_alloc w _ none))

/-- 'copy(b, t)', t a string of b's own length, b the call's own. -/
theorem wpList_copy_str {P : Program} (w : World) {ops : Array Oper} {rest : List Oper} {o : Oper} {a : Act} {Q : Exit → Act → World → Prop}
    (hg : o.guard = none) (d x : Operand) (dT sT : TypeId) (hop : o.op = Op.call { callee := Callee.builtin Builtin.copy, args := #[d, x], argTypes := #[dT, sT] })
    (h1 : P.underlying dT = some (.slice 5)) (h2 : (P.info? 5).map (·.size) = some 1)
    (base g k n : Nat) (xs : List Value) (t : ByteArray) (hd : a.eval d = .slice (some ⟨g, 0, none⟩) k n) (hx : a.eval x = .string t) (ht : t.size = k)
    (hown : w.ownsRow base 5 1 (.slice (some ⟨g, 0, none⟩) k n) k xs)
    (hK : ∀ w', w'.ownsRow base 5 1 (.slice (some ⟨g, 0, none⟩) k n) k ((toI t).map (Value.int .u8)) → w.grownBy w' (some g) → wpList P ops Q rest (a.put o.dst (goInt k)) w') :
    wpList P ops Q (o :: rest) a w := by
  refine wpList_plain hg fun K hK' => ?_
  rcases hown.2 with ⟨h, _⟩ | ⟨g', cap', cur, h, hbg, hgg, hnc, hcm, hcs, htake⟩
  · simp at h
  simp only [Value.slice.injEq, Option.some.injEq, Addr.mk.injEq, and_true, true_and] at h
  obtain ⟨rfl, rfl⟩ := h
  have hrun := Lib.run_copy_row_string (P := P) w dT sT o.type 5 g 0 k n t cur 5 h1 h2 hgg (by omega) (by omega)
  unfold Oper.wp
  simp [execOp, hop, resolve, invoke, builtin, hd, hx, hrun, Result.andThen]
  rw [ht]
  refine hK' _ _ (hK _ ?_ ⟨rfl, rfl, rfl, by simp, fun j _ hj => setRow_other w g j _ (fun e => hj (by simp [e]))⟩)
  have hl : (Lib.byteCells t.data.toList).length = t.size := by rw [Lib.byteCells_length, ← Lib.size_eq]
  have hl2 : ((toI t).map (Value.int .u8)) = Lib.byteCells t.data.toList := by simp [toI, Lib.byteCells]
  refine ⟨by rw [List.length_map, toI_length]; omega, .inr ⟨g, n, _, rfl, hbg, setRow_heap w g cur _ 5 _ hgg, hnc, hcm, ?_, ?_⟩⟩
  · simp only [List.size_toArray, List.length_append, List.length_drop, Array.length_toList, hl]
    omega
  · rw [hl2]
    simp only []
    rw [List.take_append_of_le_length (by rw [hl]; omega), List.take_of_length_le (by rw [hl]; omega)]

/-- One byte appended within the capacity: the row behind it; and what lies further on in the row stays. -/
theorem run_append_one {P : Program} (w : World) (base : Nat) (t ty : TypeId) (i : TypeInfo) (ht : P.underlying t = some (.slice 5)) (hi : P.info? 5 = some i) (hsize : i.size = 1)
    (g n cap : Nat) (xs : List Value) (hown : w.ownsRow base 5 1 (.slice (some ⟨g, 0, none⟩) n cap) n xs)
    (a : Addr) (c : Nat) (u : Value) (hnews : ∀ j v, [u][j]? = some v → w.cell? (a.add j) = some v) (h1 : u.oneCell' = true) (hroom : n + 1 ≤ cap) :
    ∃ w', (Builtin.append_ #[t, t] ty #[.slice (some ⟨g, 0, none⟩) n cap, .slice (some a) 1 c]).run P w = .ok (.slice (some ⟨g, 0, none⟩) (n + 1) cap) w' ∧
      w'.ownsRow base 5 1 (.slice (some ⟨g, 0, none⟩) (n + 1) cap) (n + 1) (xs ++ [u]) ∧ w.grownBy w' (some g) ∧ ∀ j, n + 1 ≤ j → w'.cell? ⟨g, j, none⟩ = w.cell? ⟨g, j, none⟩ := by
  rcases hown.2 with ⟨h, _⟩ | ⟨g', cap', cur, h, hbg, hg, hnc, hcm, hcs, htake⟩
  · simp at h
  simp only [Value.slice.injEq, Option.some.injEq, Addr.mk.injEq, and_true, true_and] at h
  obtain ⟨rfl, rfl⟩ := h
  have hr := run_append_room (P := P) w t ty 5 i ht hi g n cap cur hg a 1 c [u] (by simp [hsize]) hnews (by simpa using h1) hroom (by rw [hsize]; simp; omega)
  simp only [hsize, Nat.mul_one] at hr
  have hxl : xs.length = n := by have := hown.1; omega
  have hcl : cur.toList.length = cap := by rw [Array.length_toList]; omega
  simp only [Nat.mul_one] at htake
  refine ⟨_, hr, ⟨by simp [hxl], .inr ⟨g, cap, _, rfl, hbg, setRow_heap w g cur _ 5 _ hg, hroom, hcm, ?_, ?_⟩⟩, ⟨rfl, rfl, rfl, by simp, fun k _ hk => setRow_other w g k _ (fun e => hk (by simp [e]))⟩, ?_⟩
  · simp only [List.size_toArray, List.length_append, List.length_take, List.length_drop, hcl, List.length_cons, List.length_nil]
    omega
  · rw [htake, Nat.mul_one]
    apply List.take_left'
    simp [hxl]
  · intro j hj
    rw [cell_of_row _ g j _ 5 (0, 0) (setRow_heap w g cur _ 5 _ hg), cell_of_row w g j cur 5 (0, 0) hg]
    rw [htake]
    simp only [List.getElem?_toArray]
    rw [List.getElem?_append_right (by simp [hxl]; omega), List.getElem?_drop]
    simp only [List.length_append, hxl, List.length_cons, List.length_nil]
    rw [show n + (0 + 1) + (j - (n + (0 + 1))) = j by omega]
    simp

/-- .. as one step of a region that draws. -/
theorem step_append_one {P : Program} (w : World) {ops : Array Oper} {o : Oper} {a : Act} {K : Act → World → Prop} {Q : Exit → Act → World → Prop} {E : Prop} (hgd : o.guard = none) (s x : Operand) (t : TypeId)
    (ho : o.op = .call { callee := .builtin .append, args := #[s, x], argTypes := #[t, t] })
    (base : Nat) (i : TypeInfo) (ht : P.underlying t = some (.slice 5)) (hi : P.info? 5 = some i) (hsize : i.size = 1)
    (g n cap : Nat) (xs : List Value) (hs : a.eval s = .slice (some ⟨g, 0, none⟩) n cap) (hown : w.ownsRow base 5 1 (.slice (some ⟨g, 0, none⟩) n cap) n xs)
    (ad : Addr) (c : Nat) (u : Value) (hx : a.eval x = .slice (some ad) 1 c) (hnews : ∀ j v, [u][j]? = some v → w.cell? (ad.add j) = some v) (h1 : u.oneCell' = true) (hroom : n + 1 ≤ cap)
    (h : ∀ w', w'.ownsRow base 5 1 (.slice (some ⟨g, 0, none⟩) (n + 1) cap) (n + 1) (xs ++ [u]) → w.grownBy w' (some g) → Hid (∀ j, n + 1 ≤ j → w'.cell? ⟨g, j, none⟩ = w.cell? ⟨g, j, none⟩) → K (a.put o.dst (.slice (some ⟨g, 0, none⟩) (n + 1) cap)) w') :
    if Region.wanted o (yielded ops a.tmps) = true then Oper.wp P o a w K Q else E := by
  have hw : Region.wanted o (yielded ops a.tmps) = true := by simp [Region.wanted, hgd]
  rw [if_pos hw]
  obtain ⟨w', hr, r1, r2, r3⟩ := run_append_one (P := P) w base t o.type i ht hi hsize g n cap xs hown ad c u hnews h1 hroom
  unfold Oper.wp
  simp [execOp, ho, resolve, invoke, builtin, hs, hx, hr, Result.andThen]
  exact h w' r1 r2 r3

/-- The head of what is owned is owned. -/
theorem own_take {w : World} {base g n cap : Nat} {xs : List Value} (h : w.ownsRow base 5 1 (.slice (some ⟨g, 0, none⟩) n cap) n xs) (m : Nat) (hm : m ≤ n) :
    w.ownsRow base 5 1 (.slice (some ⟨g, 0, none⟩) m cap) m (xs.take m) := by
  rcases h.2 with ⟨h', _⟩ | ⟨g', cap', cur, h', hbg, hg, hnc, hcm, hcs, htake⟩
  · simp at h'
  simp only [Value.slice.injEq, Option.some.injEq, Addr.mk.injEq, and_true, true_and] at h'
  obtain ⟨rfl, rfl⟩ := h'
  have h1 := h.1
  refine ⟨by simp; omega, .inr ⟨g, cap, cur, rfl, hbg, hg, by omega, hcm, hcs, ?_⟩⟩
  rw [← htake, List.take_take]
  congr 1
  omega

end Go.Proofs.Qxb6603171aMods
