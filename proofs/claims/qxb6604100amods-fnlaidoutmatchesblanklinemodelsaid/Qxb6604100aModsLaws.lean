/-
  LAWS FOR THE WALKS: rows of integers and of pairs as they are read; 'copy' over the whole of a row that the call made, whatever the element's size.
-/
import Derived.Test.Qxb6604100aModsRows
import Derived.Test.Qxb6604100aModsPlain
import Derived.WalkKit
import Derived.WalkSpells
import Derived.Lib.Walk
import Derived.Lib.Strings
import Derived.Lib.Bytealg
import Derived.Lib.BytesEntry
import Derived.BigCall
import Derived.BigGuard
import Derived.WalkSmall
namespace Go.Proofs.Qxb6604100aMods
open Go.RowKit

theorem Trym.info5 : (Trym.prog.info? 5).map (fun i => (i.zero, i.size, i.bytes)) = some (some (.int .u8 0), 1, 1) := by kernel_rfl
theorem Trym.info3 : (Trym.prog.info? 3).map (fun i => (i.zero, i.size, i.bytes)) = some (some (.int .i64 0), 1, 8) := by kernel_rfl
theorem Trym.info39 : (Trym.prog.info? 39).map (fun i => (i.zero, i.size, i.bytes)) = some (some (.agg #[.int .i64 0, .int .i64 0]), 2, 16) := by kernel_rfl
theorem Trym.info46 : (Trym.prog.info? 46).map (fun i => (i.zero, i.size, i.bytes)) = some (some (.agg #[.int .i64 0, .int .i64 0]), 2, 16) := by kernel_rfl

/-- A slice of integers as it is read: nothing is said of an empty one. -/
def Row (k : IntKind) (w : World) (ao : Option Addr) (l : List Int) : Prop :=
  ∀ i (h : i < l.length), ∃ g o, ao = some ⟨g, o, none⟩ ∧ g < w.heap.size ∧ w.cell? ⟨g, o + i, none⟩ = some (.int k l[i])
/-- A slice of structs of two integers as it is read. -/
def RowP (w : World) (ao : Option Addr) (l : List (Int × Int)) : Prop :=
  ∀ i (h : i < l.length), ∃ g o, ao = some ⟨g, o, none⟩ ∧ g < w.heap.size ∧ w.cell? ⟨g, o + i * 2, none⟩ = some (.int .i64 l[i].1) ∧ w.cell? ⟨g, o + i * 2 + 1, none⟩ = some (.int .i64 l[i].2)

theorem Row.below {k : IntKind} {w w' : World} {ao : Option Addr} {l : List Int} (h : Row k w ao l) (hb : Below w.heap.size w w') : Row k w' ao l := by
  intro i hi
  obtain ⟨g, o, e, hg, hc⟩ := h i hi
  exact ⟨g, o, e, Nat.lt_of_lt_of_le hg hb.size, by rw [hb.cell (by exact hg)]; exact hc⟩
theorem RowP.below {w w' : World} {ao : Option Addr} {l : List (Int × Int)} (h : RowP w ao l) (hb : Below w.heap.size w w') : RowP w' ao l := by
  intro i hi
  obtain ⟨g, o, e, hg, hc, hd⟩ := h i hi
  exact ⟨g, o, e, Nat.lt_of_lt_of_le hg hb.size, by rw [hb.cell (by exact hg)]; exact hc, by rw [hb.cell (by exact hg)]; exact hd⟩

def cells2 (l : List (Int × Int)) : List Value := l.flatMap fun r => [.int .i64 r.1, .int .i64 r.2]
theorem cells2_length (l : List (Int × Int)) : (cells2 l).length = l.length * 2 := by
  induction l with
  | nil => rfl
  | cons r l ih => simp only [cells2, List.flatMap_cons, List.length_append, List.length_cons, List.length_nil] at ih ⊢; omega
theorem cells2_get : ∀ (l : List (Int × Int)) (i : Nat) (h : i < l.length), (cells2 l)[i * 2]? = some (.int .i64 l[i].1) ∧ (cells2 l)[i * 2 + 1]? = some (.int .i64 l[i].2) := by
  intro l
  induction l with
  | nil => intro i h; simp at h
  | cons r l ih =>
    intro i h
    cases i with
    | zero => simp [cells2]
    | succ i =>
      have := ih i (by simpa using h)
      have e1 : (i + 1) * 2 = i * 2 + 1 + 1 := by omega
      rw [e1]
      simp only [cells2, List.flatMap_cons, List.cons_append, List.nil_append, List.getElem?_cons_succ, List.getElem_cons_succ] at this ⊢
      exact this
theorem cells2_append (a b : List (Int × Int)) : cells2 (a ++ b) = cells2 a ++ cells2 b := by simp [cells2]
theorem cells2_one (l : List (Int × Int)) : ∀ u ∈ cells2 l, u.oneCell' = true := by
  intro u hu
  simp only [cells2, List.mem_flatMap] at hu
  obtain ⟨r, _, hr⟩ := hu
  simp at hr
  rcases hr with rfl | rfl <;> rfl

/-- What is owned is read. -/
theorem Row.of_own {k : IntKind} {w : World} {base g n cap : Nat} {e : TypeId} {l : List Int} (hn : n = l.length)
    (h : w.ownsRow base e 1 (.slice (some ⟨g, 0, none⟩) n cap) n (l.map (Value.int k))) : Row k w (some ⟨g, 0, none⟩) l := by
  intro i hi
  refine ⟨g, 0, rfl, (h.lt g rfl).2, ?_⟩
  rw [Nat.zero_add, h.cellAt i (by omega)]
  simp [hi]
theorem RowP.of_own {w : World} {base g n cap : Nat} {e : TypeId} {l : List (Int × Int)} (hn : n = l.length)
    (h : w.ownsRow base e 2 (.slice (some ⟨g, 0, none⟩) n cap) n (cells2 l)) : RowP w (some ⟨g, 0, none⟩) l := by
  intro i hi
  refine ⟨g, 0, rfl, (h.lt g rfl).2, ?_, ?_⟩
  · rw [Nat.zero_add, h.cellAt (i * 2) (by omega)]; exact (cells2_get l i hi).1
  · rw [Nat.zero_add, h.cellAt (i * 2 + 1) (by omega)]; exact (cells2_get l i hi).2

/-- The cells of a row, for the laws on copy and append. -/
theorem Row.cells {k : IntKind} {w : World} {ad : Addr} {l : List Int} (h : Row k w (some ad) l) : ∀ j u, (l.map (Value.int k))[j]? = some u → w.cell? (ad.add j) = some u := by
  intro j u hu
  have hj : j < l.length := by have := (List.getElem?_eq_some_iff.1 hu).1; simpa using this
  obtain ⟨g, o, e, _, hc⟩ := h j hj
  obtain rfl := Option.some.inj e
  rw [Addr.add_lit, hc]
  simpa [hj] using hu
theorem RowP.cells {w : World} {ad : Addr} {l : List (Int × Int)} (h : RowP w (some ad) l) : ∀ j u, (cells2 l)[j]? = some u → w.cell? (ad.add j) = some u := by
  intro j u hu
  have hj : j < l.length * 2 := by have := (List.getElem?_eq_some_iff.1 hu).1; rwa [cells2_length] at this
  obtain ⟨g, o, e, _, hc, hd⟩ := h (j / 2) (by omega)
  obtain rfl := Option.some.inj e
  have hg := cells2_get l (j / 2) (by omega)
  rw [Addr.add_lit]
  rcases Nat.mod_two_eq_zero_or_one j with h2 | h2
  · have e2 : j / 2 * 2 = j := by omega
    rw [e2] at hc hg
    rw [hc, ← hg.1]; exact hu
  · have e2 : j / 2 * 2 + 1 = j := by omega
    rw [Nat.add_assoc, e2] at hd
    rw [e2] at hg
    rw [hd, ← hg.2]; exact hu

/-- 'copy(y, x)', y a row that the call made, of x's own length, whatever the element's size. -/
theorem wpList_copy_full {P : Program} (w : World) {ops : Array Oper} {rest : List Oper} {o : Oper} {a : Act} {Q : Exit → Act → World → Prop}
    (hgd : o.guard = none) (d x : Operand) (dT sT : TypeId) (hop : o.op = Op.call { callee := Callee.builtin Builtin.copy, args := #[d, x], argTypes := #[dT, sT] })
    (e : TypeId) (i : TypeInfo) (size : Nat) (h1 : P.underlying dT = some (.slice e)) (h2 : P.info? e = some i) (h3 : i.size = size)
    (base g n cap c : Nat) (ad : Addr) (xs cs : List Value) (hd : a.eval d = .slice (some ⟨g, 0, none⟩) n cap) (hx : a.eval x = .slice (some ad) n c)
    (hown : w.ownsRow base e size (.slice (some ⟨g, 0, none⟩) n cap) n xs) (hl : cs.length = n * size) (hsrc : ∀ j u, cs[j]? = some u → w.cell? (ad.add j) = some u) (h1c : ∀ u ∈ cs, u.oneCell' = true)
    (hK : ∀ w', w'.ownsRow base e size (.slice (some ⟨g, 0, none⟩) n cap) n cs → w.grownBy w' (some g) → wpList P ops Q rest (a.put o.dst (goInt n)) w') :
    wpList P ops Q (o :: rest) a w := by
  refine wpList_plain hgd fun K hK' => ?_
  rcases hown.2 with ⟨h, _⟩ | ⟨g', cap', cur, h, hbg, hgg, hnc, hcm, hcs, htake⟩
  · simp at h
  simp only [Value.slice.injEq, Option.some.injEq, Addr.mk.injEq, and_true, true_and] at h
  obtain ⟨rfl, rfl⟩ := h
  have hfit : cs.length ≤ cur.size := by rw [hl, hcs]; exact Nat.mul_le_mul_right _ hnc
  have hf := run_firstCells_some (P := P) w size n ad n c cs hl hsrc
  have hst := run_storeCells_at P g 0 e cs 0 cur w hgg (by simpa using hfit) h1c
  have hrun : (Builtin.copy_ #[dT, sT] o.type #[.slice (some ⟨g, 0, none⟩) n cap, .slice (some ad) n c]).run P w = .ok (goInt n) (w.setRow g (cs ++ cur.toList.drop cs.length).toArray) := by
    simp only [Nat.zero_add, List.take_zero, List.nil_append] at hst
    simp [Builtin.copy_, run_underlying h1, Builtin.lenOf, sizeOf, typeInfo, h2, h3, hf, hst]
  unfold Oper.wp
  simp [execOp, hop, resolve, invoke, builtin, hd, hx, hrun, Result.andThen]
  refine hK' _ _ (hK _ ?_ ⟨rfl, rfl, rfl, by simp, fun j _ hj => setRow_other w g j _ (fun e => hj (by simp [e]))⟩)
  refine ⟨hl, .inr ⟨g, cap, _, rfl, hbg, setRow_heap w g cur _ e _ hgg, hnc, hcm, ?_, ?_⟩⟩
  · simp only [List.size_toArray, List.length_append, List.length_drop, Array.length_toList]
    omega
  · simp only []
    rw [List.take_append_of_le_length (by omega), List.take_of_length_le (by omega)]

theorem ret_bool {a b : Bool} (h : a = b) : Ending.returned (.bool a) = .returned (.bool b) := by rw [h]

end Go.Proofs.Qxb6604100aMods
