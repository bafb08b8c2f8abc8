/-
  WHAT THE WALK OF modelLaidOut CARRIES.
-/
import Derived.Test.Qxb6604100aModsEq
namespace Go.Proofs.Qxb6604100aMods
open Go.RowKit

theorem Trym.info4 : (Trym.prog.info? 4).map (fun i => (i.zero, i.size, i.bytes)) = some (some (.bool false), 1, 1) := by kernel_rfl

/-! ### a row that is filled from its front -/
def Fill (z : Value) (F : Nat → Value) (m k : Nat) (xs : List Value) : Prop := xs.length = m ∧ xs.take k = (List.range k).map F ∧ xs.drop k = List.replicate (m - k) z
theorem Fill.start (z : Value) (F : Nat → Value) (m : Nat) : Fill z F m 0 (List.replicate m z) := ⟨by simp, by simp, by simp⟩
theorem Fill.store {z : Value} {F : Nat → Value} {m k : Nat} {xs : List Value} (h : Fill z F m k xs) (hk : k < m) (u : Value) (hu : F k = u) : Fill z F m (k + 1) (xs.set k u) := by
  obtain ⟨h1, h2, h3⟩ := h
  refine ⟨by simpa using h1, ?_, ?_⟩
  · have := set_take xs k (by omega) u _ h2
    rw [this.out, List.range_succ, List.map_append, List.map_singleton, hu]
  · rw [List.drop_set_of_lt (by omega), ← List.drop_drop, h3, List.drop_replicate]
    congr 1
theorem Fill.keep {z : Value} {F : Nat → Value} {m k : Nat} {xs : List Value} (h : Fill z F m k xs) (hk : k < m) (hu : F k = z) : Fill z F m (k + 1) xs := by
  obtain ⟨h1, h2, h3⟩ := h
  have hz : xs[k]'(by omega) = z := by
    have e : xs[k]? = some z := by
      have := congrArg (fun l => l[0]?) h3
      simp only [List.getElem?_drop, Nat.add_zero] at this
      rw [this, List.getElem?_replicate, if_pos (by omega)]
    rw [List.getElem?_eq_getElem (by omega)] at e
    exact Option.some.inj e
  refine ⟨h1, ?_, ?_⟩
  · rw [List.take_succ_eq_append_getElem (by omega), h2, hz, List.range_succ, List.map_append, List.map_singleton, hu]
  · rw [← List.drop_drop, h3, List.drop_replicate]
    congr 1
theorem Fill.full {z : Value} {F : Nat → Value} {m : Nat} {xs : List Value} (h : Fill z F m m xs) : ∀ i, i < m → xs[i]? = some (F i) := by
  obtain ⟨h1, h2, _⟩ := h
  rw [List.take_of_length_le (by omega)] at h2
  intro i hi
  rw [h2]; simp [hi]

/-! ### the runs' lines are few -/
theorem tak_tot (rs : List (Int × Int)) : (Lay.tak rs : Int) = tot rs := by
  induction rs with
  | nil => rfl
  | cons r rs ih =>
    simp only [Lay.tak, tot, List.map_cons, List.sum_cons] at ih ⊢
    split <;> omega
theorem tak_take (rs : List (Int × Int)) (k : Nat) : Lay.tak (rs.take k) ≤ Lay.tak rs := by
  have e : Lay.tak rs = Lay.tak (rs.take k ++ rs.drop k) := by rw [List.take_append_drop]
  rw [e]
  simp only [Lay.tak, List.map_append, List.sum_append]
  omega
theorem tak_succ (rs : List (Int × Int)) (k : Nat) (h : k < rs.length) : Lay.tak (rs.take (k + 1)) = Lay.tak (rs.take k) + rs[k].2.toNat := by
  rw [List.take_succ_eq_append_getElem h, Lay.tak_snoc]

theorem P_zero (T : List Int) (rs : List (Int × Int)) : Lay.P T rs 0 = 0 := by simp [Lay.P, Lay.st, Lay.run, Lay.s0]
theorem B_zero (rs : List (Int × Int)) (h : 0 < rs.length) : Lay.B rs 0 = (rs[0].1 != 1) := by
  simp [Lay.B, Lay.nxt, List.getD, List.getElem?_eq_getElem h]
theorem B_succ (rs : List (Int × Int)) (q : Nat) (h : q + 1 < rs.length) : Lay.B rs (q + 1) = (rs[q + 1].1 != wrap64 (rs[q].1 + rs[q].2)) := by
  rw [Lay.B, Lay.nxt_succ rs q (by omega)]
  simp [List.getD, List.getElem?_eq_getElem h]
theorem B_at (T : List Int) (rs : List (Int × Int)) (i : Nat) (h : i < rs.length) : Lay.B rs i = (rs[i].1 != (Lay.st T (rs.take i)).nx) := by
  rw [Lay.B, Lay.st_nx T rs i (by omega)]
  simp [List.getD, List.getElem?_eq_getElem h]
theorem off_pos {E : List Nat} {r : Nat} (h : r < E.length) : Lay.off E (r + 1) = E[r] := by
  simp [Lay.off, List.getD, List.getElem?_eq_getElem h]

/-! ### the three rows that the model lays -/
structure TF (wA wc : World) (gX gF gN n m : Nat) (kX : Nat) (X : List Int) (kF : Nat) (F : List Int) (kN : Nat) (N : List Int) : Prop where
  oX : wc.ownsRow gX 5 1 (.slice (some ⟨gX, 0, none⟩) kX (n + m)) kX (X.map (Value.int .u8))
  oF : wc.ownsRow gF 3 1 (.slice (some ⟨gF, 0, none⟩) kF (2 * m)) kF (F.map (Value.int .i64))
  oN : wc.ownsRow gN 3 1 (.slice (some ⟨gN, 0, none⟩) kN (2 * m)) kN (N.map (Value.int .i64))
  xf : gX < gF
  fn : gF < gN
  bel : Below gX wA wc

section
variable {wA wc w' : World} {gX gF gN n m kX kF kN : Nat} {X F N : List Int}
theorem TF.sz (h : TF wA wc gX gF gN n m kX X kF F kN N) : gN < wc.heap.size := (h.oN.lt _ rfl).2
theorem TF.lX (h : TF wA wc gX gF gN n m kX X kF F kN N) : kX = X.length := by have := h.oX.1; simpa using this.symm
theorem TF.lF (h : TF wA wc gX gF gN n m kX X kF F kN N) : kF = F.length := by have := h.oF.1; simpa using this.symm
theorem TF.lN (h : TF wA wc gX gF gN n m kX X kF F kN N) : kN = N.length := by have := h.oN.1; simpa using this.symm
theorem TF.alloc (h : TF wA wc gX gF gN n m kX X kF F kN N) (o : Obj) : TF wA (wc.alloc o) gX gF gN n m kX X kF F kN N :=
  ⟨h.oX.alloc o, h.oF.alloc o, h.oN.alloc o, h.xf, h.fn, h.bel.alloc (by have := h.sz; have := h.xf; have := h.fn; omega) o⟩
theorem TF.appX (h : TF wA wc gX gF gN n m kX X kF F kN N) {e : Nat} {Y : List Int} (ho : w'.ownsRow gX 5 1 (.slice (some ⟨gX, 0, none⟩) (kX + e) (n + m)) (kX + e) (X.map (Value.int .u8) ++ Y.map (Value.int .u8))) (hg : wc.grownBy w' (some gX)) :
    TF wA w' gX gF gN n m (kX + e) (X ++ Y) kF F kN N := by
  have h1 := h.sz
  have h2 := h.xf
  have h3 := h.fn
  refine ⟨by rw [List.map_append]; exact ho, h.oF.kept hg (.inr (by simp [Value.ownBlock]; omega)), h.oN.kept hg (.inr (by simp [Value.ownBlock]; omega)), h2, h3, h.bel.grown hg (by omega) (by intro k hk; simp at hk; omega)⟩
theorem TF.appF (h : TF wA wc gX gF gN n m kX X kF F kN N) {x : Int} (ho : w'.ownsRow gF 3 1 (.slice (some ⟨gF, 0, none⟩) (kF + 1) (2 * m)) (kF + 1) (F.map (Value.int .i64) ++ [.int .i64 x])) (hg : wc.grownBy w' (some gF)) :
    TF wA w' gX gF gN n m kX X (kF + 1) (F ++ [x]) kN N := by
  have h1 := h.sz
  have h2 := h.xf
  have h3 := h.fn
  refine ⟨h.oX.kept hg (.inr (by simp [Value.ownBlock]; omega)), by rw [List.map_append]; exact ho, h.oN.kept hg (.inr (by simp [Value.ownBlock]; omega)), h2, h3, h.bel.grown hg (by omega) (by intro k hk; simp at hk; omega)⟩
theorem TF.appN (h : TF wA wc gX gF gN n m kX X kF F kN N) {x : Int} (ho : w'.ownsRow gN 3 1 (.slice (some ⟨gN, 0, none⟩) (kN + 1) (2 * m)) (kN + 1) (N.map (Value.int .i64) ++ [.int .i64 x])) (hg : wc.grownBy w' (some gN)) :
    TF wA w' gX gF gN n m kX X kF F (kN + 1) (N ++ [x]) := by
  have h1 := h.sz
  have h2 := h.xf
  have h3 := h.fn
  refine ⟨h.oX.kept hg (.inr (by simp [Value.ownBlock]; omega)), h.oF.kept hg (.inr (by simp [Value.ownBlock]; omega)), by rw [List.map_append]; exact ho, h2, h3, h.bel.grown hg (by omega) (by intro k hk; simp at hk; omega)⟩
theorem TF.cell (h : TF wA wc gX gF gN n m kX X kF F kN N) {g o : Nat} {v : Value} (hg : g < gX) (hc : wA.cell? ⟨g, o, none⟩ = some v) : wc.cell? ⟨g, o, none⟩ = some v := by
  rw [h.bel.cell (by exact hg)]; exact hc
end

end Go.Proofs.Qxb6604100aMods
