/-
  zdecodeOnce: one pass.
-/
import Derived.Test.Qxb6603171aModsSmall
import Derived.WalkSpells
namespace Go.Proofs.Qxb6603171aMods
open Go.RowKit

def zok (n : Int) : Bool := Esc.hexI n != 16
def zv (n : Int) : Int := if Esc.hexI n = 16 then 0 else Esc.hexI n

theorem zhex_any (n : Int) (h0 : 0 ≤ n) (h1 : n < 256) (w : World) :
    Calls Trym.prog 22 #[.int .u8 n] w fun e w' => e = .returned (.tuple #[.int .u8 (zv n), .bool (zok n)]) ∧ w = w' := by
  by_cases h : Esc.hexI n = 16
  · have e1 : zv n = 0 := by simp [zv, h]
    have e2 : zok n = false := by simp [zok, h]
    rw [e1, e2]
    exact (zhex_no n h0 h1 h w).mono fun e w' h => ⟨h.1, h.2.symm⟩
  · have e1 : zv n = Esc.hexI n := by simp [zv, h]
    have e2 : zok n = true := by simp [zok, h]
    rw [e1, e2]
    exact (zhex_yes n h w).mono fun e w' h => ⟨h.1, h.2.symm⟩

theorem zv_bd (n : Int) : 0 ≤ zv n ∧ zv n < 16 := by
  have := Esc.hexI_bd n
  unfold zv; split <;> omega

theorem Trym.info5 : (Trym.prog.info? 5).map (fun i => (i.zero, i.size, i.bytes)) = some (some (.int .u8 0), 1, 1) := by kernel_rfl

theorem byte_bd (b : UInt8) : (0 : Int) ≤ (b.toNat : Int) ∧ (b.toNat : Int) < 256 := by have := b.toNat_lt; omega

theorem nib_fin : ∀ a : Fin 16, ∀ b : Fin 16, bits BinOp.or IntKind.u8 (((a.val : Nat) : Int) * 16) ((b.val : Nat) : Int) = ((a.val : Nat) : Int) * 16 + ((b.val : Nat) : Int) := by decide +kernel
theorem bits_nib (a b : Int) (ha : 0 ≤ a ∧ a < 16) (hb : 0 ≤ b ∧ b < 16) : bits BinOp.or IntKind.u8 (a * 16) b = a * 16 + b := by
  have := nib_fin ⟨a.toNat, by omega⟩ ⟨b.toNat, by omega⟩
  simp only [Int.toNat_of_nonneg ha.1, Int.toNat_of_nonneg hb.1] at this
  exact this

theorem zok_iff (n : Int) : zok n = true ↔ Esc.hexI n ≠ 16 := by simp [zok]
theorem zv_of (n : Int) (h : zok n = true) : zv n = Esc.hexI n := by simp [zv, (zok_iff n).1 h]

/-- What one append of one byte does to what the call owns. -/
theorem own_step {w wr w2 : World} {n : Nat} {cs : List Int} {x : Int} {o : Obj} (hbel : Below w.heap.size w wr) (hsz : w.heap.size < wr.heap.size)
    (hown2 : w2.ownsRow w.heap.size 5 1 (.slice (some ⟨w.heap.size, 0, none⟩) (cs.length + 1) n) (cs.length + 1) (cs.map (Value.int .u8) ++ [.int .u8 x]))
    (hg : (wr.alloc o).grownBy w2 (some w.heap.size)) :
    w2.ownsRow w.heap.size 5 1 (.slice (some ⟨w.heap.size, 0, none⟩) (cs ++ [x]).length n) (cs ++ [x]).length ((cs ++ [x]).map (Value.int .u8)) ∧ Below w.heap.size w w2 ∧ w.heap.size < w2.heap.size := by
  refine ⟨by simpa using hown2, (hbel.alloc (by omega) o).grown hg (by simp; omega) (by intro k h; simp at h; omega), ?_⟩
  have := hg.size
  simp at this
  omega

theorem dec_one (l : List Int) (k : Nat) (h : k < l.length) (hn : ∀ h2 : k + 2 < l.length, Esc.isE l[k] l[k+1] l[k+2] = false) :
    Esc.dec (l.drop k) = l[k] :: Esc.dec (l.drop (k + 1)) ∧ Esc.hasE (l.drop k) = Esc.hasE (l.drop (k + 1)) := by
  have e0 : l.drop k = l[k] :: l.drop (k + 1) := List.drop_eq_getElem_cons h
  by_cases h2 : k + 2 < l.length
  · have e1 : l.drop (k + 1) = l[k+1] :: l.drop (k + 2) := List.drop_eq_getElem_cons (by omega)
    have e2 : l.drop (k + 2) = l[k+2] :: l.drop (k + 3) := List.drop_eq_getElem_cons h2
    have := hn h2
    rw [e0, e1, e2]
    simp [Esc.dec, Esc.hasE, this]
  · by_cases h1 : k + 1 < l.length
    · have e1 : l.drop (k + 1) = [l[k+1]] := by rw [List.drop_eq_getElem_cons h1, List.drop_of_length_le (by omega)]
      rw [e0, e1]; simp [Esc.dec, Esc.hasE]
    · have e1 : l.drop (k + 1) = [] := List.drop_of_length_le (by omega)
      rw [e0, e1]; simp [Esc.dec, Esc.hasE]

theorem dec_three (l : List Int) (k : Nat) (h2 : k + 2 < l.length) (he : Esc.isE l[k] l[k+1] l[k+2] = true) :
    Esc.dec (l.drop k) = (Esc.hexI l[k+1] * 16 + Esc.hexI l[k+2]) :: Esc.dec (l.drop (k + 3)) ∧ Esc.hasE (l.drop k) = true := by
  have e0 : l.drop k = l[k] :: l.drop (k + 1) := List.drop_eq_getElem_cons (by omega)
  have e1 : l.drop (k + 1) = l[k+1] :: l.drop (k + 2) := List.drop_eq_getElem_cons (by omega)
  have e2 : l.drop (k + 2) = l[k+2] :: l.drop (k + 3) := List.drop_eq_getElem_cons h2
  rw [e0, e1, e2]
  simp [Esc.dec, Esc.hasE, he]

theorem once_one (s : ByteArray) (k : Nat) (cs : List Int) (b : Bool) (h : k < s.size) (hn : ∀ h2 : k + 2 < s.size, ¬ ((s[k].toNat : Int) = 37 ∧ zok (s[k+1].toNat : Int) = true ∧ zok (s[k+2].toNat : Int) = true))
    (hd : Hid (cs ++ Esc.dec ((toI s).drop k) = Esc.dec (toI s))) (hh : Hid ((b || Esc.hasE ((toI s).drop k)) = Esc.hasE (toI s))) :
    Hid ((cs ++ [(s[k].toNat : Int)]) ++ Esc.dec ((toI s).drop (k + 1)) = Esc.dec (toI s)) ∧ Hid ((b || Esc.hasE ((toI s).drop (k + 1))) = Esc.hasE (toI s)) := by
  have hl := toI_length s
  have := dec_one (toI s) k (by omega) (fun h2 => by
    rw [toI_get s k h, toI_get s (k+1) (by omega), toI_get s (k+2) (by omega)]
    cases he : Esc.isE (s[k].toNat : Int) (s[k+1].toNat : Int) (s[k+2].toNat : Int) with
    | false => rfl
    | true =>
      exfalso
      obtain ⟨a, b, c⟩ := Esc.isE_iff.1 he
      exact hn (by omega) ⟨a, (zok_iff _).2 b, (zok_iff _).2 c⟩)
  rw [toI_get s k h] at this
  rw [← hd.out, ← hh.out, this.1, this.2]
  exact ⟨by simp [Hid], by simp [Hid]⟩

theorem once_three (s : ByteArray) (k : Nat) (cs : List Int) (b : Bool) (h : k + 2 < s.size) (hp : (s[k].toNat : Int) = 37) (hx : zok (s[k+1].toNat : Int) = true) (hy : zok (s[k+2].toNat : Int) = true)
    (hd : Hid (cs ++ Esc.dec ((toI s).drop k) = Esc.dec (toI s))) (hh : Hid ((b || Esc.hasE ((toI s).drop k)) = Esc.hasE (toI s))) :
    Hid ((cs ++ [bits BinOp.or IntKind.u8 (zv (s[k+1].toNat : Int) * 16) (zv (s[k+2].toNat : Int))]) ++ Esc.dec ((toI s).drop (k + 3)) = Esc.dec (toI s)) ∧ Hid ((true || Esc.hasE ((toI s).drop (k + 3))) = Esc.hasE (toI s)) := by
  have hl := toI_length s
  have := dec_three (toI s) k (by omega) (by
    rw [toI_get s k (by omega), toI_get s (k+1) (by omega), toI_get s (k+2) (by omega)]
    exact Esc.isE_iff.2 ⟨hp, (zok_iff _).1 hx, (zok_iff _).1 hy⟩)
  rw [toI_get s (k+1) (by omega), toI_get s (k+2) (by omega)] at this
  rw [← hd.out, ← hh.out, this.1, this.2, bits_nib _ _ (zv_bd _) (zv_bd _), zv_of _ hx, zv_of _ hy]
  exact ⟨by simp [Hid], by simp [Hid]⟩

/-- 'string(out)' of what the call owns. -/
theorem own_string {w : World} {base g n : Nat} {cs : List Int} (h : w.ownsRow base 5 1 (.slice (some ⟨g, 0, none⟩) cs.length n) cs.length (cs.map (Value.int .u8))) :
    (convert 25 9 (.slice (some ⟨g, 0, none⟩) cs.length n)).run Trym.prog w = .ok (.string (strOfNums cs)) w := by
  refine run_convert_bytes_arg w 25 5 Trym.underlying25 Trym.underlying5 g 0 cs.length n cs rfl (fun i hi => ?_) 9 Trym.underlying9
  have := h.cellAt i (by omega)
  rw [Nat.zero_add, this]
  simp [List.getD, hi]

theorem ret_sb {a b : ByteArray} {c d : Bool} (h : a = b) (h2 : c = d) : Ending.returned (.tuple #[.string a, .bool c]) = .returned (.tuple #[.string b, .bool d]) := by rw [h, h2]

set_option maxHeartbeats 2000000 in
theorem once_any (s : ByteArray) (hs : s.size ≤ 4194304) (w : World) :
    Calls Trym.prog 16 #[.string s] w fun e w' => e = .returned (.tuple #[.string (strOfNums (Esc.dec (toI s))), .bool (Esc.hasE (toI s))]) ∧ Below w.heap.size w w' := by
  obtain ⟨i0, hi, hz0, hz1, hz2⟩ := info_parts Trym.info5
  go_enter Trym.func16, Trym.ntmps16
  go_wp2_with (at_make; refine wpList_make_own _ rfl _ _ 25 rfl w.heap.size 5 i0 (.int .u8 0) 1 Trym.underlying25 hi hz0 hz1 _ _ _ s.size rfl rfl rfl (by rw [hz2]; omega) (by unfold maxLen; omega) (by simp) ?_; intro w1 hown1 hgrow1)
  have hsz1 : w.heap.size < w1.heap.size := by
    rcases hown1.lt w.heap.size rfl with ⟨_, h⟩
    exact h
  go_loopw [4, 5, 6] (fun v c i wr => ∃ (k : Nat) (cs : List Int) (b : Bool), k ≤ s.size ∧ i = .int .i64 k ∧ c = .bool b ∧ v = .slice (some ⟨w.heap.size, 0, none⟩) cs.length s.size ∧ cs.length ≤ k ∧
      wr.ownsRow w.heap.size 5 1 (.slice (some ⟨w.heap.size, 0, none⟩) cs.length s.size) cs.length (cs.map (Value.int .u8)) ∧ Below w.heap.size w wr ∧ w.heap.size < wr.heap.size ∧
      Hid (cs ++ Esc.dec ((toI s).drop k) = Esc.dec (toI s)) ∧ Hid ((b || Esc.hasE ((toI s).drop k)) = Esc.hasE (toI s)))
    (fun _ _ i _ => s.size - (intOf i).toNat)
  case atStart => exact ⟨0, [], false, Nat.zero_le _, rfl, rfl, rfl, Nat.le_refl _, hown1, (Below.refl _ _).grown hgrow1 (Nat.le_refl _) (by simp), hsz1, (by rfl : _ = _), (by rfl : _ = _)⟩
  case round =>
    obtain ⟨k, cs, b, hk, rfl, rfl, rfl, hck, hown, hbel, hsz, hdec, hhas⟩ := hrel
    clear hown1 hgrow1 hsz1
    by_cases hlt : k < s.size
    · by_cases hp : (s[k].toNat : Int) = 37
      · by_cases h2 : k + 2 < s.size
        · have Hp : Hid ((s[k].toNat : Int) = 37) := hp
          have hp' : ((s[k].toNat : Int) == 37) = true := by simpa using hp
          clear hp
          have b1 := byte_bd s[k+1]
          have b2 := byte_bd s[k+2]
          have v1 := zv_bd (s[k+1].toNat : Int)
          have v2 := zv_bd (s[k+2].toNat : Int)
          cases hx : zok (s[k+1].toNat : Int)
          · go_wp2_with (first | (go_at_call 22; refine (zhex_any _ (by omega) (by omega) _).mono ?_; rintro e w' ⟨rfl, rfl⟩) | (at_builtin; refine wpList_append_fits _ rfl (.tmp 58) (.tmp 62) 25 rfl w.heap.size 5 i0 1 Trym.underlying25 hi hz1 w.heap.size cs.length s.size _ rfl (hown.alloc _) ⟨wr.heap.size, 0, none⟩ 1 1 [.int .u8 (s[k].toNat : Int)] rfl rfl (cell_one_new _ _ _) (by simp [Value.oneCell']) (by omega) ?_; intro w2 hown2 hgrow2))
            have R := own_step hbel hsz hown2 hgrow2
            have P := once_one s k cs b hlt (fun _ h => by rw [hx] at h; simp at h) hdec hhas
            go_roundw
            case rel => exact ⟨k + 1, cs ++ [(s[k].toNat : Int)], b, by omega, by go_num, rfl, by simp, by simp; omega, R.1, R.2.1, R.2.2, P.1, P.2⟩
            case measure => simp [intOf]; omega
          · cases hy : zok (s[k+2].toNat : Int)
            · go_wp2_with (first | (go_at_call 22; refine (zhex_any _ (by omega) (by omega) _).mono ?_; rintro e w' ⟨rfl, rfl⟩) | (at_builtin; refine wpList_append_fits _ rfl (.tmp 58) (.tmp 62) 25 rfl w.heap.size 5 i0 1 Trym.underlying25 hi hz1 w.heap.size cs.length s.size _ rfl (hown.alloc _) ⟨wr.heap.size, 0, none⟩ 1 1 [.int .u8 (s[k].toNat : Int)] rfl rfl (cell_one_new _ _ _) (by simp [Value.oneCell']) (by omega) ?_; intro w2 hown2 hgrow2))
              have R := own_step hbel hsz hown2 hgrow2
              have P := once_one s k cs b hlt (fun _ h => by rw [hy] at h; simp at h) hdec hhas
              go_roundw
              case rel => exact ⟨k + 1, cs ++ [(s[k].toNat : Int)], b, by omega, by go_num, rfl, by simp, by simp; omega, R.1, R.2.1, R.2.2, P.1, P.2⟩
              case measure => simp [intOf]; omega
            · go_wp2_with (first | (go_at_call 22; refine (zhex_any _ (by omega) (by omega) _).mono ?_; rintro e w' ⟨rfl, rfl⟩) | (at_builtin; refine wpList_append_fits _ rfl (.tmp 49) (.tmp 54) 25 rfl w.heap.size 5 i0 1 Trym.underlying25 hi hz1 w.heap.size cs.length s.size _ rfl (hown.alloc _) ⟨wr.heap.size, 0, none⟩ 1 1 [.int .u8 (bits BinOp.or IntKind.u8 (zv (s[k+1].toNat : Int) * 16) (zv (s[k+2].toNat : Int)))] rfl rfl (cell_one_new _ _ _) (by simp [Value.oneCell']) (by omega) ?_; intro w2 hown2 hgrow2))
              have R := own_step hbel hsz hown2 hgrow2
              have P := once_three s k cs b h2 Hp.out hx hy hdec hhas
              go_roundw
              case rel => exact ⟨k + 3, cs ++ [bits BinOp.or IntKind.u8 (zv (s[k+1].toNat : Int) * 16) (zv (s[k+2].toNat : Int))], true, by omega, by go_num, rfl, by simp, by simp; omega, R.1, R.2.1, R.2.2, P.1, P.2⟩
              case measure => simp [intOf]; omega
        · have Hp : Hid ((s[k].toNat : Int) = 37) := hp
          have hp' : ((s[k].toNat : Int) == 37) = true := by simpa using hp
          clear hp
          go_wp2_with (first | (go_at_call 22; refine (zhex_any _ (by omega) (by omega) _).mono ?_; rintro e w' ⟨rfl, rfl⟩) | (at_builtin; refine wpList_append_fits _ rfl (.tmp 58) (.tmp 62) 25 rfl w.heap.size 5 i0 1 Trym.underlying25 hi hz1 w.heap.size cs.length s.size _ rfl (hown.alloc _) ⟨wr.heap.size, 0, none⟩ 1 1 [.int .u8 (s[k].toNat : Int)] rfl rfl (cell_one_new _ _ _) (by simp [Value.oneCell']) (by omega) ?_; intro w2 hown2 hgrow2))
          have R := own_step hbel hsz hown2 hgrow2
          have P := once_one s k cs b hlt (fun h _ => h2 h) hdec hhas
          go_roundw
          case rel => exact ⟨k + 1, cs ++ [(s[k].toNat : Int)], b, by omega, by go_num, rfl, by simp, by simp; omega, R.1, R.2.1, R.2.2, P.1, P.2⟩
          case measure => simp [intOf]; omega
      · have hp' : ((s[k].toNat : Int) == 37) = false := by simpa using hp
        have P := once_one s k cs b hlt (fun _ h => hp h.1) hdec hhas
        clear hp
        go_wp2_with (first | (go_at_call 22; refine (zhex_any _ (by omega) (by omega) _).mono ?_; rintro e w' ⟨rfl, rfl⟩) | (at_builtin; refine wpList_append_fits _ rfl (.tmp 58) (.tmp 62) 25 rfl w.heap.size 5 i0 1 Trym.underlying25 hi hz1 w.heap.size cs.length s.size _ rfl (hown.alloc _) ⟨wr.heap.size, 0, none⟩ 1 1 [.int .u8 (s[k].toNat : Int)] rfl rfl (cell_one_new _ _ _) (by simp [Value.oneCell']) (by omega) ?_; intro w2 hown2 hgrow2))
        have R := own_step hbel hsz hown2 hgrow2
        go_roundw
        case rel => exact ⟨k + 1, cs ++ [(s[k].toNat : Int)], b, by omega, by go_num, rfl, by simp, by simp; omega, R.1, R.2.1, R.2.2, P.1, P.2⟩
        case measure => simp [intOf]; omega
    · have hstr := own_string hown
      have F1 : Hid (cs = Esc.dec (toI s)) := by
        have := hdec.out
        rw [List.drop_of_length_le (by rw [toI_length]; omega)] at this
        simpa [Esc.dec, Hid] using this
      have F2 : Hid (b = Esc.hasE (toI s)) := by
        have := hhas.out
        rw [List.drop_of_length_le (by rw [toI_length]; omega)] at this
        simpa [Esc.hasE, Hid] using this
      clear hdec hhas
      go_wp2
      go_ret2
      exact ⟨ret_sb (by rw [F1.out]) F2.out, hbel⟩

end Go.Proofs.Qxb6603171aMods
