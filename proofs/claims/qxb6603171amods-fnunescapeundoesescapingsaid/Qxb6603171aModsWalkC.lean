/-
  THE THIRD LAW's WALK: escaping, then unescaping.
-/
import Derived.Test.Qxb6603171aModsUnesc
namespace Go.Proofs.Qxb6603171aMods
open Go.RowKit

theorem and15_fin : ∀ a : Fin 256, bits BinOp.and IntKind.u8 ((a.val : Nat) : Int) 15 = ((a.val : Nat) : Int) % 16 := by decide +kernel
theorem bits_and15 (a : Int) (ha : 0 ≤ a ∧ a < 256) : bits BinOp.and IntKind.u8 a 15 = a % 16 := by
  have := and15_fin ⟨a.toNat, by omega⟩
  simp only [Int.toNat_of_nonneg ha.1] at this
  exact this

theorem hex_index (d : Int) (hd : 0 ≤ d ∧ d < 16) (w : World) :
    (Instr.index 9 (.string { data := #[48, 49, 50, 51, 52, 53, 54, 55, 56, 57, 65, 66, 67, 68, 69, 70] }) (.int .u8 d)).run Trym.prog w = .ok (.int .u8 (Esc.upH d)) w := by
  have : d = 0 ∨ d = 1 ∨ d = 2 ∨ d = 3 ∨ d = 4 ∨ d = 5 ∨ d = 6 ∨ d = 7 ∨ d = 8 ∨ d = 9 ∨ d = 10 ∨ d = 11 ∨ d = 12 ∨ d = 13 ∨ d = 14 ∨ d = 15 := by omega
  rcases this with h | h | h | h | h | h | h | h | h | h | h | h | h | h | h | h
  all_goals
    clear hd
    subst h
    show _ = _
    kernel_rfl

theorem esc_snoc (s : ByteArray) (k : Nat) (h : k < s.size) (L : List Int) (HL : Hid (L = Esc.esc ((toI s).take k))) : Hid (L ++ Esc.esc1 (s[k].toNat : Int) = Esc.esc ((toI s).take (k + 1))) := by
  have e : (toI s).take (k + 1) = (toI s).take k ++ [(s[k].toNat : Int)] := by
    rw [List.take_succ_eq_append_getElem (by rw [toI_length]; exact h), toI_get s k h]
  rw [e, Esc.esc_append, ← HL.out]
  simp [Hid, Esc.esc]

theorem own_app {w wr w2 wx : World} {u v : Value} {L M : List Int} {n : Nat} (hn : n = (L ++ M).length) (hbel : Below w.heap.size w wr) (hx : Below w.heap.size wr wx)
    (hown : wr.ownsRow w.heap.size 5 1 u L.length (L.map (Value.int .u8)))
    (hown2 : w2.ownsRow w.heap.size 5 1 v n (L.map (Value.int .u8) ++ M.map (Value.int .u8))) (hg : wx.grownBy w2 u.ownBlock) :
    w2.ownsRow w.heap.size 5 1 v (L ++ M).length ((L ++ M).map (Value.int .u8)) ∧ Below w.heap.size w w2 := by
  subst hn
  refine ⟨by rw [List.map_append]; exact hown2, (hbel.trans hx).grown hg (Nat.le_trans hbel.size hx.size) (fun k hk => (hown.lt k hk).1)⟩

theorem ret_str_own {w : World} {base : Nat} {v : Value} {cs : List Int} (h : w.ownsRow base 5 1 v cs.length (cs.map (Value.int .u8))) :
    (convert 25 9 v).run Trym.prog w = .ok (.string (strOfNums cs)) w := by
  rcases h.2 with ⟨h', hn⟩ | ⟨g, cap, cur, h', _⟩
  · have e : cs = [] := List.length_eq_zero_iff.1 hn
    subst h'; subst e
    exact run_convert_bytes_nil w 25 5 Trym.underlying25 Trym.underlying5 0 0 9 Trym.underlying9
  · subst h'
    exact own_string h

set_option maxHeartbeats 4000000 in
theorem appEsc_nil (s : ByteArray) (hs : s.size ≤ 65536) (w : World) :
    Calls Trym.prog 23 #[.slice none 0 0, .string s] w fun e w' => ∃ v, e = .returned v ∧ w'.ownsRow w.heap.size 5 1 v (Esc.esc (toI s)).length ((Esc.esc (toI s)).map (Value.int .u8)) ∧ Below w.heap.size w w' := by
  obtain ⟨i0, hi, hz0, hz1, hz2⟩ := info_parts Trym.info5
  go_enter Trym.func23, Trym.ntmps23
  go_wp2_with fail
  go_loopw [0, 5] (fun v i wr => ∃ (k : Nat) (L : List Int), k ≤ s.size ∧ i = .int .i64 k ∧ L.length ≤ 3 * k ∧ Hid (L = Esc.esc ((toI s).take k)) ∧
      wr.ownsRow w.heap.size 5 1 v L.length (L.map (Value.int .u8)) ∧ Below w.heap.size w wr)
    (fun _ i _ => s.size - (intOf i).toNat)
  case atStart => exact ⟨0, [], Nat.zero_le _, rfl, by simp, (by rfl : _ = _), World.ownsRow_nil _ _ _ _, Below.refl _ _⟩
  case round =>
    obtain ⟨k, L, hk, rfl, hL, HL, hown, hbel⟩ := hrel
    have hsz := hbel.size
    by_cases hlt : k < s.size
    · have bk := byte_bd s[k]
      have HS := esc_snoc s k hlt L HL
      cases hne : Esc.needs (s[k].toNat : Int)
      · have : ¬ (s[k].toNat : Int) ≤ 32 ∧ ¬ 127 ≤ (s[k].toNat : Int) ∧ ((s[k].toNat : Int) == 35) = false ∧ ((s[k].toNat : Int) == 37) = false := by
          simp [Esc.needs] at hne; simp; omega
        obtain ⟨a1, a2, a3, a4⟩ := this
        have e1 : Esc.esc1 (s[k].toNat : Int) = [(s[k].toNat : Int)] := by simp [Esc.esc1, hne]
        rw [e1] at HS
        clear e1 hne
        go_wp2_with (first | (at_builtin; refine wpList_append_own _ rfl (.tmp 39) (.tmp 41) 25 rfl w.heap.size 5 i0 (.int .u8 0) 1 1 Trym.underlying25 hi hz0 hz1 hz2 rfl (by decide) _ L.length _ rfl (hown.alloc _) ⟨wr.heap.size, 0, none⟩ 1 1 [.int .u8 (s[k].toNat : Int)] rfl rfl (cell_one_new _ _ _) (by simp [Value.oneCell']) (by unfold maxLen; omega) (by omega) (by simp; omega) ?_; intro v2 w2 hown2 hgrow2 _))
        obtain ⟨m1, m2⟩ := own_app (M := [(s[k].toNat : Int)]) (by simp) hbel ((Below.refl _ _).alloc (by omega) _) hown hown2 hgrow2
        go_roundw
        case rel => exact ⟨k + 1, L ++ [(s[k].toNat : Int)], by omega, by go_num, by simp; omega, HS, m1, m2⟩
        case measure => simp [intOf]; omega
      · have e1 : Esc.esc1 (s[k].toNat : Int) = [37, Esc.upH ((s[k].toNat : Int) / 16), Esc.upH ((s[k].toNat : Int) % 16)] := by simp [Esc.esc1, hne]
        rw [e1] at HS
        have hcase : (s[k].toNat : Int) ≤ 32 ∨ (¬ (s[k].toNat : Int) ≤ 32 ∧ 127 ≤ (s[k].toNat : Int)) ∨ (¬ (s[k].toNat : Int) ≤ 32 ∧ ¬ 127 ≤ (s[k].toNat : Int) ∧ ((s[k].toNat : Int) == 35) = true) ∨ (¬ (s[k].toNat : Int) ≤ 32 ∧ ¬ 127 ≤ (s[k].toNat : Int) ∧ ((s[k].toNat : Int) == 35) = false ∧ ((s[k].toNat : Int) == 37) = true) := by
          simp [Esc.needs] at hne; simp; omega
        clear e1 hne
        have m1 := bits_and15 (s[k].toNat : Int) bk
        have x1 := hex_index ((s[k].toNat : Int) / 16) (by omega)
        have x2 := hex_index ((s[k].toNat : Int) % 16) (by omega)
        rcases hcase with hc1 | ⟨hc1, hc2⟩ | ⟨hc1, hc2, hc3⟩ | ⟨hc1, hc2, hc3, hc4⟩
        all_goals
          go_wp2_with fail
          go_region_held3 (fun _ => True) (trivial) ((refine step_append_lies _ ?_ (.tmp 30) (.tmp 37) 25 ?_ w.heap.size 5 i0 (.int .u8 0) 1 1 Trym.underlying25 hi hz0 hz1 hz2 rfl Nat.one_pos u0 L.length (L.map (Value.int .u8)) ?_ ?_ ⟨wr.heap.size, 0, none⟩ 3 3 [.int .u8 37, .int .u8 (Esc.upH (((s[k]'hlt).toNat : Int) / 16)), .int .u8 (Esc.upH (((s[k]'hlt).toNat : Int) % 16))] ?_ ?_ ?_ ?_ (Nat.succ_pos _) ?_ ?_ ?_ (wr.heap.size + 1) ?_ ?_; rfl; rfl; rfl; exact (hown.alloc _).drew; rfl; rfl; exact World.news_of_block (cs := #[.int .u8 37, .int .u8 (Esc.upH (((s[k]'hlt).toNat : Int) / 16)), .int .u8 (Esc.upH (((s[k]'hlt).toNat : Int) % 16))]) (t := 5) (fr := (0, 0)) (heap_alloc_new wr _); simp [Value.oneCell']; (unfold maxLen; omega); omega; (simp; omega); simp; intro g2 cap2 w2 hown2 hgrow2 hat2 hlt2))
        all_goals
          obtain ⟨q1, q2⟩ := own_app (M := [37, Esc.upH ((s[k].toNat : Int) / 16), Esc.upH ((s[k].toNat : Int) % 16)]) (by simp) hbel (((Below.refl _ _).alloc (by omega) _).drew) hown hown2 hgrow2
          go_wp2
          go_roundw
          case rel => exact ⟨k + 1, _, by omega, by go_num, by simp; omega, HS, q1, q2⟩
          case measure => simp [intOf]; omega
    · have HF : Hid (L = Esc.esc (toI s)) := by
        rw [HL.out, List.take_of_length_le (by rw [toI_length]; omega)]; exact rfl
      clear HL
      go_wp2
      refine bodyPost_ret (v := u0) (by simp [results, Trym.results23, go_sem]) rfl ⟨u0, rfl, ?_, hbel⟩
      rw [← HF.out]
      exact hown

end Go.Proofs.Qxb6603171aMods
