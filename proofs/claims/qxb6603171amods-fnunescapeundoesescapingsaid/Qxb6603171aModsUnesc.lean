/-
  unescape: one pass with a look back.
-/
import Derived.Test.Qxb6603171aModsLaws
import Derived.Test.Qxb6603171aModsFully
namespace Go.Proofs.Qxb6603171aMods
open Go.RowKit

theorem idx_none (s : ByteArray) (h : Lib.indexByte s.data.toList 37 = -1) (w : World) :
    Calls Trym.prog 25 #[.string s, .int .u8 37] w fun e w' => e = .returned (.int .i64 (-1)) ∧ w = w' := by
  refine (stIndexByte s 37 w).mono fun e w' ⟨a, b⟩ => ⟨?_, b.symm⟩
  rw [a, show (37 : Int).toNat.toUInt8 = 37 from rfl, h]
theorem idx_at (s : ByteArray) (k : Nat) (h : Lib.indexByte s.data.toList 37 = (k : Int)) (w : World) :
    Calls Trym.prog 25 #[.string s, .int .u8 37] w fun e w' => e = .returned (.int .i64 (k : Int)) ∧ w = w' := by
  refine (stIndexByte s 37 w).mono fun e w' ⟨a, b⟩ => ⟨?_, b.symm⟩
  rw [a, show (37 : Int).toNat.toUInt8 = 37 from rfl, h]
theorem hexDigit_w (n : Int) (h0 : 0 ≤ n) (h1 : n < 256) (w : World) :
    Calls Trym.prog 26 #[.int .u8 n] w fun e w' => e = .returned (.int .u8 (Esc.hexI n)) ∧ w = w' :=
  (hexDigit_any n h0 h1 w).mono fun _ _ ⟨a, b⟩ => ⟨a, b.symm⟩

set_option maxHeartbeats 1000000 in
theorem unescape_none (s : ByteArray) (h : Lib.indexByte s.data.toList 37 = -1) (hn : (37 : Int) ∉ toI s) (w : World) :
    Calls Trym.prog 21 #[.string s] w fun e w' => e = .returned (.string (strOfNums (Esc.nf (toI s)))) ∧ Below w.heap.size w w' := by
  have F : Hid (s = strOfNums (Esc.nf (toI s))) := by
    rw [Esc.nf_plain (Esc.hasE_no hn), str_toI]; exact rfl
  have H : Hid (Lib.indexByte s.data.toList 37 = -1) := h
  clear h hn
  go_enter Trym.func21, Trym.ntmps21
  go_wp2_with (go_at_call 25; refine (idx_none s H.out _).mono ?_; rintro e w' ⟨rfl, rfl⟩)
  go_ret
  exact ⟨ret_str F.out, Below.refl _ _⟩

theorem toI_extract (s : ByteArray) (k : Nat) : toI (s.extract 0 k) = (toI s).take k := by
  unfold toI
  rw [Lib.extract_data, List.map_take]
  simp

theorem wrap_of {n m : Int} (h : n = m) (hb : -1000000000 ≤ m ∧ m ≤ 1000000000) : IntKind.i64.wrap n = m := by
  subst h; rw [IntKind.wrap_i64]; omega

theorem wrap8_of {n : Int} (h0 : 0 ≤ n) (h1 : n < 256) : IntKind.u8.wrap n = n := by
  simp [IntKind.wrap, IntKind.bits, IntKind.signed]; omega

theorem cell_ad {w : World} {a : Addr} {v : Value} {o : Obj} (h : w.cell? a = some v) : (w.alloc o).drew.cell? a = some v :=
  (((Below.refl w.heap.size w).alloc (Nat.le_refl _) o).drew.cell (World.block_lt_of_cell? w a h)).trans h

theorem exit_rel {s : ByteArray} {w wr : World} {k n : Nat} {c : Int} {st : List Int} (hn : n = st.length + 1) (hnk : n ≤ k + 1)
    (hown : wr.ownsRow w.heap.size 5 1 (.slice (some ⟨w.heap.size, 0, none⟩) n s.size) n ((c :: st).reverse.map (Value.int .u8))) (hbel : Below w.heap.size w wr) (hsz : w.heap.size < wr.heap.size)
    (hpush : Hid (Esc.push c st = Esc.run [] ((toI s).take (k + 1)))) (hbd : Hid (∀ x ∈ c :: st, 0 ≤ x ∧ x < 256)) (hne : Esc.push c st = c :: st) :
    ∃ L : List Int, n = L.length ∧ L.length ≤ k + 1 ∧ wr.ownsRow w.heap.size 5 1 (.slice (some ⟨w.heap.size, 0, none⟩) L.length s.size) L.length (L.map (Value.int .u8)) ∧ Below w.heap.size w wr ∧ w.heap.size < wr.heap.size ∧
      Hid (L = (Esc.run [] ((toI s).take (k + 1))).reverse) ∧ Hid (∀ x ∈ L, 0 ≤ x ∧ x < 256) := by
  have e : n = ((c :: st).reverse).length := by simp [hn]
  refine ⟨(c :: st).reverse, e, by omega, ?_, hbel, hsz, ?_, ?_⟩
  · rw [e] at hown; exact hown
  · rw [← hpush.out, hne]; exact rfl
  · intro x hx; exact hbd.out x (List.mem_reverse.1 hx)

theorem red_rel {s : ByteArray} {w wr w5 : World} {r : Nat} {c x p : Int} {rest : List Int} {o : Obj} {T : List Int} (hp : p = 37) (hx : ¬ Esc.hexI x = 16) (hc : ¬ Esc.hexI c = 16)
    (hbel : Below w.heap.size w wr) (hsz : w.heap.size < wr.heap.size) (hpush : Hid (Esc.push c (x :: p :: rest) = T)) (hbd : Hid (∀ y ∈ c :: x :: p :: rest, 0 ≤ y ∧ y < 256))
    (hown : w5.ownsRow w.heap.size 5 1 (.slice (some ⟨w.heap.size, 0, none⟩) (r + 1) s.size) (r + 1) (rest.reverse.map (Value.int .u8) ++ [.int .u8 (bits BinOp.or IntKind.u8 (Esc.hexI x * 16) (Esc.hexI c))]))
    (hg : ((wr.alloc o).drew).grownBy w5 (some w.heap.size)) :
    w5.ownsRow w.heap.size 5 1 (.slice (some ⟨w.heap.size, 0, none⟩) (r + 1) s.size) (r + 1) (((bits BinOp.or IntKind.u8 (Esc.hexI x * 16) (Esc.hexI c)) :: rest).reverse.map (Value.int .u8)) ∧ Below w.heap.size w w5 ∧ w.heap.size < w5.heap.size ∧
      Hid (Esc.push (bits BinOp.or IntKind.u8 (Esc.hexI x * 16) (Esc.hexI c)) rest = T) ∧ Hid (∀ y ∈ (bits BinOp.or IntKind.u8 (Esc.hexI x * 16) (Esc.hexI c)) :: rest, 0 ≤ y ∧ y < 256) := by
  have vx := Esc.hexI_bd x
  have vc := Esc.hexI_bd c
  have hs1 : (wr.alloc o).drew.heap.size = wr.heap.size + 1 := by simp
  refine ⟨by simpa using hown, ((hbel.alloc (by omega) o).drew).grown hg (by omega) (by intro k h; simp at h; omega), ?_, ?_, ?_⟩
  · have := hg.size
    omega
  · subst hp
    rw [bits_nib _ _ (by omega) (by omega), ← hpush.out, Esc.push_esc hx hc]
    exact rfl
  · intro y hy
    rw [bits_nib _ _ (by omega) (by omega)] at hy
    rcases List.mem_cons.1 hy with rfl | hy
    · omega
    · exact hbd.out y (by simp [hy])

set_option maxHeartbeats 4000000 in
theorem unescape_at (s : ByteArray) (k0 : Nat) (hk0 : k0 < s.size) (h : Lib.indexByte s.data.toList 37 = (k0 : Int)) (hn : (37 : Int) ∉ (toI s).take k0) (hs : s.size ≤ 4194304) (w : World) :
    Calls Trym.prog 21 #[.string s] w fun e w' => e = .returned (.string (strOfNums (Esc.nf (toI s)))) ∧ Below w.heap.size w w' := by
  have H : Hid (Lib.indexByte s.data.toList 37 = (k0 : Int)) := h
  have HN : Hid ((37 : Int) ∉ (toI s).take k0) := hn
  clear h hn
  obtain ⟨i0, hi, hz0, hz1, hz2⟩ := info_parts Trym.info5
  have hsz5 : (Trym.prog.info? 5).map (·.size) = some 1 := by rw [hi]; simp [hz1]
  go_enter Trym.func21, Trym.ntmps21
  go_wp2_with (first | (go_at_call 25; refine (idx_at s k0 H.out _).mono ?_; rintro e w' ⟨rfl, rfl⟩) | (at_make; refine wpList_make_lc _ rfl _ _ 25 rfl i0 Trym.underlying25 hi hz0 hz1 hz2 _ _ k0 s.size rfl rfl (by omega) (by omega) ?_; intro w1 xs1 hown1 hgrow1) | (refine wpList_copy_str _ rfl (.tmp 15) (.tmp 18) 25 9 rfl Trym.underlying25 hsz5 w.heap.size w.heap.size k0 s.size _ (s.extract 0 k0) rfl rfl (by simp; omega) hown1 ?_; intro w2 hown2 hgrow2; go_simp))
  have hb2 : Below w.heap.size w w2 := ((Below.refl _ _).grown hgrow1 (Nat.le_refl _) (by simp)).grown hgrow2 hgrow1.size (by intro k h; simp at h; omega)
  have hsz2 : w.heap.size < w2.heap.size := (hown2.lt w.heap.size rfl).2
  have ht2 : (toI (s.extract 0 k0)).length = k0 := by rw [toI_length]; simp; omega
  have Hstart : Hid (toI (s.extract 0 k0) = (Esc.run [] ((toI s).take k0)).reverse) := by
    rw [Esc.run_no HN.out, toI_extract]; simp [Hid]
  have Hbd : Hid (∀ c ∈ toI (s.extract 0 k0), 0 ≤ c ∧ c < 256) := toI_bd _
  generalize toI (s.extract 0 k0) = cs0 at hown2 ht2 Hstart Hbd
  subst ht2
  clear hown1 hgrow1 hgrow2 H HN
  go_loopw [3, 4] (fun i v wr => ∃ (k : Nat) (cs : List Int), k ≤ s.size ∧ i = .int .i64 k ∧ v = .slice (some ⟨w.heap.size, 0, none⟩) cs.length s.size ∧ cs.length ≤ k ∧
      wr.ownsRow w.heap.size 5 1 (.slice (some ⟨w.heap.size, 0, none⟩) cs.length s.size) cs.length (cs.map (Value.int .u8)) ∧ Below w.heap.size w wr ∧ w.heap.size < wr.heap.size ∧
      Hid (cs = (Esc.run [] ((toI s).take k)).reverse) ∧ Hid (∀ c ∈ cs, 0 ≤ c ∧ c < 256))
    (fun i _ _ => s.size - (intOf i).toNat)
  case atStart => exact ⟨cs0.length, cs0, by omega, rfl, rfl, Nat.le_refl _, hown2, hb2, hsz2, Hstart, Hbd⟩
  case round =>
    obtain ⟨k, cs, hk, rfl, rfl, hck, hown, hbel, hsz, hrun, hbd⟩ := hrel
    clear hown2 hb2 hsz2 Hstart Hbd
    by_cases hlt : k < s.size
    · have bk := byte_bd s[k]
      go_wp2_with (first | (at_builtin; refine wpList_append_fits _ rfl (.tmp 26) (.tmp 30) 25 rfl w.heap.size 5 i0 1 Trym.underlying25 hi hz1 w.heap.size cs.length s.size _ rfl (hown.alloc _) ⟨wr.heap.size, 0, none⟩ 1 1 [.int .u8 (s[k].toNat : Int)] rfl rfl (cell_one_new _ _ _) (by simp [Value.oneCell']) (by omega) ?_; intro w3 hown3 hgrow3))
      have R0 := own_step hbel hsz hown3 hgrow3
      have hown4 : w3.ownsRow w.heap.size 5 1 (.slice (some ⟨w.heap.size, 0, none⟩) (cs.length + 1) s.size) (cs.length + 1) (((s[k].toNat : Int) :: cs.reverse).reverse.map (Value.int .u8)) := by simpa using R0.1
      have HT : Hid (Esc.push (s[k].toNat : Int) cs.reverse = Esc.run [] ((toI s).take (k + 1))) := by
        have e : (toI s).take (k + 1) = (toI s).take k ++ [(s[k].toNat : Int)] := by
          rw [List.take_succ_eq_append_getElem (by rw [toI_length]; exact hlt), toI_get s k hlt]
        rw [e, Esc.run_snoc, hrun.out]; simp [Hid]
      have HB : Hid (∀ c ∈ (s[k].toNat : Int) :: cs.reverse, 0 ≤ c ∧ c < 256) := by
        intro c hc
        simp only [List.mem_cons, List.mem_reverse] at hc
        rcases hc with rfl | hc
        · exact bk
        · exact hbd.out c hc
      obtain ⟨_, hb4, hsz4⟩ := R0
      have HC : Hid (cs.length + 1 = cs.reverse.length + 1) := by simp [Hid]
      generalize (s[k].toNat : Int) = c0 at hown4 HT HB
      generalize cs.reverse = st0 at hown4 HT HB HC
      clear hown3 hgrow3 hown hbel hsz hrun hbd
      go_loopw [4, 5] (fun v nn wq => ∃ (n : Nat) (c : Int) (st : List Int), v = .slice (some ⟨w.heap.size, 0, none⟩) n s.size ∧ nn = .int .i64 n ∧ n ≤ k + 1 ∧ Hid (n = st.length + 1) ∧
          wq.ownsRow w.heap.size 5 1 (.slice (some ⟨w.heap.size, 0, none⟩) n s.size) n ((c :: st).reverse.map (Value.int .u8)) ∧ Below w.heap.size w wq ∧ w.heap.size < wq.heap.size ∧
          Hid (Esc.push c st = Esc.run [] ((toI s).take (k + 1))) ∧ Hid (∀ x ∈ c :: st, 0 ≤ x ∧ x < 256))
        (fun _ nn _ => (intOf nn).toNat)
      case atStart => exact ⟨cs.length + 1, c0, st0, rfl, by go_num, by omega, HC, hown4, hb4, hsz4, HT, HB⟩
      case round =>
        obtain ⟨n, c, st, rfl, rfl, hnk, hn, hownq, hbelq, hszq, hpush, hbdq⟩ := hrel
        clear hown4 HT HB HC hb4 hsz4
        by_cases hn3 : n < 3
        · have HNE : Hid (Esc.push c st = c :: st) := by
            have := hn.out
            match st, this with
            | [], _ => exact rfl
            | [_], _ => exact rfl
            | x :: p :: rest, h => simp at h; omega
          go_wp2_with (first | (go_at_call 26; refine (hexDigit_w _ (by omega) (by omega) _).mono ?_; rintro e w' ⟨rfl, rfl⟩))
          obtain ⟨L, hL1, hL2, hL3, hL4, hL5, hL6, hL7⟩ := exit_rel hn.out hnk hownq hbelq hszq hpush hbdq HNE.out
          go_roundw
          case rel => exact ⟨k + 1, L, by omega, by go_num, by rw [← hL1], hL2, hL3, hL4, hL5, hL6, hL7⟩
          case measure => simp [intOf]; omega
        · obtain ⟨r, rfl⟩ : ∃ r, n = r + 3 := ⟨n - 3, by omega⟩
          obtain ⟨x, p, rest, rfl⟩ : ∃ x p rest, st = x :: p :: rest := by
            match st, hn with
            | [], hn => have := hn.out; simp at this
            | [_], hn => have := hn.out; simp at this
            | x :: p :: rest, _ => exact ⟨x, p, rest, rfl⟩
          have hr : r = rest.length := by have := hn.out; simp at this; exact this
          have cp : wr.cell? ⟨w.heap.size, r, none⟩ = some (.int .u8 p) := by rw [hownq.cellAt r (by omega), hr]; simp
          have cx : wr.cell? ⟨w.heap.size, r + 1, none⟩ = some (.int .u8 x) := by rw [hownq.cellAt (r + 1) (by omega), hr]; simp
          have cc : wr.cell? ⟨w.heap.size, r + 2, none⟩ = some (.int .u8 c) := by rw [hownq.cellAt (r + 2) (by omega), hr]; simp
          have bp := hbdq.out p (by simp)
          have bx := hbdq.out x (by simp)
          have bc := hbdq.out c (by simp)
          have Hr : Hid (r = rest.length) := hr
          clear hr
          by_cases hp : p = 37
          · have hp' : (p == 37) = true := by simpa using hp
            have Hp : Hid (p = 37) := hp
            clear hp
            by_cases hx : Esc.hexI x = 16
            · have HNE : Hid (Esc.push c (x :: p :: rest) = c :: x :: p :: rest) := by
                have : Esc.isE p x c = false := by simp [Esc.isE, hx]
                simp [Hid, Esc.push, this]
              have hx' : (Esc.hexI x != 16) = false := by simp [hx]
              clear hx
              go_wp2_with (first | (go_at_call 26; refine (hexDigit_w _ (by omega) (by omega) _).mono ?_; rintro e w' ⟨rfl, rfl⟩))
              obtain ⟨L, hL1, hL2, hL3, hL4, hL5, hL6, hL7⟩ := exit_rel hn.out hnk hownq hbelq hszq hpush hbdq HNE.out
              go_roundw
              case rel => exact ⟨k + 1, L, by omega, by go_num, by rw [← hL1], hL2, hL3, hL4, hL5, hL6, hL7⟩
              case measure => simp [intOf]; omega
            · have hx' : (Esc.hexI x != 16) = true := by simp [hx]
              by_cases hc : Esc.hexI c = 16
              · have HNE : Hid (Esc.push c (x :: p :: rest) = c :: x :: p :: rest) := by
                  have : Esc.isE p x c = false := by simp [Esc.isE, hc]
                  simp [Hid, Esc.push, this]
                have hc' : (Esc.hexI c != 16) = false := by simp [hc]
                clear hc
                go_wp2_with (first | (go_at_call 26; refine (hexDigit_w _ (by omega) (by omega) _).mono ?_; rintro e w' ⟨rfl, rfl⟩))
                obtain ⟨L, hL1, hL2, hL3, hL4, hL5, hL6, hL7⟩ := exit_rel hn.out hnk hownq hbelq hszq hpush hbdq HNE.out
                go_roundw
                case rel => exact ⟨k + 1, L, by omega, by go_num, by rw [← hL1], hL2, hL3, hL4, hL5, hL6, hL7⟩
                case measure => simp [intOf]; omega
              · have hc' : (Esc.hexI c != 16) = true := by simp [hc]
                have vx := Esc.hexI_bd x
                have vc := Esc.hexI_bd c
                have i1 : (0 : Int) ≤ (r : Int) := by omega
                have i2 : (r : Int) ≤ (s.size : Int) := by omega
                have hownR := own_take hownq r (by omega)
                have HR : Hid (((c :: x :: p :: rest).reverse.map (Value.int .u8)).take r = rest.reverse.map (Value.int .u8)) := by
                  rw [Hr.out]; simp [Hid]
                rw [HR.out] at hownR
                have n1 := World.new_ne wr _ cx
                have n2 := World.new_ne wr _ cc
                go_wp2_with (first | (go_at_call 26; refine (hexDigit_w _ (by omega) (by omega) _).mono ?_; rintro e w' ⟨rfl, rfl⟩))
                have q0 : IntKind.i64.wrap ((r : Int) + 3 - 3) = (r : Int) := wrap_of (by omega) (by omega)
                have q1 : IntKind.i64.wrap ((r : Int) + 3 - 2) = (r : Int) + 1 := wrap_of (by omega) (by omega)
                have q2 : IntKind.i64.wrap ((r : Int) + 3 - 1) = (r : Int) + 2 := wrap_of (by omega) (by omega)
                have q3 : IntKind.i64.wrap (r : Int) = (r : Int) := wrap_of (by omega) (by omega)
                have q4 : ((r : Int) + 2).toNat = r + 2 := by omega
                have q5 : IntKind.u8.wrap (Esc.hexI x * 16) = Esc.hexI x * 16 := wrap8_of (by omega) (by omega)
                have j1 : (0 : Int) ≤ (r : Int) + 1 := by omega
                have j2 : (r : Int) + 1 < (r : Int) + 3 := by omega
                have j3 : (0 : Int) ≤ (r : Int) + 2 := by omega
                have j4 : (r : Int) + 2 < (r : Int) + 3 := by omega
                go_region_held3 (fun w' => w'.cell? ⟨w.heap.size, r + 1, none⟩ = some (.int .u8 x) ∧ w'.cell? ⟨w.heap.size, r + 2, none⟩ = some (.int .u8 c))
                  (first | go_keep | exact ⟨(hkeep5.out _ (by omega)).trans (cell_ad cx), (hkeep5.out _ (by omega)).trans (cell_ad cc)⟩)
                  (first | (go_at_call 26; refine (hexDigit_w _ (by omega) (by omega) _).mono ?_; rintro e w' ⟨rfl, rfl⟩) | (refine step_append_one _ ?_ (.tmp 67) (.tmp 82) 25 ?_ w.heap.size i0 Trym.underlying25 hi hz1 w.heap.size r s.size (rest.reverse.map (Value.int .u8)) ?_ ?_ ⟨wr.heap.size, 0, none⟩ 1 (.int .u8 (bits BinOp.or IntKind.u8 (Esc.hexI x * 16) (Esc.hexI c))) ?_ ?_ ?_ ?_ ?_; rfl; rfl; rfl; exact (hownR.alloc _).drew; rfl; exact cell_one_new wr _ 5; rfl; omega; intro w5 hown5 hgrow5 hkeep5))
                obtain ⟨m1, m2, m3, m4, m5⟩ := red_rel Hp.out hx hc hbelq hszq hpush hbdq hown5 hgrow5
                have HF : Hid (r + 1 = rest.length + 1) := by rw [Hr.out]; exact rfl
                clear hown5 hgrow5 hkeep5 hownq hownR
                go_wp2
                go_roundw
                case rel => exact ⟨r + 1, _, rest, rfl, by go_num, by omega, HF, m1, m2, m3, m4, m5⟩
                case measure => simp [intOf]
          · have HNE : Hid (Esc.push c (x :: p :: rest) = c :: x :: p :: rest) := by
              have : Esc.isE p x c = false := by simp [Esc.isE, hp]
              simp [Hid, Esc.push, this]
            have hp' : (p == 37) = false := by simpa using hp
            clear hp
            go_wp2_with (first | (go_at_call 26; refine (hexDigit_w _ (by omega) (by omega) _).mono ?_; rintro e w' ⟨rfl, rfl⟩))
            obtain ⟨L, hL1, hL2, hL3, hL4, hL5, hL6, hL7⟩ := exit_rel hn.out hnk hownq hbelq hszq hpush hbdq HNE.out
            go_roundw
            case rel => exact ⟨k + 1, L, by omega, by go_num, by rw [← hL1], hL2, hL3, hL4, hL5, hL6, hL7⟩
            case measure => simp [intOf]; omega
    · have hstr := own_string hown
      have F1 : Hid (cs = Esc.nf (toI s)) := by
        rw [hrun.out, List.take_of_length_le (by rw [toI_length]; omega)]; exact rfl
      clear hrun hbd
      go_wp2
      go_ret
      exact ⟨ret_str (by rw [F1.out]), hbel⟩

/-- unescape: it returns the text with no escape left. -/
theorem unescape_any (s : ByteArray) (hs : s.size ≤ 4194304) (w : World) :
    Calls Trym.prog 21 #[.string s] w fun e w' => e = .returned (.string (strOfNums (Esc.nf (toI s)))) ∧ Below w.heap.size w w' := by
  rcases index_pct s with ⟨h1, h2⟩ | ⟨k, hk, h1, h2⟩
  · exact unescape_none s h1 h2 w
  · exact unescape_at s k hk h1 h2 hs w

set_option maxHeartbeats 400000 in
theorem zzunescape_any (s : ByteArray) (hs : s.size ≤ 4194304) (w : World) :
    Calls Trym.prog 9 #[.string s] w fun e w' => e = .returned (.string (strOfNums (Esc.nf (toI s)))) ∧ Below w.heap.size w w' := by
  go_enter Trym.func9, Trym.ntmps9
  go_wp2_with (go_at_call 21; refine (unescape_any s hs _).mono ?_; rintro e w' ⟨rfl, hb⟩)
  go_ret
  exact ⟨rfl, hb⟩

end Go.Proofs.Qxb6603171aMods
