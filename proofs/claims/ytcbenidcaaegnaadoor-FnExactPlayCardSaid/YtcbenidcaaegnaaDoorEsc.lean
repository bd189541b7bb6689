/-
  net/url.escape, QueryEscape.
-/
import Derived.Test.YtcbenidcaaegnaaDoorTable
import Derived.WalkKit
import Derived.Outline
import Derived.Laws.IdiomStrings
import Derived.Deep.Cut
import Derived.Deep.CutRange
import Derived.Deep.CutBlock
import Derived.Deep.DeepCutAuto
import Derived.Lib.BufferWrite
import Derived.Test.YtcbenidcaaegnaaDoorBytes
namespace Go.Proofs.YtcbenidcaaegnaaDoor
open Go.RowKit
open Uv (Bytes safeB esc escB spc hxc)

/-- '[]byte(s)': the capacity and the world behind it -/
def bytesCap (s : Bytes) (w : World) : Nat := grownCap w s.length 0 5
def bytesW (s : Bytes) (w : World) : World :=
  w.drew.alloc (.cells (bytesRow ⟨s.toArray⟩ (grownCap w s.length 0 5)) 5 ((bytesRow ⟨s.toArray⟩ (grownCap w s.length 0 5)).size, (bytesRow ⟨s.toArray⟩ (grownCap w s.length 0 5)).size + 1))
theorem conv_bytes (s : Bytes) (w : World) : (convert 9 87 (encStr s)).run Tryd.prog w = .ok (.slice (some ⟨w.heap.size, 0, none⟩) s.length (bytesCap s w)) (bytesW s w) := by
  have h := run_bytes_of_string (P := Tryd.prog) w 9 87 5 ⟨s.toArray⟩ (by kernel_rfl) (by kernel_rfl) (by kernel_rfl)
  have e : (⟨s.toArray⟩ : ByteArray).size = s.length := by simp [ByteArray.size]
  rw [e] at h
  exact h
theorem chg_bytesW (s : Bytes) (w : World) : Chg None w (bytesW s w) := ((Chg.refl None w).drew).alloc _
theorem size_bytesW (s : Bytes) (w : World) : (bytesW s w).heap.size = w.heap.size + 1 := by simp [bytesW]
theorem cell_bytesW (s : Bytes) (w : World) (i : Nat) (h : i < s.length) : (bytesW s w).cell? ⟨w.heap.size, i, none⟩ = some (.int .u8 s[i].toNat) := by
  have hb : (bytesW s w).heap[w.heap.size]? = some (.cells (bytesRow ⟨s.toArray⟩ (grownCap w s.length 0 5)) 5 ((bytesRow ⟨s.toArray⟩ (grownCap w s.length 0 5)).size, (bytesRow ⟨s.toArray⟩ (grownCap w s.length 0 5)).size + 1)) := heap_alloc_new w.drew _
  rw [cell_of_row _ _ _ _ _ _ hb]
  unfold bytesRow
  rw [Array.getElem?_append_left (by simpa using h)]
  simp [h]


theorem RowAt.set {w : World} {T : Nat} {ty : TypeId} {n : Nat} {l : Bytes} (h : RowAt w T ty n l) {i : Nat} (_hi : i < l.length) (b : UInt8) : RowAt (w.setCell ⟨T, i, none⟩ (byteV b)) T ty n (l.set i b) := by
  obtain ⟨cs, hb, hn, ht⟩ := h
  refine ⟨cs.setIfInBounds i (byteV b), heap_setCell_same w T i cs ty (byteV b) hb, by simpa using hn, ?_⟩
  rw [Array.toList_setIfInBounds, List.length_set, List.take_set, ht, List.map_set]
def plusB (c : UInt8) : UInt8 := if c.toNat = 32 then 43 else c
def plusTo (s : Bytes) (i : Nat) : Bytes := (s.take i).map plusB ++ s.drop i
theorem length_plusTo (s : Bytes) (i : Nat) : (plusTo s i).length = s.length := by simp [plusTo]; omega
theorem plusTo_yes (s : Bytes) (i : Nat) (h : i < s.length) (h2 : s[i].toNat = 32) : plusTo s (i + 1) = (plusTo s i).set i 43 := by
  have e : (s.drop i).set 0 43 = 43 :: s.drop (i + 1) := by rw [List.drop_eq_getElem_cons h]; rfl
  unfold plusTo
  rw [List.take_succ_eq_append_getElem h, List.map_append, List.set_append_right _ _ (by simp; omega)]
  simp [plusB, h2, Nat.min_eq_left (Nat.le_of_lt h), e]
theorem plusTo_no (s : Bytes) (i : Nat) (h : i < s.length) (h2 : ¬ s[i].toNat = 32) : plusTo s (i + 1) = plusTo s i := by
  unfold plusTo
  rw [List.take_succ_eq_append_getElem h, List.drop_eq_getElem_cons h, List.map_append]
  simp [plusB, h2]
/-- 's[i]', s a text -/
theorem run_textAt (s : Bytes) (i : Nat) (h : i < s.length) (W : World) : (Instr.index 9 (encStr s) (.int .i64 (i : Int))).run Tryd.prog W = .ok (.int .u8 (s[i].toNat : Int)) W := by
  have hu : Tryd.prog.underlying 9 = some .string := by kernel_rfl
  have hg : (⟨s.toArray⟩ : ByteArray)[i]? = some s[i] := by
    rw [getElem?_pos _ _ (by simpa [ByteArray.size] using h)]
    rfl
  simp [Instr.index, run_underlying hu, asIntOf, encStr, hg, go_sem]
/-- 'copy(t, s)', s a text as long as t -/
theorem copy_text {w : World} {T : Nat} {ty : TypeId} {c : Nat} {s : Bytes} (h : RowAt w T ty s.length []) :
    ∃ w', (Builtin.copy_ #[87, 9] 3 #[.slice (some ⟨T, 0, none⟩) s.length c, encStr s]).run Tryd.prog w = .ok (.int .i64 s.length) w' ∧ RowAt w' T ty s.length s ∧ Chg (fun g => g = T) w w' := by
  obtain ⟨cs, hb, hn, _⟩ := h
  have e : (⟨s.toArray⟩ : ByteArray).size = s.length := by simp [ByteArray.size]
  have hr := Lib.run_copy_row_string (P := Tryd.prog) w 87 9 3 5 T 0 s.length c ⟨s.toArray⟩ cs ty (by kernel_rfl) (by kernel_rfl) hb (by omega) (by omega)
  rw [e] at hr
  refine ⟨_, hr, ⟨_, setRow_heap w T cs _ ty (0, 0) hb, ?_, ?_⟩, ⟨rfl, rfl, rfl, by simp, fun k hk hn => setRow_other w T k _ hn⟩⟩
  · simp [Lib.byteCells]
  · simp [Lib.byteCells]

set_option maxRecDepth 100000 in
set_option maxHeartbeats 1000000 in
theorem escape_ok (s : Bytes) (w : World) (hT : Tab w) (hs : s.length ≤ 10000000000) : Calls Tryd.prog 66 #[encStr s, .int .u8 32] w (Ret (encStr (esc s)) w) := by
  have hcv := conv_bytes s
  have hch0 := chg_bytesW s w
  go_enter Tryd.func66, Tryd.ntmps66
  go_wp2
  go_loop [5, 6, 19] (fun a b i => ∃ k : Nat, k ≤ s.length ∧ i = .int .i64 k ∧ a = .int .i64 (spc (s.take k)) ∧ b = .int .i64 (hxc (s.take k))) (fun _ _ i => s.length - (intOf i).toNat)
  case atStart => exact ⟨0, Nat.zero_le _, rfl, rfl, rfl⟩
  case round =>
    obtain ⟨k, hk, rfl, rfl, rfl⟩ := hrel
    by_cases hlt : k < s.length
    · have hc := cell_bytesW s w k hlt
      have hT1 := hT.new hch0
      have l1 := Uv.spc_le (s.take k)
      have l2 := Uv.hxc_le (s.take k)
      have l3 : (s.take k).length ≤ k := by simp; omega
      have H1 := Lib.hid (Uv.spc_take s k hlt)
      have H2 := Lib.hid (Uv.hxc_take s k hlt)
      by_cases h1 : safeB s[k] = true
      · have H := Lib.hid h1
        have hd : Hid ((if s[k].toNat = 32 then 1 else 0) = 0 ∧ (if safeB s[k] = false ∧ ¬ s[k].toNat = 32 then 1 else 0) = 0) := by
          refine ⟨if_neg (fun e => ?_), if_neg (fun e => ?_)⟩
          · rw [Uv.safe_space e] at h1; cases h1
          · rw [e.1] at h1; cases h1
        clear h1
        go_wp2_with (go_at_call 70; refine (shouldEscape_ok s[k] _ hT1).mono ?_; rw [H.out]; rintro e w1 ⟨rfl, rfl⟩)
        go_round
        case rel => exact ⟨k + 1, by omega, by go_num, by rw [H1.out, hd.out.1]; rfl, by rw [H2.out, hd.out.2]; rfl⟩
        case measure => simp [intOf]; omega
      · have h1 : safeB s[k] = false := by simpa using h1
        have H := Lib.hid h1
        by_cases h2 : s[k].toNat = 32
        · have hd : Hid ((if s[k].toNat = 32 then 1 else 0) = 1 ∧ (if safeB s[k] = false ∧ ¬ s[k].toNat = 32 then 1 else 0) = 0) := ⟨if_pos h2, if_neg (fun e => e.2 h2)⟩
          have hbe : ((s[k].toNat : Int) == 32) = true := by simp; omega
          clear h1 h2
          go_wp2_with (go_at_call 70; refine (shouldEscape_ok s[k] _ hT1).mono ?_; rw [H.out]; rintro e w1 ⟨rfl, rfl⟩)
          go_round
          case rel => exact ⟨k + 1, by omega, by go_num, by rw [H1.out, hd.out.1]; go_num, by rw [H2.out, hd.out.2]; rfl⟩
          case measure => simp [intOf]; omega
        · have hd : Hid ((if s[k].toNat = 32 then 1 else 0) = 0 ∧ (if safeB s[k] = false ∧ ¬ s[k].toNat = 32 then 1 else 0) = 1) := ⟨if_neg h2, if_pos ⟨h1, h2⟩⟩
          have hbe : ((s[k].toNat : Int) == 32) = false := by simp; omega
          clear h1 h2
          go_wp2_with (go_at_call 70; refine (shouldEscape_ok s[k] _ hT1).mono ?_; rw [H.out]; rintro e w1 ⟨rfl, rfl⟩)
          go_round
          case rel => exact ⟨k + 1, by omega, by go_num, by rw [H1.out, hd.out.1]; rfl, by rw [H2.out, hd.out.2]; go_num⟩
          case measure => simp [intOf]; omega
    · have hk' : k = s.length := by omega
      subst hk'
      rw [List.take_of_length_le (Nat.le_refl _)]
      have l1 := Uv.spc_le s
      have l2 := Uv.hxc_le s
      by_cases h0 : spc s = 0 ∧ hxc s = 0
      · have HE := Lib.hid (Uv.esc_none h0.1 h0.2)
        have t1 : ((spc s : Int) == 0) = true := by simp [h0.1]
        have t2 : ((hxc s : Int) == 0) = true := by simp [h0.2]
        clear h0
        go_wp2
        go_ret
        exact ⟨by rw [HE.out]; rfl, hch0⟩
      · have hlen := Uv.length_esc s
        have HLen := Lib.hid hlen
        clear hlen
        by_cases hx : hxc s = 0
        · have t1 : ((spc s : Int) == 0) = false := by simp; omega
          have HP := Lib.hid (Uv.esc_plus hx)
          rw [hx]
          clear HLen h0 hx l2
          rw [show ((0 : Nat) : Int) = 0 from rfl]
          go_upto_if 50 with fail
          go_cut [10] (fun t wx => ∃ (T c : Nat) (cs : Array Value) (ty : TypeId), t = .slice (some ⟨T, 0, none⟩) s.length c ∧ s.length ≤ cs.size ∧ s.length ≤ c ∧ c ≤ maxLen ∧ wx.heap[T]? = some (.cells cs ty (0, 0)) ∧ w.heap.size ≤ T ∧ Chg None w wx)
          case first =>
            obtain ⟨zs, hzs⟩ : ∃ zs : Array Value, zs = Array.replicate 64 (Value.int .u8 0) := ⟨_, rfl⟩
            have hzl : zs.size = 64 := by rw [hzs]; simp
            have hbw : ((bytesW s w).alloc (.cells zs 122)).heap[(bytesW s w).heap.size]? = some (.cells zs 122 (0, 0)) := heap_alloc_new (bytesW s w) (.cells zs 122)
            have hcw : Chg None w ((bytesW s w).alloc (.cells zs 122)) := hch0.alloc _
            change Code.wp _ _ _ _ ((bytesW s w).alloc (.cells (Array.replicate 64 (Value.int .u8 0)) 122))
            rw [← hzs]
            clear hzs
            have hz64 : 64 ≤ zs.size := by omega
            clear hzl
            generalize (bytesW s w).alloc (.cells zs 122) = W at *
            have hBB : w.heap.size ≤ (bytesW s w).heap.size := by rw [size_bytesW]; omega
            have HBW := Lib.hid hbw
            clear hbw
            by_cases hle : s.length ≤ 64
            · have hsl := fun W => run_sliceAt_buf (bytesW s w).heap.size s.length (↑s.length) (by omega) hle W
              go_wp2
              go_meet
              exact ⟨_, 64, zs, _, rfl, by omega, by omega, by simp [maxLen], HBW.out, hBB, hcw⟩
            · go_wp2_with (at_make; refine wpList_mkC elByte rfl _ _ rfl _ s.length rfl rfl (by omega) (by omega) (by unfold maxLen; omega) ?_; intro w2 hown2 hc2)
              go_meet
              rcases hown2.2 with ⟨hh, _⟩ | ⟨g, cap, cur, hh, _, hg, h3, h4, h5, _⟩
              · cases hh
              · injection hh with e1 _ e2
                injection e1 with e1
                injection e1 with e1
                subst e1
                subst e2
                exact ⟨_, _, cur, _, rfl, by omega, h3, h4, hg, hcw.size, hcw.trans hc2⟩
          case rest =>
            obtain ⟨T, c, cs, ty, rfl, hcs, hc, hcm, hrow, hTw, hcc⟩ := hcut
            have hRow0 : RowAt wc T ty s.length [] := ⟨cs, hrow, hcs, rfl⟩
            clear hrow hcs
            unfold maxLen at hcm
            obtain ⟨w3, hcp, hR3, hC3⟩ := copy_text (c := c) hRow0
            clear hRow0
            go_wp2
            go_loopw [12] (fun iv wr => ∃ i : Nat, i ≤ s.length ∧ iv = .int .i64 i ∧ RowAt wr T ty s.length (plusTo s i) ∧ Chg (fun g => g = T) w3 wr) (fun iv _ => s.length - (intOf iv).toNat)
            case atStart => exact ⟨0, Nat.zero_le _, rfl, by simpa [plusTo] using hR3, Chg.refl _ _⟩
            case round =>
              obtain ⟨i, hi, rfl, hRow, hchT⟩ := hrel
              have hcw : Chg None w wr := (hcc.then hC3 (fun g hg e => by omega)).then hchT (fun g hg e => by omega)
              by_cases hlt : i < s.length
              · by_cases h2 : s[i].toNat = 32
                · have hbe : ((s[i].toNat : Int) == 32) = true := by simp; omega
                  have HE := Lib.hid (plusTo_yes s i hlt h2)
                  have hix := run_textAt s i hlt
                  obtain ⟨old, q1, q2⟩ := hRow.room (j := i) hlt
                  clear h2
                  go_wp2
                  go_roundw
                  case rel => exact ⟨i + 1, by omega, by go_num, by rw [HE.out]; exact hRow.set (by rw [length_plusTo]; exact hlt) 43, hchT.setCell (p := ⟨T, i, none⟩) (fun _ => rfl) _⟩
                  case measure => simp [intOf]; omega
                · have hbe : ((s[i].toNat : Int) == 32) = false := by simp; omega
                  have HE := Lib.hid (plusTo_no s i hlt h2)
                  have hix := run_textAt s i hlt
                  clear h2
                  go_wp2
                  go_roundw
                  case rel => exact ⟨i + 1, by omega, by go_num, by rw [HE.out]; exact hRow, hchT⟩
                  case measure => simp [intOf]; omega
              · obtain rfl : i = s.length := by omega
                have hE : plusTo s s.length = esc s := by rw [HP.out]; simp [plusTo, plusB]
                have hel : (esc s).length = s.length := by rw [HP.out]; simp
                rw [hE, ← hel] at hRow
                have htx := hRow.text (c := c)
                rw [hel] at htx
                clear hE hel
                go_wp2
                go_ret
                exact ⟨rfl, hcw⟩
        · have t2 : ((hxc s : Int) == 0) = false := by simp; omega
          have hx0 : 0 < hxc s := by omega
          obtain ⟨b1, t1⟩ : ∃ b, ((spc s : Int) == 0) = b := ⟨_, rfl⟩
          clear h0 hx
          cases b1
          all_goals
            go_upto_if 50 with fail
            go_cut [10] (fun t wx => ∃ (T c : Nat) (cs : Array Value) (ty : TypeId), t = .slice (some ⟨T, 0, none⟩) (s.length + 2 * hxc s) c ∧ s.length + 2 * hxc s ≤ cs.size ∧ s.length + 2 * hxc s ≤ c ∧ c ≤ maxLen ∧ wx.heap[T]? = some (.cells cs ty (0, 0)) ∧ w.heap.size ≤ T ∧ Chg None w wx)
            case first =>
              obtain ⟨zs, hzs⟩ : ∃ zs : Array Value, zs = Array.replicate 64 (Value.int .u8 0) := ⟨_, rfl⟩
              have hzl : zs.size = 64 := by rw [hzs]; simp
              have hbw : ((bytesW s w).alloc (.cells zs 122)).heap[(bytesW s w).heap.size]? = some (.cells zs 122 (0, 0)) := heap_alloc_new (bytesW s w) (.cells zs 122)
              have hcw : Chg None w ((bytesW s w).alloc (.cells zs 122)) := hch0.alloc _
              change Code.wp _ _ _ _ ((bytesW s w).alloc (.cells (Array.replicate 64 (Value.int .u8 0)) 122))
              rw [← hzs]
              clear hzs
              have hz64 : 64 ≤ zs.size := by omega
              clear hzl
              generalize (bytesW s w).alloc (.cells zs 122) = W at *
              have hBB : w.heap.size ≤ (bytesW s w).heap.size := by rw [size_bytesW]; omega
              have HBW := Lib.hid hbw
              clear hbw
              by_cases hle : s.length + 2 * hxc s ≤ 64
              · have hsl := fun W => run_sliceAt_buf (bytesW s w).heap.size (s.length + 2 * hxc s) (↑s.length + 2 * ↑(hxc s)) (by omega) hle W
                go_wp2
                go_meet
                exact ⟨_, 64, zs, _, rfl, by omega, by omega, by simp [maxLen], HBW.out, hBB, hcw⟩
              · go_wp2_with (at_make; refine wpList_mkC elByte rfl _ _ rfl _ (s.length + 2 * hxc s) rfl rfl (by omega) (by omega) (by unfold maxLen; omega) ?_; intro w2 hown2 hc2)
                go_meet
                rcases hown2.2 with ⟨hh, _⟩ | ⟨g, cap, cur, hh, _, hg, h3, h4, h5, _⟩
                · cases hh
                · injection hh with e1 _ e2
                  injection e1 with e1
                  injection e1 with e1
                  subst e1
                  subst e2
                  exact ⟨_, _, cur, _, rfl, by omega, h3, h4, hg, hcw.size, hcw.trans hc2⟩
            case rest =>
              obtain ⟨T, c, cs, ty, rfl, hcs, hc, hcm, hrow, hTw, hcc⟩ := hcut
              have hRow0 : RowAt wc T ty (s.length + 2 * hxc s) [] := ⟨cs, hrow, hcs, rfl⟩
              have hTl : T < wc.heap.size := hRow0.lt
              clear hrow hcs
              unfold maxLen at hcm
              go_wp2
              have hchb := chg_bytesW s wc
              go_loopw [13, 78] (fun jv iv wr => ∃ i : Nat, i ≤ s.length ∧ iv = .int .i64 i ∧ jv = .int .i64 ((esc (s.take i)).length : Int) ∧ RowAt wr T ty (s.length + 2 * hxc s) (esc (s.take i)) ∧ Chg (fun g => g = T) (bytesW s wc) wr) (fun _ iv _ => s.length - (intOf iv).toNat)
              case atStart => exact ⟨0, Nat.zero_le _, rfl, rfl, hRow0.kept hchb (fun x => x), Chg.refl _ _⟩
              case round =>
                obtain ⟨i, hi, rfl, rfl, hRow, hchT⟩ := hrel
                have hcw : Chg None w wr := (hcc.trans hchb).then hchT (fun g hg e => by omega)
                by_cases hlt : i < s.length
                · have hc1 := hchT.cell (cell_bytesW s wc i hlt) (fun e => Nat.ne_of_gt hTl e)
                  have HT1 := hT.new hcw
                  have HE := Lib.hid (Uv.esc_take s i hlt)
                  have hlen1 : (esc (s.take (i + 1))).length ≤ s.length + 2 * hxc s := by
                    rw [← HLen.out]
                    have := Uv.esc_append (s.take (i + 1)) (s.drop (i + 1))
                    rw [List.take_append_drop] at this
                    rw [this]
                    simp
                  rw [HE.out, List.length_append] at hlen1
                  generalize hES : esc (s.take i) = E at *
                  have HES := Lib.hid hES
                  clear hES
                  by_cases h2 : s[i].toNat = 32
                  · have hbe : ((s[i].toNat : Int) == 32) = true := by simp; omega
                    have HB : Hid (escB s[i] = [43]) := by show _ = _; unfold escB; rw [Uv.safe_space h2]; simp [h2]
                    rw [HB.out] at hlen1 HE
                    simp only [List.length_singleton] at hlen1
                    obtain ⟨old, q1, q2⟩ := hRow.room (j := E.length) (by omega)
                    clear h2
                    go_wp2
                    go_roundw
                    case rel => exact ⟨i + 1, by omega, by go_num, by rw [HE.out, List.length_append]; go_num, by rw [HE.out]; exact hRow.put (by omega) 43, hchT.setCell (p := ⟨T, E.length, none⟩) (fun _ => rfl) _⟩
                    case measure => simp [intOf]; omega
                  · have hbe : ((s[i].toNat : Int) == 32) = false := by simp; omega
                    by_cases h1 : safeB s[i] = true
                    · have H := Lib.hid h1
                      have HB : Hid (escB s[i] = [s[i]]) := by show _ = _; unfold escB; rw [h1]; simp
                      rw [HB.out] at hlen1 HE
                      simp only [List.length_singleton] at hlen1
                      obtain ⟨old, q1, q2⟩ := hRow.room (j := E.length) (by omega)
                      clear h1 h2
                      go_wp2_with (go_at_call 70; refine (shouldEscape_ok s[i] _ HT1).mono ?_; rw [H.out]; rintro e w1 ⟨rfl, rfl⟩)
                      go_roundw
                      case rel => exact ⟨i + 1, by omega, by go_num, by rw [HE.out, List.length_append]; go_num, by rw [HE.out]; exact hRow.put (by omega) s[i], hchT.setCell (p := ⟨T, E.length, none⟩) (fun _ => rfl) _⟩
                      case measure => simp [intOf]; omega
                    · have h1 : safeB s[i] = false := by simpa using h1
                      have H := Lib.hid h1
                      have HB : Hid (escB s[i] = [37, Uv.hexD (s[i].toNat / 16), Uv.hexD (s[i].toNat % 16)]) := by show _ = _; unfold escB; rw [h1]; simp [h2]
                      rw [HB.out] at hlen1 HE
                      simp only [List.length_cons, List.length_nil] at hlen1
                      obtain ⟨old, q1, q2⟩ := hRow.room (j := E.length) (by omega)
                      obtain ⟨old2, q3, q4⟩ := hRow.room (j := E.length + 1) (by omega)
                      obtain ⟨old3, q5, q6⟩ := hRow.room (j := E.length + 2) (by omega)
                      clear h1 h2
                      have h256 := s[i].toNat_lt
                      have hh1 := fun W => run_hex W (s[i].toNat / 16) (↑s[i].toNat / 16) (by omega) (by omega)
                      have hh2 := fun W => run_hex W (s[i].toNat % 16) (↑s[i].toNat % 16) (by omega) (by omega)
                      have hd1 : (s[i].toNat : Int) / 16 < 16 := by omega
                      go_wp2_with (go_at_call 70; refine (shouldEscape_ok s[i] _ HT1).mono ?_; rw [H.out]; rintro e w1 ⟨rfl, rfl⟩)
                      go_roundw
                      case rel =>
                        refine ⟨i + 1, by omega, by go_num, by rw [HE.out, List.length_append]; go_num, ?_, ?_⟩
                        · rw [HE.out]
                          exact hRow.put3 (by omega) 37 (Uv.hexD (s[i].toNat / 16)) (Uv.hexD (s[i].toNat % 16))
                        · exact ((hchT.setCell (p := ⟨T, E.length, none⟩) (fun _ => rfl) _).setCell (p := ⟨T, E.length + 1, none⟩) (fun _ => rfl) _).setCell (p := ⟨T, E.length + 2, none⟩) (fun _ => rfl) _
                      case measure => simp [intOf]; omega
                · obtain rfl : i = s.length := by omega
                  rw [List.take_of_length_le (Nat.le_refl _)] at hRow
                  rw [← HLen.out] at hRow
                  have htx := hRow.text (c := c)
                  rw [HLen.out] at htx
                  go_wp2
                  go_ret
                  exact ⟨rfl, hcw⟩
end Go.Proofs.YtcbenidcaaegnaaDoor
