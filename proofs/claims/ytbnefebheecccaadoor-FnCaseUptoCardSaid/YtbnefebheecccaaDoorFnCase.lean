/-
  FnCase's walk: where keys, values and texts are of bulk at most 1048576 the law returns true, and writes nothing that was there.
-/
import Derived.Test.YtbnefebheecccaaDoorOpen
import Derived.Test.YtbnefebheecccaaDoorEntries
import Derived.Test.YtbnefebheecccaaDoorLit
import Derived.Test.YtbnefebheecccaaDoorEsc
namespace Go.Proofs.YtbnefebheecccaaDoor.fnCase
open Go.RowKit
open Uv (Bytes Ent KV St vals has sett bulk bulkS bulkT kept plM)

def upB (c : UInt8) : UInt8 := if 97 ≤ c.toNat ∧ c.toNat ≤ 122 then c - 32 else c
def upTo (s : Bytes) (i : Nat) : Bytes := (s.take i).map upB ++ s.drop i
theorem length_upTo (s : Bytes) (i : Nat) : (upTo s i).length = s.length := by simp [upTo]; omega
theorem upTo_at (s : Bytes) (i : Nat) (h : i < s.length) : (upTo s i)[i]'(by rw [length_upTo]; exact h) = s[i] := by
  unfold upTo
  rw [List.getElem_append_right (by simp; omega)]
  simp [Nat.min_eq_left (Nat.le_of_lt h)]
theorem upTo_yes (s : Bytes) (i : Nat) (h : i < s.length) : upTo s (i + 1) = (upTo s i).set i (upB s[i]) := by
  have e : (s.drop i).set 0 (upB s[i]) = upB s[i] :: s.drop (i + 1) := by rw [List.drop_eq_getElem_cons h]; rfl
  unfold upTo
  rw [List.take_succ_eq_append_getElem h, List.map_append, List.set_append_right _ _ (by simp; omega)]
  simp [Nat.min_eq_left (Nat.le_of_lt h), e]
theorem upTo_no (s : Bytes) (i : Nat) (h : i < s.length) (hn : ¬ (97 ≤ s[i].toNat ∧ s[i].toNat ≤ 122)) : upTo s (i + 1) = upTo s i := by
  unfold upTo
  rw [List.take_succ_eq_append_getElem h, List.drop_eq_getElem_cons h, List.map_append]
  simp [upB, hn]
theorem upB_val {c : UInt8} (h1 : 97 ≤ c.toNat) (h2 : c.toNat ≤ 122) : byteV (upB c) = .int .u8 ((c.toNat : Int) - 32) := by
  have e : (c - 32).toNat = c.toNat - 32 := UInt8.toNat_sub_of_le c 32 (UInt8.le_iff_toNat_le.2 (by show (32 : UInt8).toNat ≤ c.toNat; simp; omega))
  unfold byteV upB
  rw [if_pos ⟨h1, h2⟩, e]
  congr 1
  omega
theorem upTo_all (s : Bytes) : upTo s s.length = s.map upB := by simp [upTo]

/-- block T has the bytes l, and may be written -/
def Letters (w : World) (T : Nat) (l : Bytes) : Prop := ∀ j (hj : j < l.length), w.cell? ⟨T, j, none⟩ = some (byteV l[j]) ∧ w.frozen? ⟨T, j, none⟩ = false
theorem Letters.set {w : World} {T : Nat} {l : Bytes} (h : Letters w T l) {i : Nat} (hi : i < l.length) (b : UInt8) : Letters (w.setCell ⟨T, i, none⟩ (byteV b)) T (l.set i b) := by
  intro j hj
  rw [List.length_set] at hj
  obtain ⟨h1, h2⟩ := h j hj
  refine ⟨?_, by rw [World.frozen?_setCell]; exact h2⟩
  by_cases e : i = j
  · subst e
    rw [World.cell?_setCell_same w ⟨T, i, none⟩ (byteV b) (h i hi).1]
    simp
  · rw [World.cell?_setCell_other w ⟨T, i, none⟩ ⟨T, j, none⟩ (byteV b) (fun x => e (by injection x)), h1, List.getElem_set_ne e]
theorem Letters.kept {F : Nat → Prop} {w w' : World} {T : Nat} {l : Bytes} (h : Letters w T l) (hc : Chg F w w') (hF : ¬ F T) : Letters w' T l := by
  intro j hj
  obtain ⟨h1, h2⟩ := h j hj
  refine ⟨hc.cell h1 hF, ?_⟩
  rw [World.frozen?_of_block (w := w) (hc.block T (World.block_lt_of_cell? w _ h1) hF)]
  exact h2
theorem Letters.new {w w' : World} {T : Nat} {l : Bytes} (h : Letters w T l) (hc : Chg None w w') : Letters w' T l := h.kept hc (fun x => x)
theorem Letters.text {w : World} {T : Nat} {l : Bytes} {n c : Nat} (h : Letters w T l) (hn : n = l.length) : (convert 45 9 (.slice (some ⟨T, 0, none⟩) n c)).run Tryd.prog w = .ok (encStr l) w := by
  subst hn
  exact run_convert_bytes_back (P := Tryd.prog) w 45 9 5 ⟨T, 0, none⟩ c l (by kernel_rfl) (by kernel_rfl) (by kernel_rfl) (fun j hj => by
    have := (h j hj).1
    rw [add_off, Nat.zero_add]
    exact this)
theorem letters_made (s : Bytes) (w : World) : Letters (bytesW s w) w.heap.size s := by
  intro j hj
  refine ⟨cell_bytesW s w j hj, ?_⟩
  unfold bytesW
  have := World.frozen?_alloc_mark w.drew (bytesRow ⟨s.toArray⟩ (grownCap w s.length 0 5)) 5 (bytesRow ⟨s.toArray⟩ (grownCap w s.length 0 5)).size ((bytesRow ⟨s.toArray⟩ (grownCap w s.length 0 5)).size + 1) j
  refine Eq.trans this ?_
  have hsz : s.length ≤ (bytesRow ⟨s.toArray⟩ (grownCap w s.length 0 5)).size := by unfold bytesRow; simp
  rw [decide_eq_false (by omega)]
  rfl

set_option maxRecDepth 100000 in
set_option maxHeartbeats 1000000 in
theorem walk (kv : Value) (ks : List Bytes) (vv : Value) (vss : List (List Bytes)) (k x : Bytes) (w : World) (hk : RStrs All w kv ks) (hv : RTextss All w vv vss)
    (hb : bulkS ks + bulkSS vss + k.length + x.length ≤ 1048576) (hT : Tab w) :
    Calls Tryd.prog 6 #[kv, vv, encStr k, encStr x] w (Ret (.bool true) w) := by
  have hz := Uv.bulk_zip ks bulkSS (fun _ _ => rfl) vss
  obtain ⟨es, hes⟩ : ∃ es, ks.zip vss = es := ⟨_, rfl⟩
  have hN0 : bulk (ks.zip vss) ≤ 4194304 := by omega
  rw [hes] at hz
  have HE := Lib.hid hes
  clear hes
  have hbA : bulkT [((1 : Int), k, x)] ≤ 3000000 := by simp only [bulkT]; omega
  have hcv := conv_bytes k
  have hch0 := chg_bytesW k w
  have hL0 := letters_made k w
  go_enter Tryd.func6, Tryd.ntmps6
  go_wp2
  go_loopw [22] (fun iv wr => ∃ i : Nat, i ≤ k.length ∧ iv = .int .i64 i ∧ Letters wr w.heap.size (upTo k i) ∧ Chg (fun g => g = w.heap.size) (bytesW k w) wr) (fun iv _ => k.length - (intOf iv).toNat)
  case atStart => exact ⟨0, Nat.zero_le _, rfl, hL0, Chg.refl _ _⟩
  case round =>
    obtain ⟨i, hi, rfl, hL, hch⟩ := hrel
    by_cases hlt : i < k.length
    · obtain ⟨q1, q2⟩ := hL i (by rw [length_upTo]; exact hlt)
      rw [upTo_at k i hlt] at q1
      by_cases hu : 97 ≤ k[i].toNat ∧ k[i].toNat ≤ 122
      · obtain ⟨h1, h2⟩ := hu
        have HU := Lib.hid (upTo_yes k i hlt)
        have HB := Lib.hid (upB_val h1 h2)
        have hS := hL.set (i := i) (by rw [length_upTo]; exact hlt) (upB k[i])
        rw [HB.out] at hS
        go_wp2
        go_roundw
        case rel => exact ⟨i + 1, by omega, by go_num, by rw [HU.out]; exact hS, hch.setCell (p := ⟨w.heap.size, i, none⟩) (fun _ => rfl) _⟩
        case measure => simp [intOf]; omega
      · have HU := Lib.hid (upTo_no k i hlt hu)
        by_cases h1 : 97 ≤ k[i].toNat
        · have h2 : 122 < k[i].toNat := by omega
          clear hu
          go_wp2
          go_roundw
          case rel => exact ⟨i + 1, by omega, by go_num, by rw [HU.out]; exact hL, hch⟩
          case measure => simp [intOf]; omega
        · have h2 : k[i].toNat < 97 := by omega
          clear hu h1
          go_wp2
          go_roundw
          case rel => exact ⟨i + 1, by omega, by go_num, by rw [HU.out]; exact hL, hch⟩
          case measure => simp [intOf]; omega
    · obtain rfl : i = k.length := by omega
      rw [upTo_all] at hL
      obtain ⟨K, hK⟩ : ∃ K, k.map upB = K := ⟨_, rfl⟩
      have hKl : K.length = k.length := by rw [← hK]; simp
      rw [hK] at hL
      clear hK
      have hcw : Chg None w wr := hch0.then hch (fun g hg e => by omega)
      have htx := hL.text (c := bytesCap k w) hKl.symm
      by_cases heq : K = k
      · have hbe : (K == k) = true := by simp [heq]
        clear heq
        go_wp2
        go_ret
        exact ⟨rfl, hcw⟩
      · have hbe : (K == k) = false := by simp [heq]
        have HV : Hid (vals (plM (kept es) [((1 : Int), k, x)]) K = vals (kept es) K) := by show _ = _; simp [plM, Uv.stM, Uv.vals_sett, heq]
        have HH : Hid (has (plM (kept es) [((1 : Int), k, x)]) K = has (kept es) K) := by show _ = _; simp [plM, Uv.stM, Uv.has_sett, heq]
        have HV2 : Hid (vals (plM (kept es) [((1 : Int), k, x)]) k = [x]) := by show _ = _; simp [plM, Uv.stM, Uv.vals_sett]
        have HH2 : Hid (has (plM (kept es) [((1 : Int), k, x)]) k = true) := by show _ = _; simp [plM, Uv.stM, Uv.has_sett]
        clear heq hch hch0 hL0 hcv
        go_wp2_with fail
        refine (entries_ok All _ _ ks vss _ (hk.new hcw) (hv.new hcw) hN0).mono ?_
        rw [HE.out]
        rintro e w1 ⟨a1, k1, rfl, o1, c1⟩
        have L1 := hL.new c1
        have ht1 := L1.text (c := bytesCap k w) hKl.symm
        have c01 := hcw.trans c1
        go_wp2_with fail
        refine (held_ok _ _ _ es _ [] K _ o1.read (steps_nil _) (hT.new c01) (by simp only [bulkT]; omega)).mono ?_
        rw [show plM (kept es) [] = kept es from rfl]
        rintro e w2 ⟨a2, k2, rfl, s2, c2⟩
        have hA := steps_lit w2 [((1 : Int), k, x)] (by simp)
        have hcA : Chg None w2 (w2.alloc (.cells (stFlat [((1 : Int), k, x)]).toArray 35)) := (Chg.refl None w2).alloc _
        have L2 := (L1.new c2).new hcA
        have ht2 : (convert 45 9 (.slice (some ⟨w.heap.size, 0, none⟩) k.length (bytesCap k w))).run Tryd.prog (w2.alloc (.cells #[.int .i64 1, encStr k, encStr x] 35)) = .ok (encStr K) (w2.alloc (.cells #[.int .i64 1, encStr k, encStr x] 35)) := L2.text (c := bytesCap k w) hKl.symm
        have c02 := (c01.trans c2).trans hcA
        have o2 := (o1.read.new c2).new hcA
        have s22 := s2.read.new hcA
        clear s2 ht1 htx
        go_wp2_with fail
        refine (held_ok _ _ _ es _ [((1 : Int), k, x)] K _ o2 hA (hT.new c02) (by omega)).mono ?_
        rw [HV.out, HH.out]
        rintro e w3 ⟨a3, k3, rfl, s3, c3⟩
        have hA3 := steps_lit w3 [((1 : Int), k, x)] (by simp)
        have hcA3 : Chg None w3 (w3.alloc (.cells (stFlat [((1 : Int), k, x)]).toArray 35)) := (Chg.refl None w3).alloc _
        have c03 := (c02.trans c3).trans hcA3
        have o3 := (o2.new c3).new hcA3
        have s23 := (s22.new c3).new hcA3
        have s33 := s3.read.new hcA3
        clear s3 s22 ht2
        go_wp2_with fail
        refine (held_ok _ _ _ es _ [((1 : Int), k, x)] k _ o3 hA3 (hT.new c03) (by omega)).mono ?_
        rw [HV2.out, HH2.out]
        rintro e w4 ⟨a4, k4, rfl, s4, c4⟩
        have s24 := s23.new c4
        have s34 := s33.new c4
        have c04 := c03.trans c4
        clear s23 s33 HV HH HV2 HH2
        generalize vals (kept es) K = vs at *
        generalize has (kept es) K = hb at *
        have hbb : (hb == hb) = true := by simp
        go_wp2_with fail
        refine (same_ok _ _ _ _ vs vs _ s34 s24).mono ?_
        rintro e w5 ⟨rfl, c5⟩
        rw [decide_eq_true rfl]
        have hnew := text_lit w5 x
        have s45 := (s4.read.new c5).new ((Chg.refl None w5).alloc (.cells #[encStr x] 9))
        go_wp2_with fail
        refine (same_ok _ _ _ _ [x] [x] _ s45 hnew).mono ?_
        rintro e w6 ⟨rfl, c6⟩
        rw [decide_eq_true rfl]
        go_wp2
        go_ret
        exact ⟨rfl, ((c04.trans c5).alloc _).trans c6⟩
end Go.Proofs.YtbnefebheecccaaDoor.fnCase
