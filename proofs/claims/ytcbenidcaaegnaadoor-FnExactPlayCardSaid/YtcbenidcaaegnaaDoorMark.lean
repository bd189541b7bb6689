/-
  Marks: markText, markStringS, heldStringS, markEntryS.
-/
import Derived.Test.YtcbenidcaaegnaaDoorToEnt
import Derived.Deep.AppendLies
namespace Go.Proofs.YtcbenidcaaegnaaDoor
open Go.RowKit
open Uv (Bytes Ent KV bulk bulkS)

def dig8 (n : Nat) : UInt8 := UInt8.ofNat (48 + n % 10)
/-- the decimal digits of k ahead of out -/
def digs : Nat → Nat → Bytes → Bytes
  | 0, _, out => out
  | f + 1, k, out => if k = 0 then out else digs f (k / 10) (dig8 k :: out)
def mark (k : Nat) : Bytes := if k = 0 then [109, 48] else 109 :: digs k k []

theorem digs_step {f n : Nat} {out : Bytes} (hn : 0 < n) (hf : n ≤ f) : ∃ f', n / 10 ≤ f' ∧ digs f n out = digs f' (n / 10) (dig8 n :: out) := by
  cases f with
  | zero => omega
  | succ f => exact ⟨f, by omega, by rw [digs, if_neg (by omega)]⟩
theorem digs_zero (f : Nat) (out : Bytes) : digs f 0 out = out := by cases f <;> simp [digs]

theorem conv_digit (w : World) (n : Nat) : (convert 87 9 (.slice (some ⟨w.heap.size, 0, none⟩) 1 1)).run Tryd.prog (w.alloc (.cells #[.int .u8 (48 + (n : Int) % 10)] 5)) = .ok (.string ⟨#[dig8 n]⟩) (w.alloc (.cells #[.int .u8 (48 + (n : Int) % 10)] 5)) := by
  have h := run_convert_bytes_back (P := Tryd.prog) (w.alloc (.cells #[.int .u8 (48 + (n : Int) % 10)] 5)) 87 9 5 ⟨w.heap.size, 0, none⟩ 1 [dig8 n] (by kernel_rfl) (by kernel_rfl) (by kernel_rfl) (fun j hj => by
    simp at hj
    subst hj
    have : (dig8 n).toNat = 48 + n % 10 := by
      simp only [dig8, UInt8.toNat_ofNat']
      omega
    simp [Addr.add]
    omega)
  exact h

set_option maxHeartbeats 400000 in
theorem markText_ok (k : Nat) (w : World) (hk : k ≤ 100000000000000) : Calls Tryd.prog 48 #[.int .i64 k] w (Ret (encStr (mark k)) w) := by
  by_cases h0 : k = 0
  · subst h0
    go_enter Tryd.func48, Tryd.ntmps48
    go_wp2
    go_ret
    exact ⟨rfl, Chg.refl _ _⟩
  · go_enter Tryd.func48, Tryd.ntmps48
    go_wp2
    go_loopw [0, 3] (fun i o wr => ∃ (n f : Nat) (out : Bytes), out.length + n ≤ k ∧ n ≤ f ∧ i = .int .i64 n ∧ o = encStr out ∧ Hid (digs f n out = digs k k []) ∧ Chg None w wr) (fun i _ _ => (intOf i).toNat)
    case atStart => exact ⟨k, k, [], by simp, Nat.le_refl _, rfl, rfl, rfl, Chg.refl _ _⟩
    case round =>
      obtain ⟨n, f, out, hn, hf, rfl, rfl, HD, hch⟩ := hrel
      by_cases hpos : 0 < n
      · obtain ⟨f', hf', hstep⟩ := digs_step (out := out) hpos hf
        have HS := Lib.hid hstep
        clear hstep
        have hcv := conv_digit wr n
        go_wp2
        go_roundw
        case rel => exact ⟨n / 10, f', dig8 n :: out, by simp; omega, hf', by go_num, congrArg Value.string (str_add [dig8 n] out), by show _ = _; rw [← HS.out]; exact HD.out, hch.alloc _⟩
        case measure => simp [intOf]; omega
      · obtain rfl : n = 0 := by omega
        go_wp2
        go_ret
        refine ⟨?_, hch⟩
        have h1 := HD.out
        rw [digs_zero] at h1
        rw [mark, if_neg h0, ← h1]
        exact congrArg (fun s => Ending.returned (Value.string s)) (str_add [109] out)

def marks (k n : Nat) : List Bytes := (List.range n).map fun i => mark (k + i)
theorem length_marks (k n : Nat) : (marks k n).length = n := by simp [marks]
theorem marks_get {k n i : Nat} (h : i < n) : (marks k n)[i]? = some (mark (k + i)) := by simp [marks, h]

/-- all texts are marks now -/
def MarkPost (F : Nat → Prop) (v : Value) (k n : Nat) (w : World) (e : Ending) (w' : World) : Prop :=
  e = .returned (.int .i64 ((k + n : Nat) : Int)) ∧ OStrs F w' v (marks k n) ∧ Chg (fun g => some g = v.ownBlock) w w'

set_option maxHeartbeats 400000 in
theorem markStringS_ok (F : Nat → Prop) (v : Value) (ss : List Bytes) (k : Nat) (w : World) (hv : OStrs F w v ss) (hk : k + ss.length ≤ 100000000000000) :
    Calls Tryd.prog 49 #[v, .int .i64 k] w (MarkPost F v k ss.length w) := by
  obtain ⟨hown, hF⟩ := hv
  obtain ⟨a, c, hsh⟩ := ownsRow_shape hown
  subst hsh
  generalize ss.length = n at *
  go_enter Tryd.func49, Tryd.ntmps49
  go_wp2
  go_loopw [1, 5] (fun l i wr => ∃ j : Nat, j ≤ n ∧ i = .int .i64 j ∧ l = .int .i64 ((k + j : Nat) : Int) ∧ (∃ xs : List Value, wr.ownsRow 0 9 1 (.slice a n c) n xs ∧ xs.take j = ((marks k n).map encStr).take j) ∧ Chg (fun g => some g = (Value.slice a n c).ownBlock) w wr) (fun _ i _ => n - (intOf i).toNat)
  case atStart => exact ⟨0, Nat.zero_le _, rfl, by simp, ⟨_, hown, by simp⟩, Chg.refl _ _⟩
  case round =>
    clear hown
    obtain ⟨j, hj, rfl, rfl, ⟨xs, hown, htk⟩, hch⟩ := hrel
    have HT := Lib.hid htk
    clear htk
    by_cases hlt : j < n
    · obtain ⟨g, cg, hform, -, hgl⟩ := hown.form (by omega)
      simp only [Value.slice.injEq] at hform
      obtain ⟨rfl, -, rfl⟩ := hform
      go_wp2_with (go_at_call 48; refine (markText_ok (k + j) _ (by omega)).mono ?_; rintro e w1 ⟨rfl, hc1⟩; have hown1 := ownsRow_chg hown hc1 (fun _ _ x => x); obtain ⟨old, q1, q2⟩ := own_cell hown1 (j := j) (by omega))
      have hxl := hown.1
      go_roundw
      case rel =>
        refine ⟨j + 1, by omega, by go_num, by go_num, ⟨_, (hown1.stored j (encStr (mark (k + j)))).1, take_set_succ (by omega) ?_ HT.out⟩, ?_⟩
        · rw [List.getElem?_map, marks_get hlt]; rfl
        · exact (hch.none hc1).setCell (p := ⟨g, j, none⟩) (fun _ => rfl) _
      case measure => simp [intOf]; omega
    · obtain rfl : j = n := by omega
      go_wp2
      go_ret
      have hxl := hown.1
      have hx : xs = (marks k j).map encStr := by
        have := HT.out
        rwa [List.take_of_length_le (by omega), List.take_of_length_le (by simp [length_marks])] at this
      subst hx
      exact ⟨rfl, ⟨by rw [length_marks]; exact hown, hF⟩, hch⟩

set_option maxHeartbeats 400000 in
theorem heldStringS_ok (F : Nat → Prop) (v : Value) (k n : Nat) (w : World) (hv : RStrs F w v (marks k n)) (hk : k + n ≤ 100000000000000) :
    Calls Tryd.prog 50 #[v, .int .i64 k] w (Ret (.int .i64 ((k + n : Nat) : Int)) w) := by
  obtain ⟨a, ca, rfl, ha1, ha2, ha3⟩ := hv
  rw [length_marks] at ha1 ⊢
  unfold maxLen at ha2
  have HA := Lib.hid ha3
  clear ha3
  go_enter Tryd.func50, Tryd.ntmps50
  go_wp2
  go_loopw [1, 5] (fun l i wr => ∃ j : Nat, j ≤ n ∧ i = .int .i64 j ∧ l = .int .i64 ((k + j : Nat) : Int) ∧ Chg None w wr) (fun _ i _ => n - (intOf i).toNat)
  case atStart => exact ⟨0, Nat.zero_le _, rfl, by simp, Chg.refl _ _⟩
  case round =>
    obtain ⟨j, hj, rfl, rfl, hch⟩ := hrel
    by_cases hlt : j < n
    · obtain ⟨b, off, rfl, _, hcell⟩ := HA.out j (mark (k + j)) (marks_get hlt)
      have h1 := hch.cell hcell (fun x => x)
      clear hcell
      have hb : (!mark (k + j) == mark (k + j)) = false := by simp
      go_wp2
      go_region_held3 (fun w' => w'.cell? ⟨b, off + j, none⟩ = some (encStr (mark (k + j))))
        (first | go_keep | exact hc1.cell (by assumption) (fun x => x))
        (first | (go_at_call 48; refine (markText_ok (k + j) _ (by omega)).mono ?_; rintro e w1 ⟨rfl, hc1⟩))
      go_wp2
      go_roundw
      case rel => exact ⟨j + 1, by omega, by go_num, by go_num, hch.drew.trans hc1⟩
      case measure => simp [intOf]; omega
    · obtain rfl : j = n := by omega
      go_wp2
      go_ret
      exact ⟨rfl, hch⟩

theorem oents_key {F : Nat → Prop} {w : World} {g c i : Nat} {es : KV} {k : Bytes} (h : OEnts F w (.slice (some ⟨g, 0, none⟩) es.length c) es) (hi : i < es.length) :
    OEnts F (w.setCell ⟨g, i * 2, none⟩ (encStr k)) (.slice (some ⟨g, 0, none⟩) es.length c) (es.set i (k, es[i].2)) := by
  obtain ⟨xs, svs, h1, h2, h3, h4, h5⟩ := h
  have hx := h2.1
  refine ⟨_, svs, by simp [h1], by simpa using (h2.stored (i * 2) (encStr k)).1, h3, fun j e sv he hs => ?_, h5⟩
  by_cases hj : j = i
  · subst hj
    rw [List.getElem?_set_self hi] at he
    injection he with he
    subst he
    obtain ⟨a1, a2, a3⟩ := h4 j es[j] sv (by simp [hi]) hs
    rw [List.getElem?_set_self (by omega), List.getElem?_set_ne (by omega)]
    exact ⟨rfl, a2, a3.kept (chg_set1 (Chg.refl _ _)) (fun x hx e => row_ne h2 a3 (by rw [e]; rfl) hx)⟩
  · rw [List.getElem?_set_ne (fun x => hj x.symm)] at he
    obtain ⟨a1, a2, a3⟩ := h4 j e sv he hs
    rw [List.getElem?_set_ne (by omega), List.getElem?_set_ne (by omega)]
    exact ⟨a1, a2, a3.kept (chg_set1 (Chg.refl _ _)) (fun x hx e => row_ne h2 a3 (by rw [e]; rfl) hx)⟩

theorem oents_row {F : Nat → Prop} {w : World} {v : Value} {es : KV} {i : Nat} (h : OEnts F w v es) (hi : i < es.length) :
    ∃ sv, (∀ g n c, v = .slice (some ⟨g, 0, none⟩) n c → w.cell? ⟨g, i * 2 + 1, none⟩ = some sv) ∧ OStrs F w sv es[i].2 ∧ ∀ w' ts, Chg (fun x => some x = sv.ownBlock) w w' → OStrs F w' sv ts → OEnts F w' v (es.set i (es[i].1, ts)) := by
  obtain ⟨xs, svs, h1, h2, h3, h4, h5⟩ := h
  obtain ⟨sv, hsv⟩ := get_of_len h1 hi
  obtain ⟨a1, a2, a3⟩ := h4 i es[i] sv (by simp [hi]) hsv
  refine ⟨sv, fun g n c hv => ?_, a3, fun w' ts hc ho => ?_⟩
  · subst hv
    have := h2.cells (g := g) rfl (i * 2 + 1) _ a2
    rwa [add_off, Nat.zero_add] at this
  · refine ⟨xs, svs, by simp [h1], by simpa using ownsRow_chg h2 hc (fun x hx e => row_ne h2 a3 hx e.symm), h3, fun j e s he hs => ?_, h5⟩
    by_cases hj : j = i
    · subst hj
      rw [List.getElem?_set_self hi] at he
      injection he with he
      subst he
      rw [hsv] at hs
      injection hs with hs
      subst hs
      exact ⟨a1, a2, ho⟩
    · rw [List.getElem?_set_ne (fun x => hj x.symm)] at he
      obtain ⟨b1, b2, b3⟩ := h4 j e s he hs
      refine ⟨b1, b2, b3.kept hc (fun x hx e => ?_)⟩
      rcases h5 j i s sv hj hs hsv with h0 | h0
      · rw [h0] at hx; cases hx
      · exact h0 (by rw [hx, e])

/-- a key marked, then the row of the same entry -/
theorem mark_step {F : Nat → Prop} {w1 : World} {g c n j : Nat} {es : KV} {x : Bytes} (hO : OEnts F w1 (.slice (some ⟨g, 0, none⟩) n c) es) (hn : es.length = n) (hj : j < es.length) :
    ∃ a2 c2 old, w1.cell? ⟨g, j * 2, none⟩ = some old ∧ w1.frozen? ⟨g, j * 2, none⟩ = false ∧ w1.cell? ⟨g, j * 2 + 1, none⟩ = some (.slice a2 es[j].2.length c2) ∧ OStrs F (w1.setCell ⟨g, j * 2, none⟩ (encStr x)) (.slice a2 es[j].2.length c2) es[j].2 ∧
      ∀ w' ts, Chg (fun y => some y = (Value.slice a2 es[j].2.length c2).ownBlock) (w1.setCell ⟨g, j * 2, none⟩ (encStr x)) w' → OStrs F w' (.slice a2 es[j].2.length c2) ts → OEnts F w' (.slice (some ⟨g, 0, none⟩) n c) (es.set j (x, ts)) := by
  subst hn
  obtain ⟨old, q1, q2⟩ : ∃ old, w1.cell? ⟨g, j * 2, none⟩ = some old ∧ w1.frozen? ⟨g, j * 2, none⟩ = false := by
    obtain ⟨xs, svs, _, h2, _⟩ := hO
    exact own_cell h2 (by omega)
  obtain ⟨sv, hcell, hsv, _⟩ := oents_row hO hj
  have c1 := hcell g _ c rfl
  obtain ⟨a2, c2, hsh⟩ := ownsRow_shape hsv.1
  subst hsh
  have hO2 := oents_key (k := x) hO hj
  obtain ⟨sv2, hcell2, hsv2, hback⟩ := oents_row hO2 (i := j) (by simpa using hj)
  have c2' := hcell2 g _ c rfl
  have hoth : (w1.setCell ⟨g, j * 2, none⟩ (encStr x)).cell? ⟨g, j * 2 + 1, none⟩ = w1.cell? ⟨g, j * 2 + 1, none⟩ := World.cell?_setCell_other _ _ _ _ (by simp)
  rw [hoth, c1] at c2'
  injection c2' with c2'
  subst c2'
  refine ⟨a2, c2, old, q1, q2, c1, by simpa using hsv2, fun w' ts hc ho => ?_⟩
  have := hback w' ts hc ho
  simpa using this

/-- how many marks -/
def cnt : KV → Nat
  | [] => 0
  | e :: r => 1 + e.2.length + cnt r
theorem cnt_le (es : KV) : cnt es ≤ bulk es := by
  induction es with
  | nil => simp [cnt]
  | cons e r ih => have := Uv.length_le_bulkS e.2; simp only [cnt, bulk]; omega
theorem cnt_append (a b : KV) : cnt (a ++ b) = cnt a + cnt b := by
  induction a with
  | nil => simp [cnt]
  | cons e r ih => simp only [List.cons_append, cnt, ih]; omega
theorem cnt_take_succ (es : KV) (i : Nat) (h : i < es.length) : cnt (es.take (i + 1)) = cnt (es.take i) + (1 + es[i].2.length) := by
  rw [List.take_succ_eq_append_getElem h, cnt_append]
  simp [cnt]
theorem cnt_take_le (es : KV) (i : Nat) : cnt (es.take i) ≤ cnt es := by
  have := cnt_append (es.take i) (es.drop i)
  rw [List.take_append_drop] at this
  omega

/-- the rows are as long as those of es -/
def Like (es es' : KV) : Prop := es'.length = es.length ∧ ∀ (i : Nat) (h : i < es.length) (h' : i < es'.length), es'[i].2.length = es[i].2.length

theorem Like.set {es es' : KV} (h : Like es es') {i : Nat} (hi : i < es'.length) {k : Bytes} {ts : List Bytes} (ht : ts.length = es'[i].2.length) : Like es (es'.set i (k, ts)) := by
  refine ⟨by simpa using h.1, fun j hj hj' => ?_⟩
  rw [List.getElem_set]
  split
  · rename_i hij
    subst hij
    simp only [ht]
    exact h.2 i hj hi
  · exact h.2 j hj (by simpa using hj')

def MarksPost (F : Nat → Prop) (n : Nat) (w : World) (e : Ending) (w' : World) : Prop := e = .returned (.int .i64 (n : Int)) ∧ Chg F w w'

set_option maxHeartbeats 1000000 in
theorem markEntryS_ok (F : Nat → Prop) (v : Value) (es : KV) (k : Nat) (w : World) (hv : OEnts F w v es) (hk : k + bulk es ≤ 100000000000000) :
    Calls Tryd.prog 20 #[v, .int .i64 k] w (MarksPost F (k + cnt es) w) := by
  have hcl := cnt_le es
  obtain ⟨a, c, hsh⟩ := hv.shape
  subst hsh
  have hln := Uv.length_le_bulk es
  go_enter Tryd.func20, Tryd.ntmps20
  go_wp2
  go_loopw [1, 5] (fun l i wr => ∃ j : Nat, j ≤ es.length ∧ i = .int .i64 j ∧ l = .int .i64 ((k + cnt (es.take j) : Nat) : Int) ∧ (∃ es', Like es es' ∧ OEnts F wr (.slice a es.length c) es') ∧ Chg F w wr) (fun _ i _ => es.length - (intOf i).toNat)
  case atStart => exact ⟨0, Nat.zero_le _, rfl, by simp [cnt], ⟨es, ⟨rfl, fun _ _ _ => rfl⟩, hv⟩, Chg.refl _ _⟩
  case round =>
    clear hv
    obtain ⟨j, hj, rfl, rfl, ⟨es', hlk, hO⟩, hch⟩ := hrel
    have hct := cnt_take_le es j
    by_cases hlt : j < es.length
    · have HC := Lib.hid (cnt_take_succ es j hlt)
      have hct2 := cnt_take_le es (j + 1)
      have hlen : es'.length = es.length := hlk.1
      have hj' : j < es'.length := by omega
      have HR := Lib.hid (hlk.2 j hlt hj')
      have HLn := Lib.hid hlen
      obtain ⟨g, hga, hgF⟩ : ∃ g, a = some ⟨g, 0, none⟩ ∧ F g := by
        obtain ⟨xs, svs, _, h2, h3, _⟩ := hO
        rw [hlen] at h2
        obtain ⟨g, cg, hf, _⟩ := h2.form (by omega)
        simp only [Value.slice.injEq] at hf
        exact ⟨g, hf.1, h3 g (by rw [hf.1]; rfl)⟩
      subst hga
      go_wp2_with fail
      refine (markText_ok (k + cnt (es.take j)) _ (by omega)).mono ?_
      rintro e w1 ⟨rfl, hc1⟩
      obtain ⟨a2, c2, old, q1, q2, c1, hsv, hback⟩ := mark_step (x := mark (k + cnt (es.take j))) (hO.new hc1) hlen hj'
      rw [HR.out] at c1 hsv hback
      have HB := Lib.hid hback
      have hc2 : Chg F w (w1.setCell ⟨g, j * 2, none⟩ (encStr (mark (k + cnt (es.take j))))) := (hch.none hc1).setCell (p := ⟨g, j * 2, none⟩) (fun _ => hgF) _
      have hLs : es'[j].2.length = es[j].2.length := HR.out
      have hn2 : k + cnt (es.take j) + 1 + es'[j].2.length ≤ 100000000000000 := by have := HC.out; omega
      have HLs := Lib.hid hLs
      clear hback hlen hLs
      go_wp2_with (go_at_call 49; refine (markStringS_ok F _ es'[j].2 (k + cnt (es.take j) + 1) _ hsv hn2).mono ?_; rw [HLs.out]; rintro e w3 ⟨rfl, hm3, hc3⟩)
      go_roundw
      case rel =>
        refine ⟨j + 1, by omega, by go_num, by rw [HC.out]; go_num, ⟨_, hlk.set (k := mark (k + cnt (es.take j))) hj' ?_, HB.out w3 _ hc3 hm3⟩, ?_⟩
        · rw [length_marks, HLs.out]
        · exact hc2.then hc3 (fun i _ e => hsv.2 i e.symm)
      case measure => simp [intOf]; omega
    · go_wp2
      go_ret
      rw [List.take_of_length_le (by omega)]
      exact ⟨rfl, hch⟩
end Go.Proofs.YtcbenidcaaegnaaDoor
