/-
  FnEncodeOne's walk: where the key and the values are of bulk at most 1048576 the law returns true, and writes nothing that was there.
-/
import Derived.Test.YtoeilmegjjmnkaaDoorOpen
import Derived.Test.YtoeilmegjjmnkaaDoorOneEnt
import Derived.Test.YtoeilmegjjmnkaaDoorEncode
import Derived.Test.YtoeilmegjjmnkaaDoorEncLaw
namespace Go.Proofs.YtoeilmegjjmnkaaDoor.fnEncodeOne
open Go.RowKit
open Uv (Bytes Ent KV bulk bulkS kept enc joinA esc)

set_option maxRecDepth 100000 in
set_option maxHeartbeats 1000000 in
theorem walk (k : Bytes) (lv : Value) (l : List Bytes) (w : World) (hl : RStrs All w lv l) (hb : k.length + bulkS l ≤ 1048576) (hT : Tab w) : Calls Tryd.prog 6 #[encStr k, lv] w (Ret (.bool true) w) := by
  have hbk : bulk [(k, l)] ≤ 4194304 := by simp only [bulk]; omega
  have hln := Uv.length_le_bulkS l
  have hbd : Hid (∀ i, (joinA ((l.take i).map (Uv.part k))).length ≤ 120000000000000) := Lib.hid (fun i => Uv.bnd (m := [(k, l)]) (by simp [Uv.Uniq, Uv.keys]) hbk (r := (l.drop i).map (Uv.part k)) (by rw [Uv.parts_one, ← List.map_append, List.take_append_drop]))
  have HO := Lib.hid (Uv.enc_one k l)
  have hls := hl
  obtain ⟨a, cap, rfl, h1, h2, h3⟩ := hl
  unfold maxLen at h2
  have H3 := Lib.hid h3
  clear h3
  have hek := Uv.length_esc_le k
  go_enter Tryd.func6, Tryd.ntmps6
  go_wp2
  go_loopw [5, 10] (fun sv iv wr => ∃ i : Nat, i ≤ l.length ∧ iv = .int .i64 i ∧ sv = encStr (joinA ((l.take i).map (Uv.part k))) ∧ Chg None w wr) (fun _ iv _ => l.length - (intOf iv).toNat)
  case atStart => exact ⟨0, Nat.zero_le _, rfl, rfl, Chg.refl _ _⟩
  case round =>
    obtain ⟨i, hi, rfl, rfl, hch⟩ := hrel
    have hbi := hbd.out i
    by_cases hlt : i < l.length
    · obtain ⟨b, off, rfl, _, hc⟩ := H3.out i l[i] (by simp [hlt])
      have hc := hch.cell hc (fun x => x)
      have hvl : l[i].length ≤ 1048576 := by have := Uv.mem_le_bulkS (List.getElem_mem hlt); omega
      have hev := Uv.length_esc_le l[i]
      have HSN : Hid (joinA ((l.take (i + 1)).map (Uv.part k)) = Uv.app (joinA ((l.take i).map (Uv.part k))) (Uv.part k l[i])) := by
        show _ = _
        rw [List.take_succ_eq_append_getElem hlt, List.map_append]
        exact Uv.joinA_snoc _ _
      have HZ : Hid (joinA ((l.take i).map (Uv.part k)) = [] ↔ i = 0) := by
        show _ ↔ _
        rw [Uv.joinA_eq_nil (fun q hq => by obtain ⟨v, _, rfl⟩ := List.mem_map.1 hq; exact Uv.part_ne k v), List.map_eq_nil_iff, List.take_eq_nil_iff]
        exact ⟨fun h => h.elim id (fun h => by subst h; simp at hlt), Or.inl⟩
      generalize joinA ((l.take i).map (Uv.part k)) = t at *
      generalize l[i] = v at *
      by_cases hi0 : i = 0
      · have ht := HZ.out.2 hi0
        subst ht
        have hip : ¬ 0 < i := by omega
        have d0 : decide ((0 : Int) < (i : Int)) = false := by simp; omega
        clear hi0
        obtain ⟨t2, ht2⟩ : ∃ t2, esc k ++ [61] = t2 := ⟨_, rfl⟩
        obtain ⟨t3, ht3⟩ : ∃ t3, t2 ++ esc v = t3 := ⟨_, rfl⟩
        have HL : Hid (Uv.app [] (Uv.part k v) = t3) := by show _ = _; rw [← ht3, ← ht2]; simp [Uv.app, Uv.part]
        rw [HL.out] at HSN
        have e1 : (⟨#[]⟩ : ByteArray) ++ ⟨(esc k).toArray⟩ = ⟨(esc k).toArray⟩ := str_add [] (esc k)
        have e2 : (⟨(esc k).toArray⟩ : ByteArray) ++ ⟨#[61]⟩ = ⟨t2.toArray⟩ := by rw [← ht2]; exact str_add (esc k) [61]
        have e3 : (⟨t2.toArray⟩ : ByteArray) ++ ⟨(esc v).toArray⟩ = ⟨t3.toArray⟩ := by rw [← ht3]; exact str_add _ _
        have l2 : t2.length ≤ 4194304 := by rw [← ht2, List.length_append, List.length_singleton]; omega
        clear ht2 ht3 HL
        go_wp2_with fail
        refine (implQueryEscape_ok k _ (hT.new hch) (by omega)).mono ?_
        rintro e w1 ⟨rfl, c1⟩
        go_wp2_with fail
        refine (implQueryEscape_ok v _ ((hT.new hch).new c1) (by omega)).mono ?_
        rintro e w2 ⟨rfl, c2⟩
        clear HZ
        go_wp2
        go_roundw
        case rel => exact ⟨i + 1, by omega, by go_num, by rw [HSN.out], (hch.trans c1).trans c2⟩
        case measure => simp [intOf]; omega
      · have hip : 0 < i := by omega
        have d0 : decide ((0 : Int) < (i : Int)) = true := by simp; omega
        have htn : ¬ t = [] := fun x => hi0 (HZ.out.1 x)
        obtain ⟨t0, ht0⟩ : ∃ t0, t ++ [38] = t0 := ⟨_, rfl⟩
        obtain ⟨t1, ht1⟩ : ∃ t1, t0 ++ esc k = t1 := ⟨_, rfl⟩
        obtain ⟨t2, ht2⟩ : ∃ t2, t1 ++ [61] = t2 := ⟨_, rfl⟩
        obtain ⟨t3, ht3⟩ : ∃ t3, t2 ++ esc v = t3 := ⟨_, rfl⟩
        have HL : Hid (Uv.app t (Uv.part k v) = t3) := by show _ = _; rw [← ht3, ← ht2, ← ht1, ← ht0]; simp [Uv.app, Uv.part, htn]
        rw [HL.out] at HSN
        have e0 : (⟨t.toArray⟩ : ByteArray) ++ ⟨#[38]⟩ = ⟨t0.toArray⟩ := by rw [← ht0]; exact str_add t [38]
        have e1 : (⟨t0.toArray⟩ : ByteArray) ++ ⟨(esc k).toArray⟩ = ⟨t1.toArray⟩ := by rw [← ht1]; exact str_add t0 (esc k)
        have e2 : (⟨t1.toArray⟩ : ByteArray) ++ ⟨#[61]⟩ = ⟨t2.toArray⟩ := by rw [← ht2]; exact str_add t1 [61]
        have e3 : (⟨t2.toArray⟩ : ByteArray) ++ ⟨(esc v).toArray⟩ = ⟨t3.toArray⟩ := by rw [← ht3]; exact str_add _ _
        have l0 : t0.length ≤ 120000000000001 := by rw [← ht0, List.length_append, List.length_singleton]; omega
        have l1 : t1.length ≤ 120000010000001 := by rw [← ht1, List.length_append]; omega
        have l2 : t2.length ≤ 120000010000002 := by rw [← ht2, List.length_append, List.length_singleton]; omega
        clear ht0 ht1 ht2 ht3 HL htn hi0
        go_wp2_with fail
        refine (implQueryEscape_ok k _ (hT.new hch) (by omega)).mono ?_
        rintro e w1 ⟨rfl, c1⟩
        go_wp2_with fail
        refine (implQueryEscape_ok v _ ((hT.new hch).new c1) (by omega)).mono ?_
        rintro e w2 ⟨rfl, c2⟩
        clear HZ
        go_wp2
        go_roundw
        case rel => exact ⟨i + 1, by omega, by go_num, by rw [HSN.out], (hch.trans c1).trans c2⟩
        case measure => simp [intOf]; omega
    · obtain rfl : i = l.length := by omega
      rw [List.take_of_length_le (Nat.le_refl _)]
      have hl1 := (hls.new hch).new ((Chg.refl None wr).alloc (.cells #[] 9))
      go_wp2_with (at_builtin; refine wpList_app _ elStr rfl _ _ _ rfl (World.ownsRow_lit wr #[] 0 (Nat.zero_le _) (by simp [maxLen]) rfl) rfl hl1.src rfl (by unfold maxLen; omega) (by omega) ?_; rw [Nat.zero_add]; intro a2 c2 w2 hs2 hg2 hl2; have hE : REnts (fun _ => True) (w2.alloc (.cells #[encStr k, .slice a2 l.length c2] 28)) (.slice (some ⟨w2.heap.size, 0, none⟩) 1 1) [(k, l)] := one_ent (F := All) (OStrs.read ⟨by simpa using hs2, fun _ _ => trivial⟩); have hc2 : Chg None w (w2.alloc (.cells #[encStr k, .slice a2 l.length c2] 28)) := (hch.trans (((Chg.refl None wr).alloc _).then (Chg.ofGrown hg2) (fun i hi e => Nat.ne_of_lt hi (own_new e.symm)))).alloc _)
      refine (implEncode_ok _ _ [(k, l)] _ hE (hT.new hc2) hbk).mono ?_
      rw [kept_one, HO.out]
      rintro e w3 ⟨rfl, c3⟩
      have hbe : (joinA (l.map (Uv.part k)) == joinA (l.map (Uv.part k))) = true := by simp
      generalize joinA (l.map (Uv.part k)) = t at *
      go_wp2
      go_ret
      exact ⟨rfl, hc2.trans c3⟩
end Go.Proofs.YtoeilmegjjmnkaaDoor.fnEncodeOne
