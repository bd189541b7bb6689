/-
  Slices of entries that are read; impl.values.
-/
import Derived.Test.YtkenogafadjkcaaMapOps
import Derived.Deep.RegionHeld3
namespace Go.Proofs.Ytkenogafadjkcaa
open Go.RowKit
open Uv (Bytes Ent KV lk vals has addAll del sett add keys Uniq bulk bulkS kept)

/-- A slice that reads as entries, in blocks of F. -/
def REnts (F : Nat → Prop) (w : World) (v : Value) (es : KV) : Prop :=
  ∃ a cap, v = .slice a es.length cap ∧ es.length ≤ cap ∧ cap ≤ maxLen ∧
    ∀ i e, es[i]? = some e → ∃ b off sv, a = some ⟨b, off, none⟩ ∧ F b ∧ w.cell? ⟨b, off + i * 2, none⟩ = some (encStr e.1) ∧ w.cell? ⟨b, off + i * 2 + 1, none⟩ = some sv ∧ RStrs F w sv e.2

theorem REnts.mono {F G : Nat → Prop} {w : World} {v : Value} {es : KV} (h : REnts F w v es) (hs : ∀ k, k < w.heap.size → F k → G k) : REnts G w v es := by
  obtain ⟨a, cap, rfl, h1, h2, h3⟩ := h
  refine ⟨a, cap, rfl, h1, h2, fun i e he => ?_⟩
  obtain ⟨b, off, sv, ha, hf, hc, hc2, hr⟩ := h3 i e he
  exact ⟨b, off, sv, ha, hs b (World.block_lt_of_cell? w _ hc) hf, hc, hc2, hr.mono hs⟩
theorem REnts.kept {F G : Nat → Prop} {w w' : World} {v : Value} {es : KV} (h : REnts F w v es) (hc : Chg G w w') (hd : ∀ k, k < w.heap.size → F k → ¬ G k) : REnts F w' v es := by
  obtain ⟨a, cap, rfl, h1, h2, h3⟩ := h
  refine ⟨a, cap, rfl, h1, h2, fun i e he => ?_⟩
  obtain ⟨b, off, sv, ha, hf, hcell, hcell2, hr⟩ := h3 i e he
  have hn := hd b (World.block_lt_of_cell? w _ hcell) hf
  exact ⟨b, off, sv, ha, hf, hc.cell hcell hn, hc.cell hcell2 hn, hr.kept hc hd⟩
theorem REnts.new {F : Nat → Prop} {w w' : World} {v : Value} {es : KV} (h : REnts F w v es) (hc : Chg None w w') : REnts F w' v es := h.kept hc (fun _ _ _ x => x)

/-- A slice of slices of texts, in blocks of F. -/
def RTextss (F : Nat → Prop) (w : World) (v : Value) (vss : List (List Bytes)) : Prop :=
  ∃ a cap, v = .slice a vss.length cap ∧ vss.length ≤ cap ∧ cap ≤ maxLen ∧
    ∀ i x, vss[i]? = some x → ∃ b off sv, a = some ⟨b, off, none⟩ ∧ F b ∧ w.cell? ⟨b, off + i, none⟩ = some sv ∧ RStrs F w sv x
theorem RTextss.kept {F G : Nat → Prop} {w w' : World} {v : Value} {vss : List (List Bytes)} (h : RTextss F w v vss) (hc : Chg G w w') (hd : ∀ k, k < w.heap.size → F k → ¬ G k) : RTextss F w' v vss := by
  obtain ⟨a, cap, rfl, h1, h2, h3⟩ := h
  refine ⟨a, cap, rfl, h1, h2, fun i e he => ?_⟩
  obtain ⟨b, off, sv, ha, hf, hcell, hr⟩ := h3 i e he
  exact ⟨b, off, sv, ha, hf, hc.cell hcell (hd b (World.block_lt_of_cell? w _ hcell) hf), hr.kept hc hd⟩
theorem RTextss.new {F : Nat → Prop} {w w' : World} {v : Value} {vss : List (List Bytes)} (h : RTextss F w v vss) (hc : Chg None w w') : RTextss F w' v vss := h.kept hc (fun _ _ _ x => x)

/-- a new map that has the keys and values of m -/
def MadePost (m : KV) (w : World) (e : Ending) (w' : World) : Prop :=
  ∃ b, e = .returned (.map (some b)) ∧ VMap (fun g => w.heap.size ≤ g) w' b m ∧ Chg None w w'

/-- 'm[k] = append(m[k], ts...)': the store behind the append -/
theorem append_step {F : Nat → Prop} {wr W1 w3 : World} {b : Nat} {m : KV} {k : Bytes} {u v' : Value} {ts : List Bytes} (hM : VMap F wr b m) (hs : OStrs F wr u (vals m k)) (hB : Back F wr b m k u) (hc : Chg None wr W1)
    (hg3 : W1.grownBy w3 u.ownBlock) (hs3 : w3.ownsRow 0 9 1 v' ((vals m k).length + ts.length) ((vals m k).map encStr ++ ts.map encStr)) (hl3 : v'.ownBlock = u.ownBlock ∨ v'.ownBlock = some W1.heap.size) (hF : ∀ g, wr.heap.size ≤ g → F g) (hml : m.length < maxLen) :
    ∃ w4, (Instr.mapUpdate 30 (.map (some b)) (encStr k) v').run Try.prog w3 = .ok () w4 ∧ VMap F w4 b (addAll m k ts) ∧ Chg F wr w4 ∧ w3.grownBy w4 (some b) := by
  have h1 : Chg (fun g => some g = u.ownBlock) wr w3 := (hc.any).trans (Chg.ofGrown hg3)
  have hloc := app_loc hs hc.size hl3
  obtain ⟨w4, hrun, hM4, hg4⟩ := hB w3 v' (vals m k ++ ts) F h1 (fun _ h => h) ⟨by simpa using hs3, fun g hg => (hloc.1 g hg).elim id (hF g)⟩ hloc.2 hml
  rw [put_eq_addAll hM.uniq] at hM4
  exact ⟨w4, hrun, hM4, map_step hs hM.here h1 hg4, hg4⟩

/-- what 'values' makes of es is not too long for append -/
def ValOk (es : KV) : Prop :=
  es.length < maxLen ∧ (∀ e ∈ es, e.1.length ≤ maxLen) ∧ ∀ (j : Nat) (h : j < es.length), ((vals (kept (es.take j)) es[j].1).length + es[j].2.length) * 16 ≤ 140737488355328

theorem valOk_of_bulk {es : KV} (hN : bulk es ≤ 4194304) : ValOk es := by
  refine ⟨by have := Uv.length_le_bulk es; unfold maxLen; omega, fun e he => by have := Uv.mem_le_bulk he; unfold maxLen; omega, fun j hj => ?_⟩
  have h1 := Uv.length_vals (kept (es.take j)) es[j].1
  have h2 := Uv.bulk_kept (es.take j)
  have h3 := Uv.bulk_take es j
  have h4 := Uv.mem_le_bulk (List.getElem_mem hj)
  have h5 := Uv.length_le_bulkS es[j].2
  omega

set_option maxRecDepth 100000 in
set_option maxHeartbeats 1000000 in
theorem values_ok (F : Nat → Prop) (v : Value) (es : KV) (w : World) (hv : REnts F w v es) (hN : ValOk es) :
    Calls Try.prog 6 #[v] w (MadePost (kept es) w) := by
  have hl := hN.1
  unfold maxLen at hl
  have HV := Lib.hid hv
  obtain ⟨a, cap, rfl, h1, h2, h3⟩ := hv
  unfold maxLen at h2
  have H3 := Lib.hid h3
  clear h3
  have hmm := @run_makeMap Try.prog
  go_enter Try.func6, Try.ntmps6
  go_wp2
  go_loopw [9] (fun i wr => ∃ k : Nat, k ≤ es.length ∧ i = .int .i64 k ∧ VMap (fun g => w.heap.size ≤ g) wr w.heap.size (kept (es.take k)) ∧ Chg None w wr) (fun i _ => es.length - (intOf i).toNat)
  case atStart => exact ⟨0, Nat.zero_le _, rfl, VMap.made w, (Chg.refl _ _).alloc _⟩
  case round =>
    obtain ⟨k, hk, rfl, hM, hch⟩ := hrel
    by_cases hlt : k < es.length
    · obtain ⟨b, off, sv, rfl, _, hc1, hc2, hr⟩ := H3.out k es[k] (by simp [hlt])
      have hc1 := hch.cell hc1 (fun x => x)
      have hc2 := hch.cell hc2 (fun x => x)
      have hr := hr.new hch
      obtain ⟨a2, cap2, hsv, -⟩ := id hr
      subst hsv
      go_wp2
      have hkl : es[k].1.length ≤ maxLen := hN.2.1 _ (List.getElem_mem hlt)
      have hml : (kept (es.take k)).length < maxLen := by have h1 := Uv.length_kept (es.take k); have h2 := hN.1; simp at h1; omega
      have hvl := hN.2.2 k hlt
      have hcA : Chg None wr (wr.alloc (Obj.cells #[Value.string { data := List.toArray es[k].fst }, Value.slice a2 es[k].snd.length cap2] 24)) := (Chg.refl _ _).alloc _
      obtain ⟨ad, c3, hlook, -, hs, hB⟩ := hM.at_key hkl
      have hrun := hlook None _ hcA.drew (fun x => x)
      have hs1 := hs.kept hcA.drew (fun _ _ x => x)
      have hrow : ∀ g, (Value.slice ad (vals (kept (es.take k)) es[k].1).length c3).ownBlock = some g → g < wr.heap.size := fun g hg => (hs.1.lt g hg).2
      have HB := Lib.hid hB
      clear hlook hB
      have hge : ∀ g, wr.heap.size ≤ g → w.heap.size ≤ g := fun g hg => Nat.le_trans hch.size hg
      have hr1 := hr.new hcA
      have hch1 := hch.none hcA
      have hsz : wr.heap.size < (wr.alloc (Obj.cells #[Value.string { data := List.toArray es[k].fst }, Value.slice a2 es[k].snd.length cap2] 24)).heap.size := by simp
      have e1 : (wr.alloc (Obj.cells #[Value.string { data := List.toArray es[k].fst }, Value.slice a2 es[k].snd.length cap2] 24)).cell? ⟨wr.heap.size, 0, none⟩ = some (encStr es[k].1) := by simp
      have e2 : (wr.alloc (Obj.cells #[Value.string { data := List.toArray es[k].fst }, Value.slice a2 es[k].snd.length cap2] 24)).cell? ⟨wr.heap.size, 1, none⟩ = some (.slice a2 es[k].2.length cap2) := by simp
      generalize wr.alloc (Obj.cells #[Value.string { data := List.toArray es[k].fst }, Value.slice a2 es[k].snd.length cap2] 24) = W1 at *
      obtain ⟨E, hE⟩ : ∃ E, wr.heap.size = E := ⟨_, rfl⟩
      rw [hE] at e1 e2 hrow ⊢
      have hltE : ∀ g, (Value.slice ad (vals (kept (es.take k)) es[k].1).length c3).ownBlock = some g → g < E := hrow
      have hbE : w.heap.size ≠ E := by have := hM.lt; omega
      have HE := Lib.hid hE
      clear hE hrow
      have hrow := hltE
      have hr2 := hr1.new (((Chg.refl None W1)).drew)
      have hdr : W1.drew.heap.size = W1.heap.size := rfl
      go_region_held3 (fun w' => w'.cell? ⟨E, 0, none⟩ = some (encStr es[k].1) ∧ w'.cell? ⟨E, 1, none⟩ = some (.slice a2 es[k].2.length cap2))
        (first | (go_split_ands; exact ⟨by go_keep, by go_keep⟩) | (go_split_ands; exact ⟨(Chg.ofGrown hg4).cell (by assumption) (fun e => hbE (by injection e with e; exact e.symm)), (Chg.ofGrown hg4).cell (by assumption) (fun e => hbE (by injection e with e; exact e.symm))⟩) | (go_split_ands; exact ⟨(Chg.ofGrown hg3).cell (by assumption) (fun e => Nat.lt_irrefl _ (hrow _ e.symm)), (Chg.ofGrown hg3).cell (by assumption) (fun e => Nat.lt_irrefl _ (hrow _ e.symm))⟩))
        (first | (refine step_app _ elStr rfl _ _ _ rfl hs1.1 rfl hr2.src rfl (by unfold maxLen; omega) (by omega) ?_; intro a3 c4 w3 hs3 hg3 hl3; obtain ⟨w4, hrun4, hM4, hc4, hg4⟩ := append_step hM hs HB.out hcA.drew hg3 hs3 hl3 hge hml))
      go_wp2
      go_roundw
      case rel =>
        refine ⟨k + 1, by omega, by go_num, ?_, hch.then hc4 (fun i hi h => absurd hi (Nat.not_lt.2 h))⟩
        rw [List.take_succ_eq_append_getElem hlt, Uv.kept_snoc]
        exact hM4
      case measure => simp [intOf]; omega
    · go_wp2
      go_ret
      refine ⟨_, rfl, ?_, hch⟩
      rwa [List.take_of_length_le (by omega)] at hM
end Go.Proofs.Ytkenogafadjkcaa
