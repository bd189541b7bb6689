/-
  The map's operations, at the walk's own steps; and the methods of url.Values.
-/
import Derived.Test.YtkenogafadjkcaaMap
import Derived.Test.YtkenogafadjkcaaStrs
namespace Go.Proofs.Ytkenogafadjkcaa
open Go.RowKit
open Uv (Bytes Ent KV lk vals has addAll del sett add keys Uniq)

/-- the way back: whatever is done to v's own row and to new blocks, a store at the key leaves the map again -/
def Back (F : Nat → Prop) (w : World) (b : Nat) (m : KV) (k : Bytes) (v : Value) : Prop :=
  ∀ (w1 : World) (v' : Value) (vs : List Bytes) (F' : Nat → Prop), Chg (fun g => some g = v.ownBlock) w w1 → (∀ g, F g → F' g) → OStrs F' w1 v' vs → (v'.ownBlock = v.ownBlock ∨ ∀ g, v'.ownBlock = some g → w.heap.size ≤ g) → m.length < maxLen →
    ∃ w2, (Instr.mapUpdate 30 (.map (some b)) (encStr k) v').run Try.prog w1 = .ok () w2 ∧ VMap F' w2 b (put m k vs) ∧ w1.grownBy w2 (some b)

section
variable {F : Nat → Prop} {w : World} {b : Nat} {m : KV} {k : Bytes}

theorem VMap.at_key (h : VMap F w b m) (hk : k.length ≤ maxLen) :
    ∃ a cap, (∀ (G : Nat → Prop) w', Chg G w w' → ¬ G b → (Instr.lookup 30 (.map (some b)) (encStr k) false).run Try.prog w' = .ok (.slice a (vals m k).length cap) w') ∧
      (∀ (G : Nat → Prop) w', Chg G w w' → ¬ G b → (Instr.lookup 30 (.map (some b)) (encStr k) true).run Try.prog w' = .ok (.tuple #[.slice a (vals m k).length cap, .bool (has m k)]) w') ∧
      OStrs F w (.slice a (vals m k).length cap) (vals m k) ∧ Back F w b m k (.slice a (vals m k).length cap) := by
  obtain ⟨n, D, vf, h⟩ := h
  have h1 := fun (G : Nat → Prop) w' (hc : Chg G w w') (hG : ¬ G b) => h.look_run hk (ownsMap_chg h.owns hc hG)
  have h2 := fun (G : Nat → Prop) w' (hc : Chg G w w') (hG : ¬ G b) => h.look_ok_run hk (ownsMap_chg h.owns hc hG)
  have hlt : ∀ j, has m j = true → ∀ g, (vf j).ownBlock = some g → g < w.heap.size := fun j hj g hg => ((h.rows j hj).1.lt g hg).2
  have hnb : ∀ j, has m j = true → ∀ g, (vf j).ownBlock = some g → g ≠ b := by
    intro j hj g hg e
    subst e
    obtain ⟨es, clock, hb, _⟩ := h.owns
    rcases (h.rows j hj).1.2 with ⟨he, _⟩ | ⟨g', cap, cur, he, _, hgg, _⟩
    · rw [he] at hg; simp [Value.ownBlock] at hg
    · rw [he] at hg
      simp [Value.ownBlock] at hg
      subst hg
      rw [hb] at hgg
      cases hgg
  by_cases hh : has m k = true
  · have ho := h.rows k hh
    obtain ⟨a, cap, hv⟩ := ownsRow_shape ho.1
    simp only [hh, if_true, hv] at h1 h2
    rw [hv] at ho
    refine ⟨a, cap, h1, by rw [hh]; exact h2, ho, fun w1 v' vs F' hc hF ho' hloc hm => ?_⟩
    refine h.put_run hk hm hc (fun e => hnb k hh b (by rw [hv]; exact e.symm) rfl) (fun j hj hhj g hg e => ?_) hF ho' (fun j hj hhj => ?_)
    · rcases h.apart j k hhj hh hj with h0 | h0
      · rw [h0] at hg; cases hg
      · exact h0 (by rw [hg, hv, ← e])
    · rcases hloc with hl | hl
      · rw [hl, ← hv]
        exact h.apart k j hh hhj (fun e => hj e.symm)
      · cases hv' : v'.ownBlock with
        | none => exact .inl rfl
        | some g =>
          right
          intro e
          have := hl g hv'
          have := hlt j hhj g e.symm
          omega
  · have hv0 : vals m k = [] := by
      have : lk m k = none := by simpa [has] using hh
      simp [vals, this]
    have hf : has m k = false := by simpa using hh
    simp only [hf, Bool.false_eq_true, if_false] at h1 h2
    rw [hv0, hf]
    refine ⟨none, 0, h1, h2, OStrs.nil _ _, fun w1 v' vs F' hc hF ho' hloc hm => ?_⟩
    refine h.put_run hk hm hc (fun e => by simp [Value.ownBlock] at e) (fun j hj hhj g hg e => by simp [Value.ownBlock] at e) hF ho' (fun j hj hhj => ?_)
    rcases hloc with hl | hl
    · left; rw [hl]; rfl
    · cases hv' : v'.ownBlock with
      | none => exact .inl rfl
      | some g =>
        right
        intro e
        have := hl g hv'
        have := hlt j hhj g e.symm
        omega
end

section
variable {F : Nat → Prop} {w : World} {b : Nat} {m : KV} {k : Bytes} {ops : Array Oper} {rest : List Oper} {o : Oper} {a : Act} {Q : Exit → Act → World → Prop} {K : Act → World → Prop}

theorem wp_lookup (x y : Operand) (ho : o.op = Op.lookup 30 x y false) (hM : VMap F w b m) (hx : a.eval x = .map (some b)) (hy : a.eval y = encStr k) (hk : k.length ≤ maxLen)
    (h : ∀ ad cap, OStrs F w (.slice ad (vals m k).length cap) (vals m k) → Back F w b m k (.slice ad (vals m k).length cap) → K (a.put o.dst (.slice ad (vals m k).length cap)) w) : o.wp Try.prog a w K Q := by
  obtain ⟨ad, cap, hr, _, h1, h2⟩ := hM.at_key hk
  have hr := hr None w (Chg.refl _ _) (fun x => x)
  unfold Oper.wp
  simp [execOp, ho, hx, hy, hr, Result.andThen]
  exact h ad cap h1 h2

theorem wpList_lookup (hg : o.guard = none) (x y : Operand) (ho : o.op = Op.lookup 30 x y false) (hM : VMap F w b m) (hx : a.eval x = .map (some b)) (hy : a.eval y = encStr k) (hk : k.length ≤ maxLen)
    (h : ∀ ad cap, OStrs F w (.slice ad (vals m k).length cap) (vals m k) → Back F w b m k (.slice ad (vals m k).length cap) → wpList Try.prog ops Q rest (a.put o.dst (.slice ad (vals m k).length cap)) w) : wpList Try.prog ops Q (o :: rest) a w :=
  wpList_plain hg fun _ hK => wp_lookup x y ho hM hx hy hk fun ad cap h1 h2 => hK _ _ (h ad cap h1 h2)

theorem wpList_lookup_ok (hg : o.guard = none) (x y : Operand) (ho : o.op = Op.lookup 30 x y true) (hM : VMap F w b m) (hx : a.eval x = .map (some b)) (hy : a.eval y = encStr k) (hk : k.length ≤ maxLen)
    (h : ∀ ad cap, OStrs F w (.slice ad (vals m k).length cap) (vals m k) → wpList Try.prog ops Q rest (a.put o.dst (.tuple #[.slice ad (vals m k).length cap, .bool (has m k)])) w) : wpList Try.prog ops Q (o :: rest) a w := by
  refine wpList_plain hg fun K' hK' => ?_
  obtain ⟨ad, cap, _, hr, h1, _⟩ := hM.at_key hk
  have hr := hr None w (Chg.refl _ _) (fun x => x)
  unfold Oper.wp
  simp [execOp, ho, hx, hy, hr, Result.andThen]
  exact hK' _ _ (h ad cap h1)

theorem step_lookup {X : Prop} (hg : o.guard = none) (x y : Operand) (ho : o.op = Op.lookup 30 x y false) (hM : VMap F w b m) (hx : a.eval x = .map (some b)) (hy : a.eval y = encStr k) (hk : k.length ≤ maxLen)
    (h : ∀ ad cap, OStrs F w (.slice ad (vals m k).length cap) (vals m k) → Back F w b m k (.slice ad (vals m k).length cap) → K (a.put o.dst (.slice ad (vals m k).length cap)) w) :
    if Region.wanted o (yielded ops a.tmps) = true then Oper.wp Try.prog o a w K Q else X := by
  have hw : Region.wanted o (yielded ops a.tmps) = true := by simp [Region.wanted, hg]
  rw [if_pos hw]
  exact wp_lookup x y ho hM hx hy hk h

theorem wp_back {F' : Nat → Prop} {w0 : World} {u v' : Value} {vs : List Bytes} (x y z : Operand) (ho : o.op = Op.mapUpdate 30 x y z) (hB : Back F w0 b m k u) (hx : a.eval x = .map (some b)) (hy : a.eval y = encStr k) (hz : a.eval z = v')
    (hc : Chg (fun g => some g = u.ownBlock) w0 w) (hF : ∀ g, F g → F' g) (hv : OStrs F' w v' vs) (hloc : v'.ownBlock = u.ownBlock ∨ ∀ g, v'.ownBlock = some g → w0.heap.size ≤ g) (hm : m.length < maxLen)
    (h : ∀ w2, VMap F' w2 b (put m k vs) → w.grownBy w2 (some b) → K (a.put o.dst undef) w2) : o.wp Try.prog a w K Q := by
  obtain ⟨w2, hr, h1, h2⟩ := hB w v' vs F' hc hF hv hloc hm
  unfold Oper.wp
  simp [execOp, ho, hx, hy, hz, hr, Result.andThen]
  exact h w2 h1 h2

theorem wpList_back {F' : Nat → Prop} {w0 : World} {u v' : Value} {vs : List Bytes} (hg : o.guard = none) (x y z : Operand) (ho : o.op = Op.mapUpdate 30 x y z) (hB : Back F w0 b m k u) (hx : a.eval x = .map (some b)) (hy : a.eval y = encStr k) (hz : a.eval z = v')
    (hc : Chg (fun g => some g = u.ownBlock) w0 w) (hF : ∀ g, F g → F' g) (hv : OStrs F' w v' vs) (hloc : v'.ownBlock = u.ownBlock ∨ ∀ g, v'.ownBlock = some g → w0.heap.size ≤ g) (hm : m.length < maxLen)
    (h : ∀ w2, VMap F' w2 b (put m k vs) → w.grownBy w2 (some b) → wpList Try.prog ops Q rest (a.put o.dst undef) w2) : wpList Try.prog ops Q (o :: rest) a w :=
  wpList_plain hg fun _ hK => wp_back x y z ho hB hx hy hz hc hF hv hloc hm fun w2 h1 h2 => hK _ _ (h w2 h1 h2)

theorem step_back {X : Prop} {F' : Nat → Prop} {w0 : World} {u v' : Value} {vs : List Bytes} (hg : o.guard = none) (x y z : Operand) (ho : o.op = Op.mapUpdate 30 x y z) (hB : Back F w0 b m k u) (hx : a.eval x = .map (some b)) (hy : a.eval y = encStr k) (hz : a.eval z = v')
    (hc : Chg (fun g => some g = u.ownBlock) w0 w) (hF : ∀ g, F g → F' g) (hv : OStrs F' w v' vs) (hloc : v'.ownBlock = u.ownBlock ∨ ∀ g, v'.ownBlock = some g → w0.heap.size ≤ g) (hm : m.length < maxLen)
    (h : ∀ w2, VMap F' w2 b (put m k vs) → w.grownBy w2 (some b) → K (a.put o.dst undef) w2) : if Region.wanted o (yielded ops a.tmps) = true then Oper.wp Try.prog o a w K Q else X := by
  have hw : Region.wanted o (yielded ops a.tmps) = true := by simp [Region.wanted, hg]
  rw [if_pos hw]
  exact wp_back x y z ho hB hx hy hz hc hF hv hloc hm h

theorem wpList_del (hg : o.guard = none) (x y : Operand) (ho : o.op = Op.call { callee := Callee.builtin Builtin.delete, args := #[x, y], argTypes := #[30, 9] }) (hM : VMap F w b m) (hx : a.eval x = .map (some b)) (hy : a.eval y = encStr k) (hk : k.length ≤ maxLen)
    (h : ∀ w2, VMap F w2 b (del m k) → w.grownBy w2 (some b) → wpList Try.prog ops Q rest (a.put o.dst (.tuple #[])) w2) : wpList Try.prog ops Q (o :: rest) a w := by
  refine wpList_plain hg fun K' hK' => ?_
  obtain ⟨w2, hr, h1, h2⟩ := hM.del_run hk o.type
  unfold Oper.wp execOp
  simp only [ho, resolve, invoke, builtin, Sem.run_bind, Sem.run_pure, Result.andThen_ok, List.map_toArray, List.map_cons, List.map_nil, hx, hy, hr]
  exact hK' _ _ (h w2 h1 h2)
end

/-! ### the methods -/
theorem vHas_ok (F : Nat → Prop) (b : Nat) (m : KV) (k : Bytes) (w : World) (hM : VMap F w b m) (hk : k.length ≤ maxLen) :
    Calls Try.prog 7 #[.map (some b), encStr k] w (Ret (.bool (has m k)) w) := by
  go_enter Try.func7, Try.ntmps7
  go_wp2_with (at_lookup; refine wpList_lookup_ok rfl _ _ rfl hM rfl rfl hk ?_; intro ad cap _)
  go_ret
  exact ⟨rfl, Chg.refl _ _⟩

theorem vGet_ok (F : Nat → Prop) (b : Nat) (m : KV) (k : Bytes) (w : World) (hM : VMap F w b m) (hk : k.length ≤ maxLen) :
    Calls Try.prog 8 #[.map (some b), encStr k] w (Ret (encStr (Uv.hd (vals m k))) w) := by
  cases hv : vals m k with
  | nil =>
    have H := Lib.hid hv
    clear hv
    go_enter Try.func8, Try.ntmps8
    go_wp2_with (at_lookup; refine wpList_lookup rfl _ _ rfl hM rfl rfl hk ?_; rw [H.out]; intro ad cap _ _)
    go_ret
    exact ⟨rfl, Chg.refl _ _⟩
  | cons x r =>
    have H := Lib.hid hv
    clear hv
    go_enter Try.func8, Try.ntmps8
    go_wp2_with (at_lookup; refine wpList_lookup rfl _ _ rfl hM rfl rfl hk ?_; rw [H.out]; intro ad cap hs _; obtain ⟨ad', cap', he, _, _, hc⟩ := hs.read; obtain ⟨c, off, had, _, hcell⟩ := hc 0 x rfl; simp only [Value.slice.injEq] at he; obtain ⟨rfl, _, rfl⟩ := he; subst had; simp only [Nat.add_zero] at hcell)
    go_ret
    exact ⟨rfl, Chg.refl _ _⟩

theorem own_new {B n c g : Nat} (h : (Value.slice (some ⟨B, 0, none⟩) n c).ownBlock = some g) : g = B := by
  injection h with h
  exact h.symm

/-- the map has turned into m' -/
def MapPost (F : Nat → Prop) (b : Nat) (m' : KV) (w : World) (e : Ending) (w' : World) : Prop :=
  e = .returned (.tuple #[]) ∧ VMap (fun g => F g ∨ w.heap.size ≤ g) w' b m' ∧ Chg F w w'

theorem length_set {m : KV} (h : Uniq m) (k v : Bytes) : (sett m k v).length = (put m k [v]).length := by
  unfold sett add
  have hn : k ∉ keys (del m k) := by
    rw [← Uv.look_none_iff, Uv.look_del]
    simp
  rw [Uv.addAll_new _ _ _ hn, length_put]
  have := length_del h k
  simp only [List.length_append, List.length_cons, List.length_nil]
  split <;> simp_all <;> omega

theorem look_set (m : KV) (k v j : Bytes) : lk (sett m k v) j = if j = k then some [v] else lk m j := by
  unfold sett add
  rw [Uv.look_addAll]
  by_cases h : j = k
  · subst h
    simp [vals, Uv.look_del]
  · simp [h, Uv.look_del]

theorem uniq_set {m : KV} (h : Uniq m) (k v : Bytes) : Uniq (sett m k v) := (h.del k).addAll k [v]

theorem app_loc {F : Nat → Prop} {w w1 : World} {u v' : Value} {ss : List Bytes} (ho : OStrs F w u ss) (hw : w.heap.size ≤ w1.heap.size) (hl : v'.ownBlock = u.ownBlock ∨ v'.ownBlock = some w1.heap.size) :
    (∀ g, v'.ownBlock = some g → F g ∨ w.heap.size ≤ g) ∧ (v'.ownBlock = u.ownBlock ∨ ∀ g, v'.ownBlock = some g → w.heap.size ≤ g) := by
  rcases hl with hl | hl
  · exact ⟨fun g hg => .inl (ho.2 g (hl ▸ hg)), .inl hl⟩
  · have : ∀ g, v'.ownBlock = some g → w.heap.size ≤ g := fun g hg => by rw [hl] at hg; injection hg with hg; omega
    exact ⟨fun g hg => .inr (this g hg), .inr this⟩

theorem map_step {F : Nat → Prop} {w w2 w3 : World} {b : Nat} {u : Value} {ss : List Bytes} (ho : OStrs F w u ss) (hb : F b) (h1 : Chg (fun g => some g = u.ownBlock) w w2) (h3 : w2.grownBy w3 (some b)) : Chg F w w3 :=
  (h1.mono (fun k _ hk => ho.2 k hk.symm)).then (Chg.ofGrown h3) (fun k _ hk => by injection hk with hk; rw [hk]; exact hb)




/-- a row of new texts and a bool -/
def TextsPost (ss : List Bytes) (is : Bool) (w : World) (e : Ending) (w' : World) : Prop :=
  ∃ a cap, e = .returned (.tuple #[.slice a ss.length cap, .bool is]) ∧ OStrs (fun g => w.heap.size ≤ g) w' (.slice a ss.length cap) ss ∧ Chg None w w'

end Go.Proofs.Ytkenogafadjkcaa
