/-
  Slices of entries whose own row is new (from block B on), the entries' rows being older ones.
-/
import Derived.Test.YtcbenidcaaegnaaDoorHEnts
import Derived.Lib.Strings
namespace Go.Proofs.YtcbenidcaaegnaaDoor
open Go.RowKit
open Uv (Bytes Ent KV lk vals has addAll del sett add keys Uniq bulk bulkS kept)

/-- what the cells xs and the rows svs say of the entries es -/
def Says (F : Nat → Prop) (w : World) (es : KV) (xs svs : List Value) : Prop :=
  ∀ (i : Nat) (e : Ent) (sv : Value), es[i]? = some e → svs[i]? = some sv → xs[i * 2]? = some (encStr e.1) ∧ xs[i * 2 + 1]? = some sv ∧ RStrs F w sv e.2
theorem Says.kept {F G : Nat → Prop} {w w' : World} {es : KV} {xs svs : List Value} (h : Says F w es xs svs) (hc : Chg G w w') (hd : ∀ k, k < w.heap.size → F k → ¬ G k) : Says F w' es xs svs :=
  fun i e sv he hs => ⟨(h i e sv he hs).1, (h i e sv he hs).2.1, (h i e sv he hs).2.2.kept hc hd⟩
theorem Says.app {F : Nat → Prop} {w : World} {es ks : KV} {xs svs news svs2 : List Value} (h : Says F w es xs svs) (h2 : Says F w ks news svs2) (hsl : svs.length = es.length) (hx : xs.length = es.length * 2) : Says F w (es ++ ks) (xs ++ news) (svs ++ svs2) := by
  intro i e sv he hs
  by_cases hi : i < es.length
  · rw [List.getElem?_append_left hi] at he
    rw [List.getElem?_append_left (by omega)] at hs
    rw [List.getElem?_append_left (by omega), List.getElem?_append_left (by omega)]
    exact h i e sv he hs
  · rw [List.getElem?_append_right (by omega)] at he
    rw [List.getElem?_append_right (by omega), hsl] at hs
    rw [List.getElem?_append_right (by omega), List.getElem?_append_right (by omega), hx, show i * 2 - es.length * 2 = (i - es.length) * 2 by omega, show i * 2 + 1 - es.length * 2 = (i - es.length) * 2 + 1 by omega]
    exact h2 _ e sv he hs
theorem says_nil (F : Nat → Prop) (w : World) : Says F w [] [] [] := fun i e sv he => by simp at he
theorem says_one {F : Nat → Prop} {w : World} {e : Ent} {sv : Value} (h : RStrs F w sv e.2) : Says F w [e] [encStr e.1, sv] [sv] := by
  intro i e' sv' he hs
  have hi : i = 0 := by
    have := (List.getElem?_eq_some_iff.1 he).1
    simp at this
    omega
  subst hi
  simp at he hs
  subst he
  subst hs
  exact ⟨rfl, rfl, h⟩

def XEnts (F : Nat → Prop) (B : Nat) (w : World) (v : Value) (es : KV) : Prop :=
  ∃ xs svs : List Value, svs.length = es.length ∧ w.ownsRow 0 28 2 v es.length xs ∧ (∀ g, v.ownBlock = some g → B ≤ g) ∧ Says (fun g => F g ∧ g < B) w es xs svs

theorem XEnts.shape {F : Nat → Prop} {B : Nat} {w : World} {v : Value} {es : KV} (h : XEnts F B w v es) : ∃ a cap, v = .slice a es.length cap := by
  obtain ⟨xs, svs, h1, h2, _⟩ := h
  exact ownsRow_shape h2
theorem XEnts.lt {F : Nat → Prop} {B : Nat} {w : World} {v : Value} {es : KV} (h : XEnts F B w v es) : ∀ g, v.ownBlock = some g → B ≤ g ∧ g < w.heap.size := by
  obtain ⟨xs, svs, h1, h2, h3, _⟩ := h
  exact fun g hg => ⟨h3 g hg, (h2.lt g hg).2⟩
theorem XEnts.kept {F G : Nat → Prop} {B : Nat} {w w' : World} {v : Value} {es : KV} (h : XEnts F B w v es) (hc : Chg G w w') (hG : ∀ g, g < B → ¬ G g) (ho : ∀ g, v.ownBlock = some g → ¬ G g) : XEnts F B w' v es := by
  obtain ⟨xs, svs, h1, h2, h3, h4⟩ := h
  exact ⟨xs, svs, h1, ownsRow_chg h2 hc ho, h3, h4.kept hc (fun k _ hk => hG k hk.2)⟩
theorem XEnts.new {F : Nat → Prop} {B : Nat} {w w' : World} {v : Value} {es : KV} (h : XEnts F B w v es) (hc : Chg None w w') : XEnts F B w' v es := h.kept hc (fun _ _ x => x) (fun _ _ x => x)
theorem XEnts.nil (F : Nat → Prop) (B : Nat) (w : World) : XEnts F B w (.slice none 0 0) [] := ⟨[], [], rfl, World.ownsRow_nil _ _ _ _, fun g h => by simp [Value.ownBlock] at h, says_nil _ _⟩
theorem XEnts.made (F : Nat → Prop) (B : Nat) (w : World) (hB : B ≤ w.heap.size) : XEnts F B (w.alloc (.cells #[] 28)) (.slice (some ⟨w.heap.size, 0, none⟩) 0 0) [] :=
  ⟨[], [], rfl, World.ownsRow_lit w #[] 0 (Nat.zero_le _) (by simp [maxLen]) rfl, fun g hg => by rw [own_new hg]; exact hB, says_nil _ _⟩
theorem XEnts.read {F : Nat → Prop} {B : Nat} {w : World} {v : Value} {es : KV} (h : XEnts F B w v es) : REnts (fun g => F g ∨ B ≤ g) w v es := by
  obtain ⟨xs, svs, h1, h2, h3, h4⟩ := h
  have : HEnts (fun g => F g ∨ B ≤ g) w v es := ⟨xs, svs, h1, h2, fun g hg => .inr (h3 g hg), fun i e sv he hs => ⟨(h4 i e sv he hs).1, (h4 i e sv he hs).2.1, (h4 i e sv he hs).2.2.mono (fun g _ h => ⟨.inl h.1, fun e => by have := h3 g e.symm; omega⟩)⟩⟩
  exact this.read

/-- what an append leaves -/
theorem xents_app {F : Nat → Prop} {B : Nat} {w W3 w4 : World} {v v' : Value} {es ks : KV} {n : Nat} {xs svs news ys svs2 : List Value} (hsl : svs.length = es.length) (hown : w.ownsRow 0 28 2 v es.length xs) (hnew : ∀ g, v.ownBlock = some g → B ≤ g) (hsay : Says (fun g => F g ∧ g < B) w es xs svs)
    (hB : B ≤ w.heap.size) (hc : Chg None w W3) (hg : W3.grownBy w4 v.ownBlock) (hs : w4.ownsRow 0 28 2 v' n ys) (hn : n = es.length + ks.length) (hy : ys = xs ++ news) (hl : v'.ownBlock = v.ownBlock ∨ v'.ownBlock = some W3.heap.size) (hsl2 : svs2.length = ks.length) (hsay2 : Says (fun g => F g ∧ g < B) W3 ks news svs2) :
    XEnts F B w4 v' (es ++ ks) ∧ Chg (fun g => some g = v.ownBlock) w w4 ∧ (v'.ownBlock = v.ownBlock ∨ ∀ g, v'.ownBlock = some g → w.heap.size ≤ g) := by
  subst hn
  subst hy
  have hg4 : Chg (fun g => some g = v.ownBlock) w w4 := hc.any.trans (Chg.ofGrown hg)
  have h1 := hsay.kept hg4 (fun k _ hk e => by have := hnew k e.symm; omega)
  have h2 := hsay2.kept (Chg.ofGrown hg) (fun k _ hk e => by have := hnew k e.symm; omega)
  refine ⟨⟨xs ++ news, svs ++ svs2, by simp [hsl, hsl2], by simpa using hs, fun g hgv => ?_, h1.app h2 hsl hown.1⟩, hg4, ?_⟩
  · rcases hl with e | e
    · exact hnew g (e ▸ hgv)
    · rw [e] at hgv
      injection hgv with hgv
      have := hc.size
      omega
  · rcases hl with e | e
    · exact .inl e
    · refine .inr (fun g hgv => ?_)
      rw [e] at hgv
      injection hgv with hgv
      have := hc.size
      omega

/-! ### parts of such a slice as a source -/
theorem Says.one {F : Nat → Prop} {w : World} {es : KV} {xs svs : List Value} (h : Says F w es xs svs) (hsl : svs.length = es.length) (hx : xs.length = es.length * 2) : ∀ u ∈ xs, u.oneCell' = true := by
  intro u hu
  obtain ⟨k, hk⟩ := List.getElem?_of_mem hu
  have hkl := (List.getElem?_eq_some_iff.1 hk).1
  have hi : k / 2 < es.length := by omega
  obtain ⟨sv, hsv⟩ := get_of_len hsl hi
  obtain ⟨a1, a2, a3⟩ := h (k / 2) es[k / 2] sv (by simp [hi]) hsv
  rcases Nat.mod_two_eq_zero_or_one k with hm | hm
  · rw [show k / 2 * 2 = k by omega, hk] at a1
    injection a1 with a1
    subst a1
    rfl
  · rw [show k / 2 * 2 + 1 = k by omega, hk] at a2
    injection a2 with a2
    subst a2
    obtain ⟨_, _, e, _⟩ := a3
    rw [e]
    rfl
theorem Says.take {F : Nat → Prop} {w : World} {es : KV} {xs svs : List Value} (h : Says F w es xs svs) (j : Nat) : Says F w (es.take j) (xs.take (j * 2)) (svs.take j) := by
  intro i e sv he hs
  have hi : i < j := by have := (List.getElem?_eq_some_iff.1 he).1; simp at this; omega
  rw [List.getElem?_take_of_lt hi] at he hs
  rw [List.getElem?_take_of_lt (by omega), List.getElem?_take_of_lt (by omega)]
  exact h i e sv he hs
theorem Says.drop {F : Nat → Prop} {w : World} {es : KV} {xs svs : List Value} (h : Says F w es xs svs) (j : Nat) : Says F w (es.drop j) (xs.drop (j * 2)) (svs.drop j) := by
  intro i e sv he hs
  rw [List.getElem?_drop] at he hs
  rw [List.getElem?_drop, List.getElem?_drop, show j * 2 + i * 2 = (j + i) * 2 by omega, show j * 2 + (i * 2 + 1) = (j + i) * 2 + 1 by omega]
  exact h _ e sv he hs
/-- 'out[:j]' -/
theorem XEnts.srcTake {F : Nat → Prop} {B g c : Nat} {w : World} {es : KV} (h : XEnts F B w (.slice (some ⟨g, 0, none⟩) es.length c) es) (j : Nat) (hj : j ≤ es.length) :
    ∃ news svs2 : List Value, svs2.length = (es.take j).length ∧ Src Tryd.prog 2 24 (.slice (some ⟨g, 0, none⟩) j c) j news w ∧ Says (fun g => F g ∧ g < B) w (es.take j) news svs2 := by
  obtain ⟨xs, svs, h1, h2, h3, h4⟩ := h
  have hx := h2.1
  refine ⟨xs.take (j * 2), svs.take j, by simp [h1], Src.ofSlice w elEnt.ht _ j c _ (by simp; omega) (fun k u hk => ?_) (fun u hu => h4.one h1 hx u (List.mem_of_mem_take hu)), h4.take j⟩
  have hkl := (List.getElem?_eq_some_iff.1 hk).1
  rw [List.getElem?_take_of_lt (by simp at hkl; omega)] at hk
  exact h2.cells (g := g) rfl k u hk
/-- 'out[j:]' -/
theorem XEnts.srcDrop {F : Nat → Prop} {B g c : Nat} {w : World} {es : KV} (h : XEnts F B w (.slice (some ⟨g, 0, none⟩) es.length c) es) (j : Nat) (hj : j ≤ es.length) (hc : es.length ≤ c) :
    ∃ news svs2 : List Value, svs2.length = (es.drop j).length ∧ (∀ c', Src Tryd.prog 2 24 (.slice (some (if c = j then ⟨g, 0, none⟩ else ⟨g, j * 2, none⟩)) (es.length - j) c') (es.length - j) news w) ∧ Says (fun g => F g ∧ g < B) w (es.drop j) news svs2 := by
  obtain ⟨xs, svs, h1, h2, h3, h4⟩ := h
  have hx := h2.1
  refine ⟨xs.drop (j * 2), svs.drop j, by simp [h1], fun c' => Src.ofSlice w elEnt.ht _ _ c' _ (by simp; omega) (fun k u hk => ?_) (fun u hu => h4.one h1 hx u (List.mem_of_mem_drop hu)), h4.drop j⟩
  rw [List.getElem?_drop] at hk
  have hkl := (List.getElem?_eq_some_iff.1 hk).1
  have := h2.cells (g := g) rfl _ u hk
  rw [add_off] at this
  rw [if_neg (by omega), add_off]
  simpa [Nat.add_assoc] using this

theorem less_eq (x y : Bytes) : Op.bytesLess x y = decide (x < y) := by
  induction x generalizing y with
  | nil => cases y <;> simp [Op.bytesLess]
  | cons a x ih =>
    cases y with
    | nil => simp [Op.bytesLess]
    | cons b y =>
      rw [Op.bytesLess, ih y, Bool.eq_iff_iff]
      simp [List.cons_lt_cons_iff]
theorem text_list (x : Bytes) : (⟨x.toArray⟩ : ByteArray).toList = x := by rw [Lib.toList_data]
/-- '<' of texts, as the walk has it -/
theorem less_yes {x y : Bytes} (h : x < y) : Op.bytesLess (⟨x.toArray⟩ : ByteArray).toList (⟨y.toArray⟩ : ByteArray).toList = true := by
  rw [less_eq, text_list, text_list]
  simpa using h
theorem less_no {x y : Bytes} (h : ¬ x < y) : Op.bytesLess (⟨x.toArray⟩ : ByteArray).toList (⟨y.toArray⟩ : ByteArray).toList = false := by
  rw [less_eq, text_list, text_list]
  simpa using h
end Go.Proofs.YtcbenidcaaegnaaDoor
