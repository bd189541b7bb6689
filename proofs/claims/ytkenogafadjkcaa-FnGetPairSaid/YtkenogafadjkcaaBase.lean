/-
  Words for memory: what has changed between two worlds; which slices of texts and of entries a world holds.
-/
import Derived.Test.YtkenogafadjkcaaProg
import Derived.Test.YtkenogafadjkcaaPure
import Derived.WalkKit
import Derived.WalkSpells
import Derived.WalkLawsBesides
import Derived.Sort.EncStr
import Derived.Lib.Hide
namespace Go.Proofs.Ytkenogafadjkcaa
open Go.RowKit
open Uv (Bytes Ent KV)

/-- w' is w but for the blocks of F, and new ones. -/
structure Chg (F : Nat → Prop) (w w' : World) : Prop where
  os : w'.os = w.os
  tape : w'.tape = w.tape
  output : w'.output = w.output
  size : w.heap.size ≤ w'.heap.size
  block : ∀ k, k < w.heap.size → ¬ F k → w'.heap[k]? = w.heap[k]?

/-- no old block at all -/
abbrev None : Nat → Prop := fun _ => False

theorem Chg.refl (F : Nat → Prop) (w : World) : Chg F w w := ⟨rfl, rfl, rfl, Nat.le_refl _, fun _ _ _ => rfl⟩
theorem Chg.mono {F G : Nat → Prop} {w w' : World} (h : Chg F w w') (hs : ∀ k, k < w.heap.size → F k → G k) : Chg G w w' :=
  ⟨h.os, h.tape, h.output, h.size, fun k hk hn => h.block k hk (fun hf => hn (hs k hk hf))⟩
/-- what the second step writes is what the first may write, or new behind the beginning -/
theorem Chg.then {F G : Nat → Prop} {a b c : World} (h : Chg F a b) (k : Chg G b c) (hs : ∀ i, i < a.heap.size → G i → F i) : Chg F a c :=
  ⟨k.os.trans h.os, k.tape.trans h.tape, k.output.trans h.output, Nat.le_trans h.size k.size, fun i hi hn => (k.block i (Nat.lt_of_lt_of_le hi h.size) (fun hg => hn (hs i hi hg))).trans (h.block i hi hn)⟩
theorem Chg.trans {F : Nat → Prop} {a b c : World} (h : Chg F a b) (k : Chg F b c) : Chg F a c := h.then k (fun _ _ x => x)
theorem Chg.none {F : Nat → Prop} {a b c : World} (h : Chg F a b) (k : Chg None b c) : Chg F a c := h.then k (fun _ _ x => x.elim)
theorem Chg.any {F : Nat → Prop} {w w' : World} (h : Chg None w w') : Chg F w w' := h.mono (fun _ _ x => x.elim)
theorem Chg.ofBelow {B : Nat} {w w' : World} (h : Below B w w') : Chg (fun k => B ≤ k) w w' :=
  ⟨h.os, h.tape, h.output, h.size, fun k _ hn => h.block k (Nat.lt_of_not_le hn)⟩
theorem Chg.ofNew {w w' : World} (h : Below w.heap.size w w') : Chg None w w' :=
  ⟨h.os, h.tape, h.output, h.size, fun k hk _ => h.block k hk⟩
theorem Chg.new {w w' : World} (h : Chg None w w') : Below w.heap.size w w' :=
  ⟨h.os, h.tape, h.output, h.size, fun k hk => h.block k hk (fun x => x)⟩
theorem Chg.ofGrown {w w' : World} {row : Option Nat} (h : w.grownBy w' row) : Chg (fun k => some k = row) w w' :=
  ⟨h.os, h.tape, h.output, h.size, fun k hk hn => h.block k hk hn⟩
theorem Chg.drew {F : Nat → Prop} {a w : World} (h : Chg F a w) : Chg F a w.drew := ⟨h.os, h.tape, h.output, h.size, h.block⟩
theorem Chg.drewN {F : Nat → Prop} {a w : World} (h : Chg F a w) (n : Nat) : Chg F a (w.drewN n) := by
  induction n with
  | zero => exact h
  | succ n ih => exact ih.drew
theorem Chg.alloc {F : Nat → Prop} {a w : World} (h : Chg F a w) (o : Obj) : Chg F a (w.alloc o) :=
  h.none (Chg.ofNew ((Below.refl _ _).alloc (Nat.le_refl _) o))
theorem Chg.setCell {F : Nat → Prop} {a w : World} (h : Chg F a w) {p : Addr} (hp : p.block < a.heap.size → F p.block) (u : Value) : Chg F a (w.setCell p u) :=
  ⟨h.os, h.tape, h.output, by simpa using h.size, fun k hk hn => by
    rw [Below.heap_setCell _ _ _ _ (fun e => hn (by subst e; exact hp hk))]
    exact h.block k hk hn⟩

theorem Chg.cell {F : Nat → Prop} {w w' : World} (h : Chg F w w') {p : Addr} {v : Value} (hc : w.cell? p = some v) (hn : ¬ F p.block) : w'.cell? p = some v :=
  (World.cell?_of_block (h.block p.block (World.block_lt_of_cell? w p hc) hn)).trans hc

theorem str_add (a b : Bytes) : (⟨a.toArray⟩ : ByteArray) ++ ⟨b.toArray⟩ = ⟨(a ++ b).toArray⟩ := by
  apply ByteArray.ext
  rw [ByteArray.data_append]
  simp

theorem str_eta (s : ByteArray) : Value.string s = encStr s.data.toList := by simp [encStr]
theorem size_toList (s : ByteArray) : s.data.toList.length = s.size := by rw [Array.length_toList]; rfl

/-- A slice that reads as texts, in blocks of F. -/
def RStrs (F : Nat → Prop) (w : World) (v : Value) (ss : List Bytes) : Prop :=
  ∃ a cap, v = .slice a ss.length cap ∧ ss.length ≤ cap ∧ cap ≤ maxLen ∧
    ∀ i x, ss[i]? = some x → ∃ b off, a = some ⟨b, off, none⟩ ∧ F b ∧ w.cell? ⟨b, off + i, none⟩ = some (encStr x)

theorem RStrs.mono {F G : Nat → Prop} {w : World} {v : Value} {ss : List Bytes} (h : RStrs F w v ss) (hs : ∀ k, k < w.heap.size → F k → G k) : RStrs G w v ss := by
  obtain ⟨a, cap, rfl, h1, h2, h3⟩ := h
  refine ⟨a, cap, rfl, h1, h2, fun i x hx => ?_⟩
  obtain ⟨b, off, ha, hf, hc⟩ := h3 i x hx
  exact ⟨b, off, ha, hs b (World.block_lt_of_cell? w _ hc) hf, hc⟩

theorem RStrs.kept {F G : Nat → Prop} {w w' : World} {v : Value} {ss : List Bytes} (h : RStrs F w v ss) (hc : Chg G w w') (hd : ∀ k, k < w.heap.size → F k → ¬ G k) : RStrs F w' v ss := by
  obtain ⟨a, cap, rfl, h1, h2, h3⟩ := h
  refine ⟨a, cap, rfl, h1, h2, fun i x hx => ?_⟩
  obtain ⟨b, off, ha, hf, hcell⟩ := h3 i x hx
  exact ⟨b, off, ha, hf, hc.cell hcell (hd b (World.block_lt_of_cell? w _ hcell) hf)⟩

theorem RStrs.new {F : Nat → Prop} {w w' : World} {v : Value} {ss : List Bytes} (h : RStrs F w v ss) (hc : Chg None w w') : RStrs F w' v ss :=
  h.kept hc (fun _ _ _ x => x)

/-- what a contract of a function that writes nothing says -/
def Ret (v : Value) (w : World) (e : Ending) (w' : World) : Prop := e = .returned v ∧ Chg None w w'

end Go.Proofs.Ytkenogafadjkcaa
