/-
  Slices of answers: compared, marked, held.
-/
import Derived.Test.YtcbenidcaaegnaaDoorLit
import Derived.Test.YtcbenidcaaegnaaDoorMark
import Derived.Test.YtcbenidcaaegnaaDoorStrs
import Derived.Deep.RegionHeld3
namespace Go.Proofs.YtcbenidcaaegnaaDoor
open Go.RowKit
open Uv (Bytes Ans)

set_option maxHeartbeats 400000 in
/-- the same answer is found equal -/
theorem eqAnswer_ok (F G : Nat → Prop) (sv su : Value) (a : Ans) (w : World) (hv : RStrs F w sv a.2.2) (hu : RStrs G w su a.2.2) :
    Calls Tryd.prog 45 #[.agg #[encStr a.1, .bool a.2.1, sv], .agg #[encStr a.1, .bool a.2.1, su]] w (Ret (.bool true) w) := by
  obtain ⟨t, b, l⟩ := a
  simp only at hv hu ⊢
  obtain ⟨a1, c1, hsv, -⟩ := id hv
  subst hsv
  obtain ⟨a2, c2, hsu, -⟩ := id hu
  subst hsu
  have hch : Chg None w ((w.alloc (.cells #[encStr t, .bool b, .slice a1 l.length c1] 63)).alloc (.cells #[encStr t, .bool b, .slice a2 l.length c2] 63)) := ((Chg.refl _ _).alloc _).alloc _
  have h1 : (!t == t) = false := by simp
  have h2 : (b != b) = false := by simp
  go_enter Tryd.func45, Tryd.ntmps45
  go_wp2_with (go_at_call 63; refine (eqStringS_ok F G _ _ l l _ (hv.new hch) (hu.new hch)).mono ?_; rintro e1 w1 ⟨rfl, hc1⟩; rw [decide_eq_true rfl])
  go_ret
  exact ⟨rfl, hch.trans hc1⟩

set_option maxHeartbeats 1000000 in
/-- the same answers are found equal -/
theorem eqAnswerS_ok (F G : Nat → Prop) (v u : Value) (ans : List Ans) (w : World) (hv : OAns F w v ans) (hu : OAns G w u ans) (hl : ans.length ≤ 4194304) :
    Calls Tryd.prog 17 #[v, u] w (Ret (.bool true) w) := by
  obtain ⟨a, ca, hsv⟩ := hv.shape
  subst hsv
  obtain ⟨c, cc, hsu⟩ := hu.shape
  subst hsu
  have hne : ((ans.length : Int) != (ans.length : Int)) = false := by simp
  have HV := Lib.hid hv
  have HU := Lib.hid hu
  clear hv hu
  go_enter Tryd.func17, Tryd.ntmps17
  go_wp2
  go_loopw [5] (fun i wr => ∃ k : Nat, k ≤ ans.length ∧ i = .int .i64 k ∧ Chg None w wr) (fun i _ => ans.length - (intOf i).toNat)
  case atStart => exact ⟨0, Nat.zero_le _, rfl, Chg.refl _ _⟩
  case round =>
    obtain ⟨k, hk, rfl, hch⟩ := hrel
    by_cases hlt : k < ans.length
    · obtain ⟨g1, cap1, hsh1, hb1, hm1, hcs1⟩ := HV.out.cells (by omega)
      obtain ⟨g2, cap2, hsh2, hb2, hm2, hcs2⟩ := HU.out.cells (by omega)
      obtain ⟨sv, p1, p2, p3, hr⟩ := hcs1 k hlt
      obtain ⟨su, q1, q2, q3, hq⟩ := hcs2 k hlt
      injection hsh1 with e1 _ e3
      subst e1
      subst e3
      injection hsh2 with e1 _ e3
      subst e1
      subst e3
      unfold maxLen at hm1 hm2
      have p1 := hch.cell p1 (fun x => x)
      have p2 := hch.cell p2 (fun x => x)
      have p3 := hch.cell p3 (fun x => x)
      have q1 := hch.cell q1 (fun x => x)
      have q2 := hch.cell q2 (fun x => x)
      have q3 := hch.cell q3 (fun x => x)
      have hr := (hr.read.new hch).new ((Chg.refl None wr).drew)
      have hq := (hq.read.new hch).new ((Chg.refl None wr).drew)
      clear hcs1 hcs2
      generalize ans[k] = x at *
      go_wp2
      go_region_held3 (fun w' => w'.cell? ⟨g1, k * 3, none⟩ = some (encStr x.1) ∧ w'.cell? ⟨g1, k * 3 + 1, none⟩ = some (.bool x.2.1) ∧ w'.cell? ⟨g1, k * 3 + 2, none⟩ = some sv ∧ w'.cell? ⟨g2, k * 3, none⟩ = some (encStr x.1) ∧ w'.cell? ⟨g2, k * 3 + 1, none⟩ = some (.bool x.2.1) ∧ w'.cell? ⟨g2, k * 3 + 2, none⟩ = some su)
        (first | (go_split_ands; exact ⟨by go_keep, by go_keep, by go_keep, by go_keep, by go_keep, by go_keep⟩) | (go_split_ands; exact ⟨hc5.cell (by assumption) (fun x => x), hc5.cell (by assumption) (fun x => x), hc5.cell (by assumption) (fun x => x), hc5.cell (by assumption) (fun x => x), hc5.cell (by assumption) (fun x => x), hc5.cell (by assumption) (fun x => x)⟩))
        (first | (go_at_call 45; refine (eqAnswer_ok _ _ sv su x _ hr hq).mono ?_; rintro e1 w1 ⟨rfl, hc5⟩))
      go_wp2
      go_roundw
      case rel => exact ⟨k + 1, by omega, by go_num, hch.drew.trans hc5⟩
      case measure => simp [intOf]; omega
    · go_wp2
      go_ret
      exact ⟨rfl, hch⟩

/-! ### marks -/
def isM (k : Nat) : Bool := ((k : Int) + 1) % 3 == 0
def markA (k : Nat) (a : Ans) : Ans := (mark k, isM k, marks (k + 2) a.2.2.length)
def cntA : List Ans → Nat
  | [] => 0
  | a :: r => 2 + a.2.2.length + cntA r
def mkA : Nat → List Ans → List Ans
  | _, [] => []
  | k, a :: r => markA k a :: mkA (k + 2 + a.2.2.length) r
theorem length_mkA (k : Nat) (l : List Ans) : (mkA k l).length = l.length := by
  induction l generalizing k with
  | nil => rfl
  | cons a r ih => simp [mkA, ih]
theorem mkA_append (k : Nat) (l m : List Ans) : mkA k (l ++ m) = mkA k l ++ mkA (k + cntA l) m := by
  induction l generalizing k with
  | nil => simp [mkA, cntA]
  | cons a r ih =>
    simp only [List.cons_append, mkA, cntA, ih]
    congr 3
    omega
theorem cntA_append (l m : List Ans) : cntA (l ++ m) = cntA l + cntA m := by
  induction l with
  | nil => simp [cntA]
  | cons a r ih => simp only [List.cons_append, cntA, ih]; omega
theorem cntA_take_succ (l : List Ans) (j : Nat) (h : j < l.length) : cntA (l.take (j + 1)) = cntA (l.take j) + (2 + l[j].2.2.length) := by
  rw [List.take_succ_eq_append_getElem h, cntA_append]
  simp [cntA]
theorem cntA_take_le (l : List Ans) (j : Nat) : cntA (l.take j) ≤ cntA l := by
  have := cntA_append (l.take j) (l.drop j)
  rw [List.take_append_drop] at this
  omega
theorem mkA_get (k : Nat) (l : List Ans) (j : Nat) (h : j < l.length) : (mkA k l)[j]'(by rw [length_mkA]; exact h) = markA (k + cntA (l.take j)) l[j] := by
  have e : mkA k l = mkA k (l.take j) ++ mkA (k + cntA (l.take j)) (l.drop j) := by rw [← mkA_append, List.take_append_drop]
  have hl : (mkA k (l.take j)).length = j := by rw [length_mkA, List.length_take]; omega
  have : (mkA k l)[j]? = some (markA (k + cntA (l.take j)) l[j]) := by
    rw [e, List.getElem?_append_right (by omega), hl, Nat.sub_self, List.drop_eq_getElem_cons h]
    rfl
  exact (List.getElem?_eq_some_iff.1 this).2
/-- the first j are marked -/
def mixA (k : Nat) (l : List Ans) (j : Nat) : List Ans := mkA k (l.take j) ++ l.drop j
theorem length_mixA (k : Nat) (l : List Ans) (j : Nat) (h : j ≤ l.length) : (mixA k l j).length = l.length := by
  simp only [mixA, List.length_append, length_mkA, List.length_take, List.length_drop]
  omega
theorem mixA_get (k : Nat) (l : List Ans) (j : Nat) (h : j < l.length) : (mixA k l j)[j]'(by rw [length_mixA k l j (by omega)]; exact h) = l[j] := by
  have hl : (mkA k (l.take j)).length = j := by rw [length_mkA, List.length_take]; omega
  have : (mixA k l j)[j]? = some l[j] := by
    unfold mixA
    rw [List.getElem?_append_right (by omega), hl, Nat.sub_self, List.drop_eq_getElem_cons h]
    rfl
  exact (List.getElem?_eq_some_iff.1 this).2
theorem mixA_set (k : Nat) (l : List Ans) (j : Nat) (h : j < l.length) : (mixA k l j).set j (markA (k + cntA (l.take j)) l[j]) = mixA k l (j + 1) := by
  have hl : (mkA k (l.take j)).length = j := by rw [length_mkA, List.length_take]; omega
  have e : (l.drop j).set 0 (markA (k + cntA (l.take j)) l[j]) = markA (k + cntA (l.take j)) l[j] :: l.drop (j + 1) := by rw [List.drop_eq_getElem_cons h]; rfl
  unfold mixA
  rw [List.set_append_right _ _ (by omega), hl, Nat.sub_self, e, List.take_succ_eq_append_getElem h, mkA_append]
  simp [mkA]

/-- a text and a bool marked, then the row of the same answer -/
theorem ans_step {F : Nat → Prop} {w : World} {g c n j : Nat} {A : List Ans} {t : Bytes} {b : Bool} (hO : OAns F w (.slice (some ⟨g, 0, none⟩) n c) A) (hn : A.length = n) (hj : j < A.length) :
    ∃ a2 c2 o1 o2, w.cell? ⟨g, j * 3, none⟩ = some o1 ∧ w.frozen? ⟨g, j * 3, none⟩ = false ∧ w.cell? ⟨g, j * 3 + 1, none⟩ = some o2 ∧ w.frozen? ⟨g, j * 3 + 1, none⟩ = false ∧ w.cell? ⟨g, j * 3 + 2, none⟩ = some (.slice a2 A[j].2.2.length c2) ∧
      OStrs F ((w.setCell ⟨g, j * 3, none⟩ (encStr t)).setCell ⟨g, j * 3 + 1, none⟩ (.bool b)) (.slice a2 A[j].2.2.length c2) A[j].2.2 ∧
      ∀ w' ts, Chg (fun y => some y = (Value.slice a2 A[j].2.2.length c2).ownBlock) ((w.setCell ⟨g, j * 3, none⟩ (encStr t)).setCell ⟨g, j * 3 + 1, none⟩ (.bool b)) w' → OStrs F w' (.slice a2 A[j].2.2.length c2) ts → OAns F w' (.slice (some ⟨g, 0, none⟩) n c) (A.set j (t, b, ts)) := by
  subst hn
  obtain ⟨xs, svs, h1, h2, h3, h4, h5⟩ := hO
  have hx := h2.1
  obtain ⟨sv, hsv⟩ := get_of_len h1 hj
  obtain ⟨b1, b2, b3, b4⟩ := h4 j A[j] sv (by simp [hj]) hsv
  obtain ⟨a2, c2, hsh⟩ := ownsRow_shape b4.1
  subst hsh
  obtain ⟨o1, q1, q2⟩ := own_cell h2 (j := j * 3) (by omega)
  obtain ⟨o2, q3, q4⟩ := own_cell h2 (j := j * 3 + 1) (by omega)
  have q5 : w.cell? ⟨g, j * 3 + 2, none⟩ = some (.slice a2 A[j].2.2.length c2) := by
    have := h2.cells (g := g) rfl _ _ b3
    rwa [add_off, Nat.zero_add] at this
  have hcg : Chg (fun y => y = g) w ((w.setCell ⟨g, j * 3, none⟩ (encStr t)).setCell ⟨g, j * 3 + 1, none⟩ (.bool b)) := chg_set2 (Chg.refl _ _)
  have hrow : ∀ (s : Value) ss, OStrs F w s ss → OStrs F ((w.setCell ⟨g, j * 3, none⟩ (encStr t)).setCell ⟨g, j * 3 + 1, none⟩ (.bool b)) s ss := fun s ss ho => ho.kept hcg (fun y hy e => arow_ne h2 ho (by rw [e]; rfl) hy)
  have h2' := ((h2.stored (j * 3) (encStr t)).1.stored (j * 3 + 1) (.bool b)).1
  refine ⟨a2, c2, o1, o2, q1, q2, q3, q4, q5, hrow _ _ b4, fun w' ts hc ho => ?_⟩
  refine ⟨_, svs, by simp [h1], by simpa using ownsRow_chg h2' hc (fun y hy e => arow_ne h2 b4 hy e.symm), h3, fun i a s ha hs => ?_, h5⟩
  by_cases hij : i = j
  · subst hij
    rw [List.getElem?_set_self hj] at ha
    injection ha with ha
    subst ha
    rw [hsv] at hs
    injection hs with hs
    subst hs
    refine ⟨?_, ?_, ?_, ho⟩
    · rw [List.getElem?_set_ne (by omega), List.getElem?_set_self (by omega)]
    · rw [List.getElem?_set_self (by simp; omega)]
    · rw [List.getElem?_set_ne (by omega), List.getElem?_set_ne (by omega)]
      exact b3
  · rw [List.getElem?_set_ne (fun x => hij x.symm)] at ha
    obtain ⟨d1, d2, d3, d4⟩ := h4 i a s ha hs
    rw [List.getElem?_set_ne (by omega), List.getElem?_set_ne (by omega), List.getElem?_set_ne (by omega), List.getElem?_set_ne (by omega), List.getElem?_set_ne (by omega), List.getElem?_set_ne (by omega)]
    refine ⟨d1, d2, d3, (hrow _ _ d4).kept hc (fun y hy e => ?_)⟩
    rcases h5 i j s _ hij hs hsv with h0 | h0
    · rw [h0] at hy; cases hy
    · exact h0 (by rw [hy, e])

/-- all answers are marks now -/
def MarkAPost (F : Nat → Prop) (v : Value) (k : Nat) (ans : List Ans) (w : World) (e : Ending) (w' : World) : Prop :=
  e = .returned (.int .i64 ((k + cntA ans : Nat) : Int)) ∧ OAns F w' v (mkA k ans) ∧ Chg F w w'

set_option maxHeartbeats 1000000 in
theorem markAnswerS_ok (F : Nat → Prop) (v : Value) (ans : List Ans) (k : Nat) (w : World) (hv : OAns F w v ans) (hl : ans.length ≤ 4194304) (hk : k + cntA ans ≤ 100000000000000) :
    Calls Tryd.prog 22 #[v, .int .i64 k] w (MarkAPost F v k ans w) := by
  obtain ⟨a, c, hsh⟩ := hv.shape
  subst hsh
  go_enter Tryd.func22, Tryd.ntmps22
  go_wp2
  go_loopw [1, 5] (fun l i wr => ∃ j : Nat, j ≤ ans.length ∧ i = .int .i64 j ∧ l = .int .i64 ((k + cntA (ans.take j) : Nat) : Int) ∧ OAns F wr (.slice a ans.length c) (mixA k ans j) ∧ Chg F w wr) (fun _ i _ => ans.length - (intOf i).toNat)
  case atStart => exact ⟨0, Nat.zero_le _, rfl, by simp [cntA], by simpa [mixA, mkA] using hv, Chg.refl _ _⟩
  case round =>
    clear hv
    obtain ⟨j, hj, rfl, rfl, hO, hch⟩ := hrel
    by_cases hlt : j < ans.length
    · have HC := Lib.hid (cntA_take_succ ans j hlt)
      have hct2 := cntA_take_le ans (j + 1)
      have hlen := length_mixA k ans j hj
      have HS := Lib.hid (mixA_set k ans j hlt)
      have hj' : j < (mixA k ans j).length := by omega
      have HG : Hid ((mixA k ans j)[j] = ans[j]) := Lib.hid (mixA_get k ans j hlt)
      obtain ⟨g, hga, hgF⟩ : ∃ g, a = some ⟨g, 0, none⟩ ∧ F g := by
        obtain ⟨xs, svs, _, h2, h3, _⟩ := hO
        rw [hlen] at h2
        obtain ⟨g, cg, hf, _⟩ := h2.form (by omega)
        simp only [Value.slice.injEq] at hf
        exact ⟨g, hf.1, h3 g (by rw [hf.1]; rfl)⟩
      subst hga
      have hn2 : k + cntA (ans.take j) + 2 + ans[j].2.2.length ≤ 100000000000000 := by have := HC.out; omega
      generalize hKK : k + cntA (ans.take j) = K at *
      have HK := Lib.hid hKK
      clear hKK
      go_wp2_with fail
      refine (markText_ok K _ (by omega)).mono ?_
      rintro e w1 ⟨rfl, hc1⟩
      obtain ⟨a2, c2, o1, o2, q1, q2, q3, q4, q5, hsv, hback⟩ := ans_step (t := mark K) (b := isM K) (hO.new hc1) hlen hj'
      rw [HG.out] at q5 hsv hback
      have HB := Lib.hid hback
      have hc2 : Chg F w ((w1.setCell ⟨g, j * 3, none⟩ (encStr (mark K))).setCell ⟨g, j * 3 + 1, none⟩ (.bool (isM K))) := ((hch.none hc1).setCell (p := ⟨g, j * 3, none⟩) (fun _ => hgF) _).setCell (p := ⟨g, j * 3 + 1, none⟩) (fun _ => hgF) _
      have hM : (((K : Int) + 1) % 3 == 0) = isM K := rfl
      have hM2 : ((((K + 1 : Nat) : Int)) % 3 == 0) = isM K := rfl
      clear hback hlen hO
      go_wp2_with (go_at_call 49; refine (markStringS_ok F _ ans[j].2.2 (K + 2) _ hsv (by omega)).mono ?_; rintro e w3 ⟨rfl, hm3, hc3⟩)
      go_roundw
      case rel =>
        refine ⟨j + 1, by omega, by go_num, by rw [HC.out, ← Nat.add_assoc, HK.out]; go_num, ?_, ?_⟩
        · have := HB.out w3 _ hc3 hm3
          rw [← HS.out]
          exact this
        · exact hc2.then hc3 (fun i _ e => hsv.2 i e.symm)
      case measure => simp [intOf]; omega
    · obtain rfl : j = ans.length := by omega
      have e : mixA k ans ans.length = mkA k ans := by simp [mixA]
      rw [e] at hO
      rw [List.take_of_length_le (Nat.le_refl _)]
      go_wp2
      go_ret
      exact ⟨rfl, hO, hch⟩

set_option maxHeartbeats 1000000 in
theorem heldAnswerS_ok (F : Nat → Prop) (v : Value) (ans : List Ans) (k : Nat) (w : World) (hv : OAns F w v (mkA k ans)) (hl : ans.length ≤ 4194304) (hk : k + cntA ans ≤ 100000000000000) :
    Calls Tryd.prog 23 #[v, .int .i64 k] w (Ret (.int .i64 ((k + cntA ans : Nat) : Int)) w) := by
  obtain ⟨a, c, hsh⟩ := hv.shape
  rw [length_mkA] at hsh
  subst hsh
  have HV := Lib.hid hv
  clear hv
  go_enter Tryd.func23, Tryd.ntmps23
  go_wp2
  go_loopw [1, 5] (fun l i wr => ∃ j : Nat, j ≤ ans.length ∧ i = .int .i64 j ∧ l = .int .i64 ((k + cntA (ans.take j) : Nat) : Int) ∧ Chg None w wr) (fun _ i _ => ans.length - (intOf i).toNat)
  case atStart => exact ⟨0, Nat.zero_le _, rfl, by simp [cntA], Chg.refl _ _⟩
  case round =>
    obtain ⟨j, hj, rfl, rfl, hch⟩ := hrel
    by_cases hlt : j < ans.length
    · have HC := Lib.hid (cntA_take_succ ans j hlt)
      have hct2 := cntA_take_le ans (j + 1)
      have HG := Lib.hid (mkA_get k ans j hlt)
      obtain ⟨g, cap, hsh, hb, hm, hcs⟩ := HV.out.cells (by rw [length_mkA]; omega)
      obtain ⟨sv, p1, p2, p3, hr⟩ := hcs j (by rw [length_mkA]; exact hlt)
      rw [HG.out] at p1 p2 hr
      rw [length_mkA] at hsh
      injection hsh with e1 _ e3
      subst e1
      subst e3
      unfold maxLen at hm
      rw [length_mkA] at hb
      have hn2 : k + cntA (ans.take j) + 2 + ans[j].2.2.length ≤ 100000000000000 := by have := HC.out; omega
      generalize hKK : k + cntA (ans.take j) = K at *
      have HK := Lib.hid hKK
      clear hKK hcs
      simp only [markA] at p1 p2 hr
      obtain ⟨a2, c2, hsv⟩ := ownsRow_shape hr.1
      rw [length_marks] at hsv
      subst hsv
      replace p1 := hch.cell p1 (fun x => x)
      replace p2 := hch.cell p2 (fun x => x)
      replace p3 := hch.cell p3 (fun x => x)
      have hr3 := (hr.read.new hch).new ((Chg.refl None wr).drew)
      clear hr
      have hbt : (!mark K == mark K) = false := by simp
      have hM : (((K : Int) + 1) % 3 == 0) = isM K := rfl
      have hbm : (isM K != isM K) = false := by simp
      go_wp2
      go_region_held3 (fun w' => w'.cell? ⟨g, j * 3, none⟩ = some (encStr (mark K)))
        (first | go_keep | exact hc1.cell (by assumption) (fun x => x))
        (first | (go_at_call 48; refine (markText_ok K _ (by omega)).mono ?_; rintro e w1 ⟨rfl, hc1⟩))
      have c1 := (hch.drew).trans hc1
      have hdr : Chg None wr w1 := ((Chg.refl None wr).drew).trans hc1
      replace p2 := hdr.cell p2 (fun x => x)
      replace p3 := hdr.cell p3 (fun x => x)
      have hr4 := hr3.new hc1
      clear p1 hr3
      go_wp2_with fail
      refine (heldStringS_ok _ _ (K + 2) ans[j].2.2.length _ hr4 (by omega)).mono ?_
      rintro e w2 ⟨rfl, hc2⟩
      go_wp2
      go_roundw
      case rel => exact ⟨j + 1, by omega, by go_num, by rw [HC.out, ← Nat.add_assoc, HK.out]; go_num, c1.trans hc2⟩
      case measure => simp [intOf]; omega
    · obtain rfl : j = ans.length := by omega
      rw [List.take_of_length_le (Nat.le_refl _)]
      go_wp2
      go_ret
      exact ⟨rfl, hch⟩
end Go.Proofs.YtcbenidcaaegnaaDoor
