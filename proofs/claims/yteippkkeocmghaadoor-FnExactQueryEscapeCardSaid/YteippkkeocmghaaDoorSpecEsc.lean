/-
  Rows of bytes that the call owns; spec.QueryEscape.
-/
import Derived.Test.YteippkkeocmghaaDoorSpecByte
import Derived.Deep.RegionHeld3
import Derived.IntWalk
import Derived.Deep.AppendLies
import Derived.Outline
import Derived.Test.YteippkkeocmghaaDoorEsc
namespace Go.Proofs.YteippkkeocmghaaDoor
open Go.RowKit
open Uv (Bytes safeB esc escB)

/-- a row of bytes that the call owns, in blocks of F -/
def OBytes (F : Nat → Prop) (w : World) (v : Value) (l : Bytes) : Prop :=
  w.ownsRow 0 5 1 v l.length (l.map byteV) ∧ ∀ g, v.ownBlock = some g → F g
theorem OBytes.kept {F G : Nat → Prop} {w w' : World} {v : Value} {l : Bytes} (h : OBytes F w v l) (hc : Chg G w w') (hd : ∀ g, v.ownBlock = some g → ¬ G g) : OBytes F w' v l :=
  ⟨ownsRow_chg h.1 hc hd, h.2⟩
theorem OBytes.new {F : Nat → Prop} {w w' : World} {v : Value} {l : Bytes} (h : OBytes F w v l) (hc : Chg None w w') : OBytes F w' v l := h.kept hc (fun _ _ x => x)
theorem OBytes.made {F : Nat → Prop} (w : World) (hF : F w.heap.size) : OBytes F (w.alloc (.cells #[] 5)) (.slice (some ⟨w.heap.size, 0, none⟩) 0 0) [] :=
  ⟨World.ownsRow_lit w #[] 0 (Nat.zero_le _) (by simp [maxLen]) rfl, fun g hg => by injection hg with hg; exact hg ▸ hF⟩
theorem OBytes.shape {F : Nat → Prop} {w : World} {v : Value} {l : Bytes} (h : OBytes F w v l) : ∃ a cap, v = .slice a l.length cap := ownsRow_shape h.1
theorem text_nil (w : World) : (convert 27 9 (.slice none 0 0)).run Tryd.prog w = .ok (encStr []) w := by kernel_rfl
/-- its text -/
theorem OBytes.text {F : Nat → Prop} {w : World} {v : Value} {l : Bytes} (h : OBytes F w v l) : (convert 27 9 v).run Tryd.prog w = .ok (encStr l) w := by
  have hcs := fun g => h.1.cells (g := g)
  rcases h.1.2 with ⟨rfl, hn⟩ | ⟨g, cap, cur, rfl, _⟩
  · have : l = [] := List.eq_nil_of_length_eq_zero hn
    subst this
    exact text_nil w
  · exact run_convert_bytes_back (P := Tryd.prog) w 27 9 5 ⟨g, 0, none⟩ cap l (by kernel_rfl) (by kernel_rfl) (by kernel_rfl) (fun j hj => by
      have := hcs g rfl j (byteV l[j]) (by simp [hj])
      rw [add_off] at this ⊢
      exact this)
/-- what an append of new bytes leaves -/
theorem OBytes.app {w W w2 : World} {u v' : Value} {l k : Bytes} {n : Nat} {xs : List Value} {B : Nat} (h : OBytes (fun g => B ≤ g) w u l) (hc : Chg None w W) (hB : B ≤ W.heap.size) (hs : w2.ownsRow 0 5 1 v' n xs) (hn : n = (l ++ k).length) (hx : xs = (l ++ k).map byteV)
    (hl : v'.ownBlock = u.ownBlock ∨ v'.ownBlock = some W.heap.size) (hg : W.grownBy w2 u.ownBlock) : OBytes (fun g => B ≤ g) w2 v' (l ++ k) ∧ Chg (fun g => B ≤ g) w w2 := by
  subst hn
  subst hx
  refine ⟨⟨hs, fun g hg => ?_⟩, hc.any.trans ((Chg.ofGrown hg).mono (fun k _ hk => h.2 k hk.symm))⟩
  rcases hl with e | e
  · exact h.2 g (e ▸ hg)
  · rw [e] at hg
    injection hg with hg
    omega
theorem chg_new {B : Nat} {w w1 w2 : World} (h : Chg None w w1) (h2 : Chg (fun g => B ≤ g) w1 w2) (hB : w.heap.size ≤ B) : Chg None w w2 := h.then h2 (fun i hi e => by omega)

theorem hexHi (c : UInt8) (w : World) : Calls Tryd.prog 13 #[.int .u8 ((c.toNat : Int) / 16)] w (fun e w' => e = .returned (byteV (Uv.hexD (c.toNat / 16))) ∧ w = w') := by
  have h := c.toNat_lt
  have e : (c.toNat : Int) / 16 = ((c.toNat / 16 : Nat) : Int) := by omega
  rw [e]
  exact specHex_ok _ (by omega) w
theorem hexLo (c : UInt8) (w : World) : Calls Tryd.prog 13 #[.int .u8 ((c.toNat : Int) % 16)] w (fun e w' => e = .returned (byteV (Uv.hexD (c.toNat % 16))) ∧ w = w') := by
  have e : (c.toNat : Int) % 16 = ((c.toNat % 16 : Nat) : Int) := by omega
  rw [e]
  exact specHex_ok _ (by omega) w

set_option maxRecDepth 100000 in
set_option maxHeartbeats 1000000 in
theorem specQueryEscape_ok (s : Bytes) (w : World) (hs : s.length ≤ 10000000000) : Calls Tryd.prog 8 #[encStr s] w (Ret (encStr (esc s)) w) := by
  go_enter Tryd.func8, Tryd.ntmps8
  go_wp2
  go_loopw [3, 4] (fun o iv wr => ∃ i : Nat, i ≤ s.length ∧ iv = .int .i64 i ∧ OBytes (fun g => w.heap.size ≤ g) wr o (esc (s.take i)) ∧ Chg None w wr) (fun _ iv _ => s.length - (intOf iv).toNat)
  case atStart => exact ⟨0, Nat.zero_le _, rfl, OBytes.made w (Nat.le_refl _), (Chg.refl _ _).alloc _⟩
  case round =>
    obtain ⟨i, hi, rfl, hO, hch⟩ := hrel
    obtain ⟨ao, co, ho⟩ := hO.shape
    subst ho
    by_cases hlt : i < s.length
    · have hix := run_textAt s i hlt
      have HE := Lib.hid (Uv.esc_take s i hlt)
      have hle : (esc (s.take i)).length ≤ 30000000000 := by
        have h1 := Uv.length_esc (s.take i)
        have h2 := Uv.hxc_le (s.take i)
        have h3 : (s.take i).length ≤ i := by simp; omega
        omega
      have hBw := hch.size
      generalize hES : esc (s.take i) = E at *
      have HES := Lib.hid hES
      clear hES
      by_cases h1 : safeB s[i] = true
      · have H := Lib.hid h1
        have HB : Hid (escB s[i] = [s[i]]) := by show _ = _; unfold escB; rw [h1]; simp
        rw [HB.out] at HE
        clear h1
        go_wp2_with (first | (go_at_call 12; refine (specSafe_ok s[i] _).mono ?_; rw [H.out]; rintro e w1 ⟨rfl, rfl⟩) | (at_builtin; refine wpList_app _ elByte rfl _ _ _ rfl (hO.1.alloc _) rfl (Src.ofSlice _ elByte.ht ⟨wr.heap.size, 0, none⟩ 1 1 [byteV s[i]] rfl (World.news_of_block (cs := #[byteV s[i]]) (heap_alloc_new wr _)) (by simp [Value.oneCell'])) rfl (by unfold maxLen; omega) (by omega) ?_; intro a2 c2 w2 hs2 hg2 hl2))
        obtain ⟨hO2, hc2⟩ := hO.app (k := [s[i]]) ((Chg.refl None wr).alloc _) (by simp; omega) hs2 (by simp) (by simp) hl2 hg2
        go_roundw
        case rel => exact ⟨i + 1, by omega, by go_num, by rw [HE.out]; exact hO2, chg_new hch hc2 (Nat.le_refl _)⟩
        case measure => simp [intOf]; omega
      · have h1 : safeB s[i] = false := by simpa using h1
        have H := Lib.hid h1
        by_cases h2 : s[i].toNat = 32
        · have hbe : ((s[i].toNat : Int) == 32) = true := by simp; omega
          have HB : Hid (escB s[i] = [43]) := by show _ = _; unfold escB; rw [Uv.safe_space h2]; simp [h2]
          rw [HB.out] at HE
          clear h1 h2
          go_wp2_with (first | (go_at_call 12; refine (specSafe_ok s[i] _).mono ?_; rw [H.out]; rintro e w1 ⟨rfl, rfl⟩) | (at_builtin; refine wpList_app _ elByte rfl _ _ _ rfl (hO.1.alloc _) rfl (Src.ofSlice _ elByte.ht ⟨wr.heap.size, 0, none⟩ 1 1 [byteV 43] rfl (World.news_of_block (cs := #[byteV 43]) (heap_alloc_new wr _)) (by simp [Value.oneCell'])) rfl (by unfold maxLen; omega) (by omega) ?_; intro a2 c2 w2 hs2 hg2 hl2))
          obtain ⟨hO2, hc2⟩ := hO.app (k := [43]) ((Chg.refl None wr).alloc _) (by simp; omega) hs2 (by simp) (by simp) hl2 hg2
          go_roundw
          case rel => exact ⟨i + 1, by omega, by go_num, by rw [HE.out]; exact hO2, chg_new hch hc2 (Nat.le_refl _)⟩
          case measure => simp [intOf]; omega
        · have hbe : ((s[i].toNat : Int) == 32) = false := by simp; omega
          have HB : Hid (escB s[i] = [37, Uv.hexD (s[i].toNat / 16), Uv.hexD (s[i].toNat % 16)]) := by show _ = _; unfold escB; rw [h1]; simp [h2]
          rw [HB.out] at HE
          clear h1 h2
          have h256 := s[i].toNat_lt
          go_wp2_with (first | (go_at_call 12; refine (specSafe_ok s[i] _).mono ?_; rw [H.out]; rintro e w1 ⟨rfl, rfl⟩))
          have u2 : (s[i].toNat : Int).tmod 16 = (s[i].toNat : Int) % 16 := Int.tmod_eq_emod_of_nonneg (by omega)
          have u1 : IntKind.u8.wrap ((s[i].toNat : Int) / 16) = (s[i].toNat : Int) / 16 := IntWalk.u8_in _ (by omega)
          have hO' := hO.new ((Chg.refl None wr).drew)
          have hch' := hch.drew
          have hBw' : w.heap.size ≤ wr.drew.heap.size := hBw
          go_region_held3 (fun _ => True) (trivial) (first | (go_at_call 13; ((with_reducible refine (hexHi s[i] _).mono ?_); rintro e w1 ⟨rfl, rfl⟩)) | (go_at_call 13; ((with_reducible refine (hexLo s[i] _).mono ?_); rintro e w1 ⟨rfl, rfl⟩)) | (refine step_app _ elByte rfl _ _ _ rfl (hO'.1.alloc _) rfl (Src.ofSlice _ elByte.ht ⟨wr.heap.size, 0, none⟩ 3 3 [byteV 37, byteV (Uv.hexD (s[i].toNat / 16)), byteV (Uv.hexD (s[i].toNat % 16))] rfl (World.news_of_block (cs := #[byteV 37, byteV (Uv.hexD (s[i].toNat / 16)), byteV (Uv.hexD (s[i].toNat % 16))]) (heap_alloc_new wr.drew _)) (by simp [Value.oneCell'])) rfl (by unfold maxLen; omega) (by omega) ?_; intro a2 c2 w2 hs2 hg2 hl2))
          clear u1 u2
          all_goals
            obtain ⟨hO2, hc2⟩ := hO'.app (k := [37, Uv.hexD (s[i].toNat / 16), Uv.hexD (s[i].toNat % 16)]) ((Chg.refl None wr.drew).alloc _) (by simp; omega) hs2 (by simp) (by simp) hl2 hg2
            go_wp2
            go_roundw
            case rel => exact ⟨i + 1, by omega, by go_num, by rw [HE.out]; exact hO2, chg_new hch' hc2 (Nat.le_refl _)⟩
            case measure => simp [intOf]; omega
    · obtain rfl : i = s.length := by omega
      rw [List.take_of_length_le (Nat.le_refl _)] at hO
      have htx := hO.text
      go_wp2
      go_ret
      exact ⟨rfl, hch⟩
end Go.Proofs.YteippkkeocmghaaDoor
