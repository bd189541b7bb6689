/-
  spec.QueryUnescape.
-/
import Derived.Test.YteippkkeocmghaaDoorSpecByte
import Derived.Test.YteippkkeocmghaaDoorOBytes
import Derived.Test.YteippkkeocmghaaDoorEsc
import Derived.Deep.RegionHeld3
import Derived.IntWalk
import Derived.Outline
namespace Go.Proofs.YteippkkeocmghaaDoor
open Go.RowKit
open Uv (Bytes un unT hexV UnTo)

theorem two_nat {a b : UInt8} (ha : hexV a < 16) (hb : hexV b < 16) : ((Uv.two a b).toNat : Int) = 16 * (hexV a : Int) + (hexV b : Int) := by
  unfold Uv.two
  rw [UInt8.toNat_ofNat_of_lt' (by show _ < 256; omega)]
  omega
/-- 's[C]', C a number that is j -/
theorem run_textD (s : Bytes) (j : Nat) (h : j < s.length) (C : Int) (hC : C = (j : Int)) (W : World) : (Instr.index 9 (encStr s) (.int .i64 C)).run Tryd.prog W = .ok (.int .u8 (s[j].toNat : Int)) W := by
  subst hC
  exact run_textAt s j h W

set_option maxRecDepth 100000 in
set_option maxHeartbeats 2000000 in
theorem specQueryUnescape_ok (s : Bytes) (w : World) (hs : s.length ≤ 10000000000) : Calls Tryd.prog 9 #[encStr s] w (Ret (.tuple #[encStr (unT s), .bool (un s).isSome]) w) := by
  go_enter Tryd.func9, Tryd.ntmps9
  go_wp2
  go_loopw [2, 3, 4, 5] (fun v2 v3 o iv wr => ∃ (i : Nat) (p : Bytes), v2 = .string ⟨#[]⟩ ∧ v3 = .bool false ∧ i ≤ s.length ∧ iv = .int .i64 i ∧ UnTo s i p ∧ p.length ≤ i ∧ OBytes (fun g => w.heap.size ≤ g) wr o p ∧ Chg None w wr) (fun _ _ _ iv _ => s.length - (intOf iv).toNat)
  case atStart => exact ⟨0, [], rfl, rfl, Nat.zero_le _, rfl, UnTo.start s, Nat.le_refl _, OBytes.made w (Nat.le_refl _), (Chg.refl _ _).alloc _⟩
  case round =>
    obtain ⟨i, p, rfl, rfl, hi, rfl, hU, hp, hO, hch⟩ := hrel
    obtain ⟨ao, co, ho⟩ := hO.shape
    subst ho
    have hBw := hch.size
    by_cases hlt : i < s.length
    · have hix := run_textAt s i hlt
      by_cases h37 : s[i].toNat = 37
      · have e37 : ((s[i].toNat : Int) != 37) = false := by simp; omega
        have e43 : ((s[i].toNat : Int) == 43) = false := by simp; omega
        by_cases h2 : i + 2 < s.length
        · have d2 : decide ((s.length : Int) ≤ (i : Int) + 2) = false := by simp; omega
          have hix1 := run_textD s (i + 1) (by omega) (i + 1) (by omega)
          have hix2 := run_textD s (i + 2) (by omega) (i + 2) (by omega)
          by_cases h3 : hexV s[i + 1] < 16
          · have b3 : decide ((15 : Int) < (hexV s[i + 1] : Int)) = false := by simp; omega
            by_cases h4 : hexV s[i + 2] < 16
            · have b4 : decide ((15 : Int) < (hexV s[i + 2] : Int)) = false := by simp; omega
              have hU' := hU.pct h2 h37 h3 h4
              have H2 := Lib.hid (two_nat h3 h4)
              clear h37
              go_wp2_with (go_at_call 14; (first | ((with_reducible refine (specValue_ok s[i + 1] _).mono ?_); rintro e w1 ⟨rfl, rfl⟩) | ((with_reducible refine (specValue_ok s[i + 2] _).mono ?_); rintro e w1 ⟨rfl, rfl⟩)))
              have u1 : IntKind.i64.wrap ((i : Int) + 1) = (i : Int) + 1 := IntWalk.i64_in _ (by omega)
              have u2 : IntKind.i64.wrap ((i : Int) + 2) = (i : Int) + 2 := IntWalk.i64_in _ (by omega)
              have u3 : IntKind.u8.wrap (16 * (hexV s[i + 1] : Int)) = 16 * (hexV s[i + 1] : Int) := IntWalk.u8_in _ (by omega)
              have u4 : IntKind.u8.wrap (16 * (hexV s[i + 1] : Int) + (hexV s[i + 2] : Int)) = ((Uv.two s[i + 1] s[i + 2]).toNat : Int) := by rw [H2.out]; exact IntWalk.u8_in _ (by omega)
              have hO' := hO.new ((Chg.refl None wr).drew)
              have hch' := hch.drew
              have hBw' : w.heap.size ≤ wr.drew.heap.size := hBw
              go_region_held3 (fun _ => True) (trivial) (first | (go_at_call 14; ((with_reducible refine (specValue_ok s[i + 1] _).mono ?_); rintro e w1 ⟨rfl, rfl⟩)) | (go_at_call 14; ((with_reducible refine (specValue_ok s[i + 2] _).mono ?_); rintro e w1 ⟨rfl, rfl⟩)) | (refine step_app _ elByte rfl _ _ _ rfl (hO'.1.alloc _) rfl (Src.ofSlice _ elByte.ht ⟨wr.heap.size, 0, none⟩ 1 1 [byteV (Uv.two s[i + 1] s[i + 2])] rfl (World.news_of_block (cs := #[byteV (Uv.two s[i + 1] s[i + 2])]) (heap_alloc_new wr.drew _)) (by simp [Value.oneCell'])) rfl (by unfold maxLen; omega) (by omega) ?_; intro a2 c2 w2 hs2 hg2 hl2))
              all_goals
                obtain ⟨hO2, hc2⟩ := hO'.app (k := [Uv.two s[i + 1] s[i + 2]]) ((Chg.refl None wr.drew).alloc _) (by simp; omega) hs2 (by simp) (by simp) hl2 hg2
                go_wp2
                go_roundw
                case rel => exact ⟨i + 3, _, rfl, rfl, by omega, by go_num, hU', by simp; omega, hO2, chg_new hch' hc2 (Nat.le_refl _)⟩
                case measure => simp [intOf]; omega
            · have b4 : decide ((15 : Int) < (hexV s[i + 2] : Int)) = true := by simp; omega
              have HN := Lib.hid (hU.bad (Uv.un_bad s i h2 h37 (fun x => h4 x.2)))
              clear h37
              go_wp2_with (go_at_call 14; (first | ((with_reducible refine (specValue_ok s[i + 1] _).mono ?_); rintro e w1 ⟨rfl, rfl⟩) | ((with_reducible refine (specValue_ok s[i + 2] _).mono ?_); rintro e w1 ⟨rfl, rfl⟩)))
              go_ret2
              exact ⟨by unfold unT; rw [HN.out]; rfl, hch⟩
          · have b3 : decide ((15 : Int) < (hexV s[i + 1] : Int)) = true := by simp; omega
            have HN := Lib.hid (hU.bad (Uv.un_bad s i h2 h37 (fun x => h3 x.1)))
            clear h37
            go_wp2_with (go_at_call 14; ((with_reducible refine (specValue_ok s[i + 1] _).mono ?_); rintro e w1 ⟨rfl, rfl⟩))
            go_ret2
            exact ⟨by unfold unT; rw [HN.out]; rfl, hch⟩
        · have d2 : decide ((s.length : Int) ≤ (i : Int) + 2) = true := by simp; omega
          have HN := Lib.hid (hU.bad (Uv.un_short s i hlt (by omega) h37))
          clear h37
          go_wp2
          go_ret2
          exact ⟨by unfold unT; rw [HN.out]; rfl, hch⟩
      · have e37 : ((s[i].toNat : Int) != 37) = true := by simp; omega
        have hU' := hU.plain hlt h37
        clear h37
        by_cases h43 : s[i].toNat = 43
        · have e43 : ((s[i].toNat : Int) == 43) = true := by simp; omega
          have h1 : Uv.one s[i] = 32 := by unfold Uv.one; rw [if_pos h43]
          rw [h1] at hU'
          clear h43 h1
          go_wp2_with (at_builtin; refine wpList_app _ elByte rfl _ _ _ rfl (hO.1.alloc _) rfl (Src.ofSlice _ elByte.ht ⟨wr.heap.size, 0, none⟩ 1 1 [byteV 32] rfl (World.news_of_block (cs := #[byteV 32]) (heap_alloc_new wr _)) (by simp [Value.oneCell'])) rfl (by unfold maxLen; omega) (by omega) ?_; intro a2 c2 w2 hs2 hg2 hl2)
          obtain ⟨hO2, hc2⟩ := hO.app (k := [32]) ((Chg.refl None wr).alloc _) (by simp; omega) hs2 (by simp) (by simp) hl2 hg2
          go_roundw
          case rel => exact ⟨i + 1, _, rfl, rfl, by omega, by go_num, hU', by simp; omega, hO2, chg_new hch hc2 (Nat.le_refl _)⟩
          case measure => simp [intOf]; omega
        · have e43 : ((s[i].toNat : Int) == 43) = false := by simp; omega
          have h1 : Uv.one s[i] = s[i] := by unfold Uv.one; rw [if_neg h43]
          rw [h1] at hU'
          clear h43 h1
          go_wp2_with (at_builtin; refine wpList_app _ elByte rfl _ _ _ rfl (hO.1.alloc _) rfl (Src.ofSlice _ elByte.ht ⟨wr.heap.size, 0, none⟩ 1 1 [byteV s[i]] rfl (World.news_of_block (cs := #[byteV s[i]]) (heap_alloc_new wr _)) (by simp [Value.oneCell'])) rfl (by unfold maxLen; omega) (by omega) ?_; intro a2 c2 w2 hs2 hg2 hl2)
          obtain ⟨hO2, hc2⟩ := hO.app (k := [s[i]]) ((Chg.refl None wr).alloc _) (by simp; omega) hs2 (by simp) (by simp) hl2 hg2
          go_roundw
          case rel => exact ⟨i + 1, _, rfl, rfl, by omega, by go_num, hU', by simp; omega, hO2, chg_new hch hc2 (Nat.le_refl _)⟩
          case measure => simp [intOf]; omega
    · obtain rfl : i = s.length := by omega
      have hu := hU.fin (Nat.le_refl _)
      have HU := Lib.hid hu
      clear hu
      have htx := hO.text
      go_wp2
      go_ret2
      exact ⟨by unfold unT; rw [HU.out]; rfl, hch⟩
end Go.Proofs.YteippkkeocmghaaDoor
