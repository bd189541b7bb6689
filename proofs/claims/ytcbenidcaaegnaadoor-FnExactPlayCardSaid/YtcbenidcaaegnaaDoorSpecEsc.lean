/-
  spec.QueryEscape.
-/
import Derived.Test.YtcbenidcaaegnaaDoorSpecByte
import Derived.Test.YtcbenidcaaegnaaDoorOBytes
import Derived.Deep.RegionHeld3
import Derived.IntWalk
import Derived.Outline
import Derived.Test.YtcbenidcaaegnaaDoorEsc
namespace Go.Proofs.YtcbenidcaaegnaaDoor
open Go.RowKit
open Uv (Bytes safeB esc escB)

theorem hexHi (c : UInt8) (w : World) : Calls Tryd.prog 73 #[.int .u8 ((c.toNat : Int) / 16)] w (fun e w' => e = .returned (byteV (Uv.hexD (c.toNat / 16))) ∧ w = w') := by
  have h := c.toNat_lt
  have e : (c.toNat : Int) / 16 = ((c.toNat / 16 : Nat) : Int) := by omega
  rw [e]
  exact specHex_ok _ (by omega) w
theorem hexLo (c : UInt8) (w : World) : Calls Tryd.prog 73 #[.int .u8 ((c.toNat : Int) % 16)] w (fun e w' => e = .returned (byteV (Uv.hexD (c.toNat % 16))) ∧ w = w') := by
  have e : (c.toNat : Int) % 16 = ((c.toNat % 16 : Nat) : Int) := by omega
  rw [e]
  exact specHex_ok _ (by omega) w

set_option maxRecDepth 100000 in
set_option maxHeartbeats 1000000 in
theorem specQueryEscape_ok (s : Bytes) (w : World) (hs : s.length ≤ 10000000000) : Calls Tryd.prog 61 #[encStr s] w (Ret (encStr (esc s)) w) := by
  go_enter Tryd.func61, Tryd.ntmps61
  go_wp2
  go_loopw [3, 4] (fun o iv wr => ∃ i : Nat, i ≤ s.length ∧ iv = .int .i64 i ∧ OBytes (fun g => w.heap.size ≤ g) wr o (esc (s.take i)) ∧ Chg None w wr) (fun _ iv _ => s.length - (intOf iv).toNat)
  case atStart => exact ⟨0, Nat.zero_le _, rfl, OBytes.made w (Nat.le_refl _), (Chg.refl _ _).alloc _⟩
  case round =>
    obtain ⟨i, hi, rfl, hO, hch⟩ := hrel
    obtain ⟨ao, co, ho⟩ := hO.shape
    subst ho
    by_cases hlt : i < s.length
    · have hix := run_textAt s i hlt
      have HE := Lib.hid (Uv.esc_take s i hlt)
      have hle : (esc (s.take i)).length ≤ 30000000000 := by
        have h1 := Uv.length_esc (s.take i)
        have h2 := Uv.hxc_le (s.take i)
        have h3 : (s.take i).length ≤ i := by simp; omega
        omega
      have hBw := hch.size
      generalize hES : esc (s.take i) = E at *
      have HES := Lib.hid hES
      clear hES
      by_cases h1 : safeB s[i] = true
      · have H := Lib.hid h1
        have HB : Hid (escB s[i] = [s[i]]) := by show _ = _; unfold escB; rw [h1]; simp
        rw [HB.out] at HE
        clear h1
        go_wp2_with (first | (go_at_call 72; refine (specSafe_ok s[i] _).mono ?_; rw [H.out]; rintro e w1 ⟨rfl, rfl⟩) | (at_builtin; refine wpList_app _ elByte rfl _ _ _ rfl (hO.1.alloc _) rfl (Src.ofSlice _ elByte.ht ⟨wr.heap.size, 0, none⟩ 1 1 [byteV s[i]] rfl (World.news_of_block (cs := #[byteV s[i]]) (heap_alloc_new wr _)) (by simp [Value.oneCell'])) rfl (by unfold maxLen; omega) (by omega) ?_; intro a2 c2 w2 hs2 hg2 hl2))
        obtain ⟨hO2, hc2⟩ := hO.app (k := [s[i]]) ((Chg.refl None wr).alloc _) (by simp; omega) hs2 (by simp) (by simp) hl2 hg2
        go_roundw
        case rel => exact ⟨i + 1, by omega, by go_num, by rw [HE.out]; exact hO2, chg_new hch hc2 (Nat.le_refl _)⟩
        case measure => simp [intOf]; omega
      · have h1 : safeB s[i] = false := by simpa using h1
        have H := Lib.hid h1
        by_cases h2 : s[i].toNat = 32
        · have hbe : ((s[i].toNat : Int) == 32) = true := by simp; omega
          have HB : Hid (escB s[i] = [43]) := by show _ = _; unfold escB; rw [Uv.safe_space h2]; simp [h2]
          rw [HB.out] at HE
          clear h1 h2
          go_wp2_with (first | (go_at_call 72; refine (specSafe_ok s[i] _).mono ?_; rw [H.out]; rintro e w1 ⟨rfl, rfl⟩) | (at_builtin; refine wpList_app _ elByte rfl _ _ _ rfl (hO.1.alloc _) rfl (Src.ofSlice _ elByte.ht ⟨wr.heap.size, 0, none⟩ 1 1 [byteV 43] rfl (World.news_of_block (cs := #[byteV 43]) (heap_alloc_new wr _)) (by simp [Value.oneCell'])) rfl (by unfold maxLen; omega) (by omega) ?_; intro a2 c2 w2 hs2 hg2 hl2))
          obtain ⟨hO2, hc2⟩ := hO.app (k := [43]) ((Chg.refl None wr).alloc _) (by simp; omega) hs2 (by simp) (by simp) hl2 hg2
          go_roundw
          case rel => exact ⟨i + 1, by omega, by go_num, by rw [HE.out]; exact hO2, chg_new hch hc2 (Nat.le_refl _)⟩
          case measure => simp [intOf]; omega
        · have hbe : ((s[i].toNat : Int) == 32) = false := by simp; omega
          have HB : Hid (escB s[i] = [37, Uv.hexD (s[i].toNat / 16), Uv.hexD (s[i].toNat % 16)]) := by show _ = _; unfold escB; rw [h1]; simp [h2]
          rw [HB.out] at HE
          clear h1 h2
          have h256 := s[i].toNat_lt
          go_wp2_with (first | (go_at_call 72; refine (specSafe_ok s[i] _).mono ?_; rw [H.out]; rintro e w1 ⟨rfl, rfl⟩))
          have u2 : (s[i].toNat : Int).tmod 16 = (s[i].toNat : Int) % 16 := Int.tmod_eq_emod_of_nonneg (by omega)
          have u1 : IntKind.u8.wrap ((s[i].toNat : Int) / 16) = (s[i].toNat : Int) / 16 := IntWalk.u8_in _ (by omega)
          have hO' := hO.new ((Chg.refl None wr).drew)
          have hch' := hch.drew
          have hBw' : w.heap.size ≤ wr.drew.heap.size := hBw
          go_region_held3 (fun _ => True) (trivial) (first | (go_at_call 73; ((with_reducible refine (hexHi s[i] _).mono ?_); rintro e w1 ⟨rfl, rfl⟩)) | (go_at_call 73; ((with_reducible refine (hexLo s[i] _).mono ?_); rintro e w1 ⟨rfl, rfl⟩)) | (refine step_app _ elByte rfl _ _ _ rfl (hO'.1.alloc _) rfl (Src.ofSlice _ elByte.ht ⟨wr.heap.size, 0, none⟩ 3 3 [byteV 37, byteV (Uv.hexD (s[i].toNat / 16)), byteV (Uv.hexD (s[i].toNat % 16))] rfl (World.news_of_block (cs := #[byteV 37, byteV (Uv.hexD (s[i].toNat / 16)), byteV (Uv.hexD (s[i].toNat % 16))]) (heap_alloc_new wr.drew _)) (by simp [Value.oneCell'])) rfl (by unfold maxLen; omega) (by omega) ?_; intro a2 c2 w2 hs2 hg2 hl2))
          clear u1 u2
          all_goals
            obtain ⟨hO2, hc2⟩ := hO'.app (k := [37, Uv.hexD (s[i].toNat / 16), Uv.hexD (s[i].toNat % 16)]) ((Chg.refl None wr.drew).alloc _) (by simp; omega) hs2 (by simp) (by simp) hl2 hg2
            go_wp2
            go_roundw
            case rel => exact ⟨i + 1, by omega, by go_num, by rw [HE.out]; exact hO2, chg_new hch' hc2 (Nat.le_refl _)⟩
            case measure => simp [intOf]; omega
    · obtain rfl : i = s.length := by omega
      rw [List.take_of_length_le (Nat.le_refl _)] at hO
      have htx := hO.text
      go_wp2
      go_ret
      exact ⟨rfl, hch⟩
end Go.Proofs.YtcbenidcaaegnaaDoor
