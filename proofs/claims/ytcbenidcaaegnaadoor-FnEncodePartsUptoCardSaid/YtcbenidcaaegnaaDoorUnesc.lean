/-
  net/url.unescape, QueryUnescape; the thin package's.
-/
import Derived.Test.YtcbenidcaaegnaaDoorBld
import Derived.Test.YtcbenidcaaegnaaDoorEsc
import Derived.Test.YtcbenidcaaegnaaDoorUnPure
import Derived.StillTailTactics
import Derived.Deep.QuietTactic
import Derived.BigQuiet
namespace Go.Proofs.YtcbenidcaaegnaaDoor
open Go.RowKit
open Uv (Bytes un unT hexV UnTo)

theorem tab_hex (c : UInt8) : (bits BinOp.and IntKind.u8 (tabL[c.toNat]?.getD 0) 128 != 0) = decide (hexV c < 16) := by
  revert c
  exact byte_cases (by decide +kernel)

set_option maxHeartbeats 400000 in
theorem ishex_ok (c : UInt8) (w : World) (hT : Tab w) : Calls Tryd.prog 68 #[.int .u8 c.toNat] w (fun e w' => e = .returned (.bool (decide (hexV c < 16))) ∧ w = w') := by
  have h := hT c
  have hlt : (c.toNat : Int) < 256 := by have := c.toNat_lt; omega
  go_enter Tryd.func68, Tryd.ntmps68
  go_wp2
  go_ret
  exact ⟨ret_bool' (tab_hex c), rfl⟩

theorem unhex_eq (c : UInt8) : hexV c < 16 → 9 * (c.toNat / 64) + c.toNat % 16 = hexV c := by
  revert c
  exact byte_cases (by decide +kernel)
theorem unhex_ok (c : UInt8) (w : World) (hc : hexV c < 16) : Calls Tryd.prog 69 #[.int .u8 c.toNat] w (fun e w' => e = .returned (.int .u8 (hexV c : Nat)) ∧ w = w') := by
  have hlt : c.toNat < 256 := c.toNat_lt
  have H := Lib.hid (unhex_eq c hc)
  clear hc
  go_enter Tryd.func69, Tryd.ntmps69
  go_wp2
  go_ret
  exact ⟨by rw [← H.out]; rfl, rfl⟩
theorem or_nat : ∀ x : Nat, x < 16 → ∀ y : Nat, y < 16 → bits BinOp.or IntKind.u8 ((x : Int) * 16) (y : Int) = ((16 * x + y : Nat) : Int) := by decide +kernel
theorem or_hex {a b : UInt8} (ha : hexV a < 16) (hb : hexV b < 16) : bits BinOp.or IntKind.u8 ((hexV a : Int) * 16) (hexV b : Int) = ((Uv.two a b).toNat : Int) := by
  rw [or_nat _ ha _ hb]
  unfold Uv.two
  rw [UInt8.toNat_ofNat_of_lt' (by show _ < 256; omega)]
/-- 's[C]', C a number that is j -/
theorem run_textC (s : Bytes) (j : Nat) (h : j < s.length) (C : Int) (hC : C = (j : Int)) (W : World) : (Instr.index 9 (encStr s) (.int .i64 C)).run Tryd.prog W = .ok (.int .u8 (s[j].toNat : Int)) W := by
  subst hC
  exact run_textAt s j h W

/-- the text that is told, and no error; or the empty text and an error -/
def UnPost (s : Bytes) (w : World) (e : Ending) (w' : World) : Prop :=
  ∃ err, e = .returned (.tuple #[encStr (unT s), err]) ∧ ((err = .nilIface ∧ (un s).isSome = true) ∨ ((∃ x, err = .iface 104 x) ∧ (un s).isSome = false)) ∧ Chg None w w'
theorem unPost_bad {s : Bytes} {w w' : World} {x : Value} (h : un s = none) (hc : Chg None w w') : UnPost s w (.returned (.tuple #[encStr [], .iface 104 x])) w' :=
  ⟨_, by simp [unT, h], .inr ⟨⟨x, rfl⟩, by simp [h]⟩, hc⟩
theorem unPost_good {s u : Bytes} {w w' : World} (h : un s = some u) (hc : Chg None w w') : UnPost s w (.returned (.tuple #[encStr u, .nilIface])) w' :=
  ⟨_, by simp [unT, h], .inl ⟨rfl, by simp [h]⟩, hc⟩

theorem bGrowC (n : Nat) (C : Int) (w : World) (hC : C = (n : Int)) (hn : n ≤ 281474976710656) :
    Calls Tryd.prog 71 #[.pointer (some ⟨w.heap.size, 0, none⟩), .int .i64 C] (w.alloc (.cells #[.pointer none, .slice none 0 0] 89)) (fun e w' => e = .returned (.tuple #[]) ∧ IsB w.heap.size w.heap.size [] w' ∧ Chg None w w') := by
  subst hC
  exact bGrow_ok n w hn

set_option maxRecDepth 100000 in
set_option maxHeartbeats 2000000 in
theorem unescape_ok (s : Bytes) (w : World) (hT : Tab w) (hs : s.length ≤ 10000000000) : Calls Tryd.prog 57 #[encStr s, .int .u8 32] w (UnPost s w) := by
  go_enter Tryd.func57, Tryd.ntmps57
  go_wp2
  go_loop [0, 4, 5, 6, 7, 8] (fun v0 v4 v5 nv bv iv => ∃ (i n : Nat) (b : Bool) (p : Bytes), v0 = encStr s ∧ v4 = .string ⟨#[]⟩ ∧ v5 = .nilIface ∧ i ≤ s.length ∧ iv = .int .i64 i ∧ nv = .int .i64 n ∧ bv = .bool b ∧ UnTo s i p ∧ i = p.length + 2 * n ∧ (n = 0 → b = false → p = s.take i)) (fun _ _ _ _ _ iv => s.length - (intOf iv).toNat)
  case atStart => exact ⟨0, 0, false, [], rfl, rfl, rfl, Nat.zero_le _, rfl, rfl, rfl, UnTo.start s, rfl, fun _ _ => rfl⟩
  case round =>
    obtain ⟨i, n, b, p, rfl, rfl, rfl, hi, rfl, rfl, rfl, hU, hip, hpt⟩ := hrel
    have HI := Lib.hid hip
    have HP := Lib.hid hpt
    have hn : 2 * n ≤ i := by omega
    clear hip hpt
    by_cases hlt : i < s.length
    · have hix := run_textAt s i hlt
      by_cases h37 : s[i].toNat = 37
      · have e37 : ((s[i].toNat : Int) == 37) = true := by simp; omega
        by_cases h2 : i + 2 < s.length
        · have d2 : decide ((s.length : Int) ≤ (i : Int) + 2) = false := by simp; omega
          have hix1 := run_textC s (i + 1) (by omega) (i + 1) (by omega)
          have hix2 := run_textC s (i + 2) (by omega) (i + 2) (by omega)
          by_cases h3 : hexV s[i + 1] < 16
          · have b3 := Lib.hid (decide_eq_true h3)
            by_cases h4 : hexV s[i + 2] < 16
            · have b4 := Lib.hid (decide_eq_true h4)
              have hU' := hU.pct h2 h37 h3 h4
              clear h37 h3 h4
              go_wp2_with (go_at_call 68; (first | ((with_reducible refine (ishex_ok s[i + 1] _ hT).mono ?_); rw [b3.out]; rintro e w1 ⟨rfl, rfl⟩) | ((with_reducible refine (ishex_ok s[i + 2] _ hT).mono ?_); rw [b4.out]; rintro e w1 ⟨rfl, rfl⟩)))
              go_round
              case rel => exact ⟨i + 3, n + 1, b, _, rfl, rfl, rfl, by omega, by go_num, by go_num, rfl, hU', Uv.length_two n p _ HI.out, fun e => by omega⟩
              case measure => simp [intOf]; omega
            · have b4 := Lib.hid (decide_eq_false h4)
              have HN := Lib.hid (hU.bad (Uv.un_bad s i h2 h37 (fun x => h4 x.2)))
              clear h37 h3 h4
              go_wp2_with (go_at_call 68; (first | ((with_reducible refine (ishex_ok s[i + 1] _ hT).mono ?_); rw [b3.out]; rintro e w1 ⟨rfl, rfl⟩) | ((with_reducible refine (ishex_ok s[i + 2] _ hT).mono ?_); rw [b4.out]; rintro e w1 ⟨rfl, rfl⟩)))
              all_goals
                go_ret2
                exact unPost_bad HN.out (Chg.refl _ _)
          · have b3 := Lib.hid (decide_eq_false h3)
            have HN := Lib.hid (hU.bad (Uv.un_bad s i h2 h37 (fun x => h3 x.1)))
            clear h37 h3
            go_wp2_with (go_at_call 68; ((with_reducible refine (ishex_ok s[i + 1] _ hT).mono ?_); rw [b3.out]; rintro e w1 ⟨rfl, rfl⟩))
            all_goals
              go_ret2
              exact unPost_bad HN.out (Chg.refl _ _)
        · have d2 : decide ((s.length : Int) ≤ (i : Int) + 2) = true := by simp; omega
          have HN := Lib.hid (hU.bad (Uv.un_short s i hlt (by omega) h37))
          clear h37
          go_wp2
          all_goals
            go_ret2
            exact unPost_bad HN.out (Chg.refl _ _)
      · have e37 : ((s[i].toNat : Int) == 37) = false := by simp; omega
        have hU' := hU.plain hlt h37
        clear h37
        by_cases h43 : s[i].toNat = 43
        · have e43 : ((s[i].toNat : Int) == 43) = true := by simp; omega
          clear h43
          go_wp2
          go_round
          case rel => exact ⟨i + 1, n, true, _, rfl, rfl, rfl, by omega, by go_num, rfl, rfl, hU', by rw [List.length_append, List.length_singleton, HI.out]; omega, fun _ e => by cases e⟩
          case measure => simp [intOf]; omega
        · have e43 : ((s[i].toNat : Int) == 43) = false := by simp; omega
          have h1 : Uv.one s[i] = s[i] := by unfold Uv.one; rw [if_neg h43]
          rw [h1] at hU'
          clear h43 h1
          go_wp2
          go_round
          case rel => exact ⟨i + 1, n, b, _, rfl, rfl, rfl, by omega, by go_num, rfl, rfl, hU', by rw [List.length_append, List.length_singleton, HI.out]; omega, fun e1 e2 => by rw [HP.out e1 e2, List.take_succ_eq_append_getElem hlt]⟩
          case measure => simp [intOf]; omega
    · obtain rfl : i = s.length := by omega
      have hu := hU.fin (Nat.le_refl _)
      have HU := Lib.hid hu
      clear hu
      by_cases h0 : n = 0 ∧ b = false
      · have hp := HP.out h0.1 h0.2
        rw [List.take_of_length_le (Nat.le_refl _)] at hp
        have HPS := Lib.hid hp
        obtain ⟨rfl, rfl⟩ := h0
        clear hp
        go_wp2
        go_ret2
        rw [HPS.out] at HU
        exact unPost_good HU.out (Chg.refl _ _)
      · obtain ⟨c1, t1⟩ : ∃ c, ((n : Int) == 0) = c := ⟨_, rfl⟩
        have tb : c1 = false ∨ (c1 = true ∧ b = true) := by
          cases c1
          · exact .inl rfl
          · refine .inr ⟨rfl, ?_⟩
            have : n = 0 := by simpa using t1
            cases b
            · exact absurd ⟨this, rfl⟩ h0
            · rfl
        have HG := Lib.hid HI.out
        clear h0 HP HI
        rcases tb with rfl | ⟨rfl, rfl⟩
        all_goals
          go_wp2_with (go_at_call 71; refine (bGrowC p.length _ _ (by have := HG.out; omega) (by have := HG.out; omega)).mono ?_; rintro e w1 ⟨rfl, hI, hc1⟩)
          have hBl : w.heap.size < w1.heap.size := hI.lt
          have hud := HU.out
          have HUS := Lib.hid hud
          clear hud HU HG hU t1
          generalize hBk : w.heap.size = B at *
          have HBK := Lib.hid hBk
          clear hBk
          go_loopw [12] (fun iv wr => ∃ (i : Nat) (q : Bytes), i ≤ s.length ∧ iv = .int .i64 i ∧ UnTo s i q ∧ q.length ≤ i ∧ IsB B B q wr ∧ Chg None w wr) (fun iv _ => s.length - (intOf iv).toNat)
          case atStart => exact ⟨0, [], Nat.zero_le _, rfl, UnTo.start s, Nat.le_refl _, hI, hc1⟩
          case round =>
            obtain ⟨i, q, hi, rfl, hU, hq, hI, hch⟩ := hrel
            by_cases hlt : i < s.length
            · have hix := run_textAt s i hlt
              by_cases h37 : s[i].toNat = 37
              · have e37 : ((s[i].toNat : Int) == 37) = true := by simp; omega
                obtain ⟨h2, h3, h4⟩ := hU.well HUS.out hlt h37
                have hU' := hU.pct h2 h37 h3 h4
                have hix1 := run_textC s (i + 1) (by omega) (i + 1) (by omega)
                have hix2 := run_textC s (i + 2) (by omega) (i + 2) (by omega)
                clear h37
                go_wp2
                have u1 : IntKind.i64.wrap ((i : Int) + 1) = (i : Int) + 1 := IntWalk.i64_in _ (by omega)
                have u2 : IntKind.i64.wrap ((i : Int) + 2) = (i : Int) + 2 := IntWalk.i64_in _ (by omega)
                refine wp_region_still_tail 12 (by kernel_rfl) (by kernel_rfl) ?_
                simp only [List.take_succ_cons, List.take_zero, List.drop_succ_cons, List.drop_zero]
                repeat still_step
                still_call ((unhex_ok s[i + 1] _ h3).mono fun _ _ h => ⟨h.1, h.2.symm⟩)
                repeat still_step
                still_call ((unhex_ok s[i + 2] _ h4).mono fun _ _ h => ⟨h.1, h.2.symm⟩)
                repeat still_step
                refine wpStill_nil ?_
                change wpList _ _ _ _ _ wr.drew
                have hI' := hI.new ((Chg.refl None wr).drew)
                have hch' := hch.drew
                generalize wr.drew = wd at *
                go_wp2_with fail
                rw [or_hex h3 h4]
                refine (bWriteByte_ok B B q (Uv.two s[i + 1] s[i + 2]) _ hI' (by omega)).mono ?_
                rintro e w2 ⟨rfl, hI2, hc2⟩
                go_wp2
                go_roundw
                case rel => exact ⟨i + 3, _, by omega, by go_num, hU', by simp; omega, hI2, chg_new hch' hc2.bfrBelow (Nat.le_of_eq HBK.out)⟩
                case measure => simp [intOf]; omega
              · have e37 : ((s[i].toNat : Int) == 37) = false := by simp; omega
                have hU' := hU.plain hlt h37
                clear h37
                by_cases h43 : s[i].toNat = 43
                · have e43 : ((s[i].toNat : Int) == 43) = true := by simp; omega
                  have h1 : Uv.one s[i] = 32 := by unfold Uv.one; rw [if_pos h43]
                  rw [h1] at hU'
                  clear h43 h1
                  go_wp2_with (go_at_call 54; refine (bWriteByte_ok B B q 32 _ hI (by omega)).mono ?_; rintro e w2 ⟨rfl, hI2, hc2⟩)
                  go_roundw
                  case rel => exact ⟨i + 1, _, by omega, by go_num, hU', by simp; omega, hI2, chg_new hch hc2.bfrBelow (Nat.le_of_eq HBK.out)⟩
                  case measure => simp [intOf]; omega
                · have e43 : ((s[i].toNat : Int) == 43) = false := by simp; omega
                  have h1 : Uv.one s[i] = s[i] := by unfold Uv.one; rw [if_neg h43]
                  rw [h1] at hU'
                  clear h43 h1
                  go_wp2_with (go_at_call 54; refine (bWriteByte_ok B B q s[i] _ hI (by omega)).mono ?_; rintro e w2 ⟨rfl, hI2, hc2⟩)
                  go_roundw
                  case rel => exact ⟨i + 1, _, by omega, by go_num, hU', by simp; omega, hI2, chg_new hch hc2.bfrBelow (Nat.le_of_eq HBK.out)⟩
                  case measure => simp [intOf]; omega
            · obtain rfl : i = s.length := by omega
              have hu := hU.fin (Nat.le_refl _)
              have HU := Lib.hid hu
              clear hu
              go_wp2_with (go_at_call 56; refine (bString_ok B B q _ hI).mono ?_; rintro e w2 ⟨rfl, hc2⟩)
              go_ret2
              exact unPost_good HU.out (chg_new hch hc2 (Nat.le_of_eq HBK.out))

theorem urlQueryUnescape_ok (s : Bytes) (w : World) (hT : Tab w) (hs : s.length ≤ 10000000000) : Calls Tryd.prog 26 #[encStr s] w (UnPost s w) := by
  go_enter Tryd.func26, Tryd.ntmps26
  go_wp2_with (go_at_call 57; refine (unescape_ok s _ hT hs).mono ?_; rintro e w1 ⟨err, rfl, he, hc⟩)
  go_ret2
  exact ⟨err, rfl, he, hc⟩

theorem implQueryUnescape_ok (s : Bytes) (w : World) (hT : Tab w) (hs : s.length ≤ 10000000000) : Calls Tryd.prog 8 #[encStr s] w (Ret (.tuple #[encStr (unT s), .bool (un s).isSome]) w) := by
  go_enter Tryd.func8, Tryd.ntmps8
  go_wp2_with fail
  refine (urlQueryUnescape_ok s _ hT hs).mono ?_
  rintro e w1 ⟨err, rfl, he, hc⟩
  rcases he with ⟨rfl, hu⟩ | ⟨⟨x, rfl⟩, hu⟩
  all_goals
    have HU := Lib.hid hu
    clear hu
    go_wp2
    go_quiet (fail)
    go_wp2
    go_ret2
    exact ⟨by rw [HU.out]; rfl, hc.drewN _⟩
end Go.Proofs.YtcbenidcaaegnaaDoor
