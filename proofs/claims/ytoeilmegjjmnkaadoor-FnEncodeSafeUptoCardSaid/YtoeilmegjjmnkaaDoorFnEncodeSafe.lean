/-
  FnEncodeSafe's walk: where keys and values are of bulk at most 1048576 the law returns true, and writes nothing that was there.
-/
import Derived.Test.YtoeilmegjjmnkaaDoorOpen
import Derived.Test.YtoeilmegjjmnkaaDoorEntries
import Derived.Test.YtoeilmegjjmnkaaDoorEncode
import Derived.Test.YtoeilmegjjmnkaaDoorEncLaw
import Derived.Test.YtoeilmegjjmnkaaDoorSpecByte
namespace Go.Proofs.YtoeilmegjjmnkaaDoor.fnEncodeSafe
open Go.RowKit
open Uv (Bytes Ent KV bulk bulkS kept enc cnt safeB)

set_option maxRecDepth 100000 in
set_option maxHeartbeats 1000000 in
theorem walk (kv : Value) (ks : List Bytes) (vv : Value) (vss : List (List Bytes)) (w : World) (hk : RStrs All w kv ks) (hv : RTextss All w vv vss)
    (hb : bulkS ks + bulkSS vss ≤ 1048576) (hT : Tab w) : Calls Tryd.prog 4 #[kv, vv] w (Ret (.bool true) w) := by
  have hz := Uv.bulk_zip ks bulkSS (fun _ _ => rfl) vss
  obtain ⟨es, hes⟩ : ∃ es, ks.zip vss = es := ⟨_, rfl⟩
  have hN0 : bulk (ks.zip vss) ≤ 4194304 := by omega
  rw [hes] at hz
  have HE := Lib.hid hes
  clear hes
  have hcn : cnt es ≤ 1048576 := by have := Uv.cnt_le es; omega
  have hln : es.length ≤ 1048576 := by have := Uv.length_le_bulk es; omega
  have hlen : (enc (kept es)).length ≤ 120000000000000 := Uv.bnd (Uv.uniq_kept es) (by have := Uv.bulk_kept es; omega) (r := []) (by simp)
  have HS := Lib.hid (Uv.enc_safe (kept es))
  have hnz := Uv.enc_nil_iff (Uv.uniq_kept es)
  rw [Uv.cnt_kept] at hnz
  have HZ := Lib.hid hnz
  clear hnz
  go_enter Tryd.func4, Tryd.ntmps4
  go_wp2_with fail
  refine (entries_ok All _ _ ks vss _ hk hv hN0).mono ?_
  rw [HE.out]
  rintro e w1 ⟨a1, k1, rfl, o1, c1⟩
  have hT1 := hT.new c1
  go_wp2_with fail
  refine (implEncode_ok _ _ es _ o1.read hT1 (by omega)).mono ?_
  rintro e w2 ⟨rfl, c2⟩
  have o2 := (o1.new c2).read
  have c12 := c1.trans c2
  clear o1 c1 c2 hT1
  generalize enc (kept es) = t at *
  go_wp2
  go_loop [7] (fun iv => ∃ i : Nat, i ≤ t.length ∧ iv = .int .i64 i) (fun iv => t.length - (intOf iv).toNat)
  case atStart => exact ⟨0, Nat.zero_le _, rfl⟩
  case round =>
    obtain ⟨i, hi, rfl⟩ := hrel
    by_cases hlt : i < t.length
    · have hix := run_textAt t i hlt
      have hm := HS.out t[i] (List.getElem_mem hlt)
      by_cases h43 : t[i].toNat = 43
      · have e1 : ((t[i].toNat : Int) == 43) = true := by simp; omega
        clear h43 hm
        go_wp2
        go_round
        case rel => exact ⟨i + 1, by omega, by go_num⟩
        case measure => simp [intOf]; omega
      · have e1 : ((t[i].toNat : Int) == 43) = false := by simp; omega
        by_cases h37 : t[i].toNat = 37
        · have e2 : ((t[i].toNat : Int) == 37) = true := by simp; omega
          clear h43 hm h37
          go_wp2
          go_round
          case rel => exact ⟨i + 1, by omega, by go_num⟩
          case measure => simp [intOf]; omega
        · have e2 : ((t[i].toNat : Int) == 37) = false := by simp; omega
          by_cases h61 : t[i].toNat = 61
          · have e3 : ((t[i].toNat : Int) == 61) = true := by simp; omega
            clear h43 hm h37 h61
            go_wp2
            go_round
            case rel => exact ⟨i + 1, by omega, by go_num⟩
            case measure => simp [intOf]; omega
          · have e3 : ((t[i].toNat : Int) == 61) = false := by simp; omega
            by_cases h38 : t[i].toNat = 38
            · have e4 : ((t[i].toNat : Int) == 38) = true := by simp; omega
              clear h43 hm h37 h61 h38
              go_wp2
              go_round
              case rel => exact ⟨i + 1, by omega, by go_num⟩
              case measure => simp [intOf]; omega
            · have e4 : ((t[i].toNat : Int) == 38) = false := by simp; omega
              have hsf : safeB t[i] = true := by
                rcases hm with h | h | h | h | h
                · exact h
                · exact absurd h h43
                · exact absurd h h37
                · exact absurd h h61
                · exact absurd h h38
              have H := Lib.hid hsf
              clear h43 hm h37 h61 h38 hsf
              go_wp2_with (go_at_call 12; refine (specSafe_ok t[i] _).mono ?_; rw [H.out]; rintro e w3 ⟨rfl, rfl⟩)
              go_round
              case rel => exact ⟨i + 1, by omega, by go_num⟩
              case measure => simp [intOf]; omega
    · obtain ⟨a, cap, hsh, h1, h2, h3⟩ := o2
      simp only [Value.slice.injEq] at hsh
      obtain ⟨rfl, _, rfl⟩ := hsh
      unfold maxLen at h2
      have H3 := Lib.hid h3
      clear h3
      go_wp2
      go_loopw [8, 37] (fun nv jv wr => ∃ j : Nat, j ≤ es.length ∧ jv = .int .i64 j ∧ nv = .int .i64 (cnt (es.take j) : Int) ∧ Chg None w2 wr) (fun _ jv _ => es.length - (intOf jv).toNat)
      case atStart => exact ⟨0, Nat.zero_le _, rfl, rfl, Chg.refl _ _⟩
      case round =>
        obtain ⟨j, hj, rfl, rfl, hch⟩ := hrel
        have hcj := Uv.cnt_take_le es j
        by_cases hlj : j < es.length
        · obtain ⟨b, off, sv, rfl, _, hc1, hc2, hr⟩ := H3.out j es[j] (by simp [hlj])
          have hc1 := hch.cell hc1 (fun x => x)
          have hc2 := hch.cell hc2 (fun x => x)
          have HN := Lib.hid (Uv.cnt_take_succ es j hlj)
          have hcj2 := Uv.cnt_take_le es (j + 1)
          rw [HN.out] at hcj2
          obtain ⟨a2, cap2, hsv, -⟩ := hr
          subst hsv
          go_wp2
          go_roundw
          case rel => exact ⟨j + 1, by omega, by go_num, by rw [HN.out]; go_num, hch.alloc _⟩
          case measure => simp [intOf]; omega
        · obtain rfl : j = es.length := by omega
          rw [List.take_of_length_le (Nat.le_refl _)]
          have hfin : (decide (t = []) == decide (cnt es = 0)) = true := by simp [HZ.out]
          by_cases ht : t = []
          · have hc0 := HZ.out.1 ht
            have d1 : ((cnt es : Int) == 0) = true := by simp; omega
            subst ht
            clear hc0
            go_wp2
            go_ret
            exact ⟨rfl, c12.trans hch⟩
          · have hc0 : ¬ cnt es = 0 := fun x => ht (HZ.out.2 x)
            have d1 : ((cnt es : Int) == 0) = false := by simp; omega
            obtain ⟨c, r, hcr⟩ := List.exists_cons_of_ne_nil ht
            subst hcr
            clear hc0 ht
            go_wp2
            go_ret
            exact ⟨rfl, c12.trans hch⟩
end Go.Proofs.YtoeilmegjjmnkaaDoor.fnEncodeSafe
