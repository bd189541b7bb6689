/-
  The reference: find, Has.
-/
import Derived.Test.YtcbenidcaaegnaaDoorEnts
namespace Go.Proofs.YtcbenidcaaegnaaDoor
open Go.RowKit
open Uv (Bytes Ent KV lk vals has bulk bulkS fnd findI)

set_option maxHeartbeats 400000 in
theorem find_ok (F : Nat → Prop) (v : Value) (es : KV) (k : Bytes) (w : World) (hv : REnts F w v es) :
    Calls Tryd.prog 34 #[v, encStr k] w (fun e w' => e = .returned (.int .i64 (findI es k)) ∧ w = w') := by
  obtain ⟨a, ca, rfl, ha1, ha2, ha3⟩ := hv
  unfold maxLen at ha2
  have HA := Lib.hid ha3
  clear ha3
  go_enter Tryd.func34, Tryd.ntmps34
  go_wp2
  go_loop [5] (fun i => ∃ n : Nat, n ≤ es.length ∧ i = .int .i64 n ∧ ∀ j e, j < n → es[j]? = some e → e.1 ≠ k) (fun i => es.length - (intOf i).toNat)
  case atStart => exact ⟨0, Nat.zero_le _, rfl, fun j e hj => by omega⟩
  case round =>
    obtain ⟨n, hn, rfl, hno⟩ := hrel
    have HN := Lib.hid hno
    clear hno
    by_cases hlt : n < es.length
    · obtain ⟨b, off, sv, rfl, _, p1, p2, hr⟩ := HA.out n es[n] (by simp [hlt])
      by_cases he : es[n].1 = k
      · have hb : (es[n].1 == k) = true := by simp [he]
        have HE := Lib.hid he
        clear he
        go_wp2
        go_ret
        exact ⟨ret_int (Uv.findI_hit hlt HE.out HN.out).symm, rfl⟩
      · have hb : (es[n].1 == k) = false := by simp [he]
        have HE := Lib.hid he
        clear he
        go_wp2
        go_round
        case rel =>
          refine ⟨n + 1, by omega, by go_num, fun j e hj hje => ?_⟩
          by_cases hjn : j < n
          · exact HN.out j e hjn hje
          · obtain rfl : j = n := by omega
            rw [List.getElem?_eq_getElem hlt] at hje
            injection hje with hje
            subst hje
            exact HE.out
        case measure => simp [intOf]; omega
    · go_wp2
      go_ret
      exact ⟨ret_int (Uv.findI_miss (fun j e hje => HN.out j e (by have := (List.getElem?_eq_some_iff.1 hje).1; omega) hje)).symm, rfl⟩

end Go.Proofs.YtcbenidcaaegnaaDoor
