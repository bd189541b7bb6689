/-
  FnGetFirst: where keys, values and the key are of bulk at most 1048576 the law returns true, and writes nothing that was there.
-/
import Derived.Test.YtancnngphdakgaaOpen
import Derived.Test.YtancnngphdakgaaEntries
import Derived.Test.YtancnngphdakgaaImpl
import Derived.Test.YtancnngphdakgaaSpec
namespace Go.Proofs.Ytancnngphdakgaa.fnGetFirst
open Go.RowKit
open Uv (Bytes Ent KV lk vals has del bulk bulkS kept)

theorem other (k : Bytes) : k ≠ k ++ [120] := by
  intro h
  have := congrArg List.length h
  simp at this

set_option maxHeartbeats 400000 in
theorem walk (kv : Value) (ks : List Bytes) (vv : Value) (vss : List (List Bytes)) (k : Bytes) (w : World) (hk : RStrs All w kv ks) (hv : RTextss All w vv vss)
    (hb : bulkS ks + bulkSS vss + k.length ≤ 1048576) :
    Calls Try.prog 9 #[kv, vv, encStr k] w (Ret (.bool true) w) := by
  have hz := Uv.bulk_zip ks bulkSS (fun _ _ => rfl) vss
  obtain ⟨es, hes⟩ : ∃ es, ks.zip vss = es := ⟨_, rfl⟩
  have hN0 : bulk (ks.zip vss) ≤ 4194304 := by omega
  rw [hes] at hz
  have HE := Lib.hid hes
  clear hes
  have hN : bulk es ≤ 4194304 := by omega
  have hkl : k.length ≤ maxLen := by unfold maxLen; omega
  have hlk := Uv.lk_del_other (kept es) (k ++ [120]) k (other k)
  have H1 : Hid (vals (del (kept es) (k ++ [120])) k = vals (kept es) k) := by show _ = _; unfold vals; rw [hlk]
  have H2 : Hid (has (del (kept es) (k ++ [120])) k = has (kept es) k) := by show _ = _; unfold has; rw [hlk]
  have hadd : (⟨k.toArray⟩ : ByteArray) ++ ⟨#[120]⟩ = ⟨(k ++ [120]).toArray⟩ := str_add k [120]
  have HA := Lib.hid hadd
  clear hadd hlk
  have hbe : (has (kept es) k == has (kept es) k) = true := by simp
  generalize hB : has (kept es) k = B at *
  cases hV : vals (kept es) k with
  | nil =>
    have HV := Lib.hid hV
    have HB := Lib.hid hB
    clear hV hB
    go_enter Try.func9, Try.ntmps9
    go_wp2_with fail
    refine (entries_ok All _ _ ks vss _ hk hv hN0).mono ?_
    rw [HE.out]
    rintro e w1 ⟨a1, k1, rfl, o1, c1⟩
    go_wp2_with fail
    rw [HA.out]
    refine (specDel_ok _ _ es (k ++ [120]) k _ o1.read hN).mono ?_
    rw [H1.out, H2.out, HV.out]
    rintro e w2 ⟨a2, k2, rfl, s2, c2⟩
    have o2 := o1.new c2
    go_wp2_with fail
    refine (implGet_ok _ _ es k _ o2.read (valOk_of_bulk hN) hkl).mono ?_
    rw [HV.out]
    rintro e w3 ⟨rfl, c3⟩
    have o3 := o2.new c3
    go_wp2_with fail
    refine (implHas_ok _ _ es k _ o3.read (valOk_of_bulk hN) hkl).mono ?_
    rw [HB.out]
    rintro e w4 ⟨rfl, c4⟩
    go_wp2
    go_ret
    exact ⟨rfl, ((c1.trans c2).trans c3).trans c4⟩
  | cons x r =>
    have HV := Lib.hid hV
    have HB := Lib.hid hB
    clear hV hB
    have hxx : (x == x) = true := by simp
    go_enter Try.func9, Try.ntmps9
    go_wp2_with fail
    refine (entries_ok All _ _ ks vss _ hk hv hN0).mono ?_
    rw [HE.out]
    rintro e w1 ⟨a1, k1, rfl, o1, c1⟩
    go_wp2_with fail
    rw [HA.out]
    refine (specDel_ok _ _ es (k ++ [120]) k _ o1.read hN).mono ?_
    rw [H1.out, H2.out, HV.out]
    rintro e w2 ⟨a2, k2, rfl, s2, c2⟩
    have o2 := o1.new c2
    obtain ⟨ad', cap', he, _, _, hc⟩ := s2.read
    obtain ⟨c, off, had, _, hcell⟩ := hc 0 x rfl
    simp only [Value.slice.injEq] at he
    obtain ⟨rfl, _, rfl⟩ := he
    subst had
    simp only [Nat.add_zero] at hcell
    have hpos : (0 : Int) < ((x :: r).length : Int) := by simp
    go_wp2_with fail
    refine (implGet_ok _ _ es k _ o2.read (valOk_of_bulk hN) hkl).mono ?_
    rw [HV.out]
    rintro e w3 ⟨rfl, c3⟩
    have o3 := o2.new c3
    go_wp2_with fail
    refine (implHas_ok _ _ es k _ o3.read (valOk_of_bulk hN) hkl).mono ?_
    rw [HB.out]
    rintro e w4 ⟨rfl, c4⟩
    go_wp2
    go_ret
    exact ⟨rfl, ((c1.trans c2).trans c3).trans c4⟩
end Go.Proofs.Ytancnngphdakgaa.fnGetFirst
