/-
  The shelf's contracts at this program, laid by the kit's own tool in plain words.
-/
import Derived.Shelf.Strings.Builder1
import Derived.Shelf.Small.Bits
import Derived.Shelf.Strings.BuilderF
import Derived.Shelf.Strings.BuilderK
import Derived.Shelf.Strconv.Itoa0
import Derived.Shelf.Sort.Plain
import Derived.Shelf.Slices.In.SortNone
import Derived.Test.YtoeilmegjjmnkaaDoorProg
namespace Go.Proofs
open Go.Shelf
def Tryd.lays170_ren : Go.Shelf.Ren := ⟨fun | 170 => 30 | n => n, fun | 70 => 53 | 3 => 3 | 0 => 0 | 72 => 56 | 37 => 54 | 5 => 5 | n => n, fun | n => n⟩
theorem Tryd.lays170 : Go.Proofs.Lays.n170 Tryd.prog Tryd.lays170_ren := {
  mixed := by kernel_rfl
  f170 := Tryd.func30.trans (congrArg some (by kernel_rfl))
  t0 := Tryd.underlying0
  a0 := Tryd.isAgg0
  z0 := Tryd.sizeOf0
  v0 := Tryd.zeroValue0
  t3 := Tryd.underlying3
  a3 := Tryd.isAgg3
  z3 := Tryd.sizeOf3
  v3 := Tryd.zeroValue3
  t37 := Tryd.underlying54
  a37 := Tryd.isAgg54
  z37 := Tryd.sizeOf54
  v37 := Tryd.zeroValue54
  t70 := Tryd.underlying53
  a70 := Tryd.isAgg53
  z70 := Tryd.sizeOf53
  v70 := Tryd.zeroValue53
  t72 := Tryd.underlying56
  a72 := Tryd.isAgg56
  z72 := Tryd.sizeOf56
  v72 := Tryd.zeroValue56 }
open Go.RowKit in
theorem Tryd.Builder_Len (B b : Nat) (bs : List Value) (w : World) (h : Lib.IsBuilder 56 5 B b bs w) :
    Calls Tryd.prog 30 #[.pointer (some ⟨b, 0, none⟩)] w fun e w' => e = .returned (.int .i64 bs.length) ∧ w' = w := Any.Builder_Len Tryd.lays170 B b bs w h
def Tryd.lays169_ren : Go.Shelf.Ren := ⟨fun | 169 => 33 | n => n, fun | 70 => 53 | 9 => 9 | 0 => 0 | 72 => 56 | 37 => 54 | 127 => 72 | 3 => 3 | 5 => 5 | n => n, fun | n => n⟩
theorem Tryd.lays169 : Go.Proofs.Lays.n169 Tryd.prog Tryd.lays169_ren := {
  mixed := by kernel_rfl
  f169 := Tryd.func33.trans (congrArg some (by kernel_rfl))
  t0 := Tryd.underlying0
  a0 := Tryd.isAgg0
  z0 := Tryd.sizeOf0
  v0 := Tryd.zeroValue0
  t3 := Tryd.underlying3
  a3 := Tryd.isAgg3
  z3 := Tryd.sizeOf3
  v3 := Tryd.zeroValue3
  t9 := Tryd.underlying9
  a9 := Tryd.isAgg9
  z9 := Tryd.sizeOf9
  v9 := Tryd.zeroValue9
  t37 := Tryd.underlying54
  a37 := Tryd.isAgg54
  z37 := Tryd.sizeOf54
  v37 := Tryd.zeroValue54
  t70 := Tryd.underlying53
  a70 := Tryd.isAgg53
  z70 := Tryd.sizeOf53
  v70 := Tryd.zeroValue53
  t72 := Tryd.underlying56
  a72 := Tryd.isAgg56
  z72 := Tryd.sizeOf56
  v72 := Tryd.zeroValue56
  t127 := Tryd.underlying72
  a127 := Tryd.isAgg72
  z127 := Tryd.sizeOf72
  v127 := Tryd.zeroValue72 }
theorem Tryd.Builder_Extra_169 : Builder.Extra Tryd.prog Tryd.lays169_ren := {
  sizeBuilder := by kernel_rfl
  liesBuilder := by kernel_rfl
  t5 := Tryd.underlying5
  a5 := Tryd.isAgg5
  z5 := Tryd.sizeOf5
  v5 := Tryd.zeroValue5
  infoByte := by kernel_rfl
  cellsByte := by kernel_rfl
  sizeByte := by kernel_rfl
  neB5 := by decide }
open Go.RowKit in
theorem Tryd.Builder_String (B b : Nat) (l : List UInt8) (w : World) (h : Lib.IsBuilder 56 5 B b (Lib.byteCells l) w) (h0 : l ≠ []) :
    Calls Tryd.prog 33 #[.pointer (some ⟨b, 0, none⟩)] w fun e w' => e = .returned (.string ⟨l.toArray⟩) ∧ Below B w w' := Any.Builder_String Tryd.lays169 Tryd.Builder_Extra_169 B b l w h h0
open Go.RowKit in
theorem Tryd.Builder_String_empty (B b : Nat) (w : World) (h : Lib.IsBuilder 56 5 B b [] w) (hBw : B ≤ w.heap.size) :
    Calls Tryd.prog 33 #[.pointer (some ⟨b, 0, none⟩)] w fun e w' => e = .returned (.string ⟨#[]⟩) ∧ Below B w w' := Any.Builder_String_empty Tryd.lays169 Tryd.Builder_Extra_169 B b w h hBw
open Go.RowKit in
theorem Tryd.Builder_String_any (B b : Nat) (l : List UInt8) (w : World) (h : Lib.IsBuilder 56 5 B b (Lib.byteCells l) w) (hBw : B ≤ w.heap.size) :
    Calls Tryd.prog 33 #[.pointer (some ⟨b, 0, none⟩)] w fun e w' => e = .returned (.string ⟨l.toArray⟩) ∧ Below B w w' := Any.Builder_String_any Tryd.lays169 Tryd.Builder_Extra_169 B b l w h hBw
def Tryd.lays128_ren : Go.Shelf.Ren := ⟨fun | 128 => 54 | n => n, fun | 51 => 86 | 3 => 3 | 4 => 4 | 46 => 71 | 5 => 5 | 9 => 9 | n => n, fun | n => n⟩
theorem Tryd.lays128 : Go.Proofs.Lays.n128 Tryd.prog Tryd.lays128_ren := {
  mixed := by kernel_rfl
  f128 := Tryd.func54.trans (congrArg some (by kernel_rfl))
  t3 := Tryd.underlying3
  a3 := Tryd.isAgg3
  z3 := Tryd.sizeOf3
  v3 := Tryd.zeroValue3
  t4 := Tryd.underlying4
  a4 := Tryd.isAgg4
  z4 := Tryd.sizeOf4
  v4 := Tryd.zeroValue4
  t5 := Tryd.underlying5
  a5 := Tryd.isAgg5
  z5 := Tryd.sizeOf5
  v5 := Tryd.zeroValue5
  t9 := Tryd.underlying9
  a9 := Tryd.isAgg9
  z9 := Tryd.sizeOf9
  v9 := Tryd.zeroValue9
  t46 := Tryd.underlying71
  a46 := Tryd.isAgg71
  z46 := Tryd.sizeOf71
  v46 := Tryd.zeroValue71
  t51 := Tryd.underlying86
  a51 := Tryd.isAgg86
  z51 := Tryd.sizeOf86
  v51 := Tryd.zeroValue86 }
theorem Tryd.bits_Len32 (x : Int) (w : World) (h0 : 0 ≤ x) (h1 : x ≤ 4294967295) :
    Calls Tryd.prog 54 #[.int .u32 x] w fun e w' => e = .returned (.int .i64 (Lib.bitLen x.toNat)) ∧ w' = w := Any.bits_Len32 Tryd.lays128 x w h0 h1
def Tryd.lays125_ren : Go.Shelf.Ren := ⟨fun | 125 => 41 | 128 => 54 | 129 => 55 | n => n, fun | 46 => 71 | 3 => 3 | 51 => 86 | 53 => 88 | 4 => 4 | 5 => 5 | 9 => 9 | n => n, fun | n => n⟩
theorem Tryd.lays125 : Go.Proofs.Lays.n125 Tryd.prog Tryd.lays125_ren := {
  mixed := by kernel_rfl
  f125 := Tryd.func41.trans (congrArg some (by kernel_rfl))
  f128 := Tryd.func54.trans (congrArg some (by kernel_rfl))
  f129 := Tryd.func55.trans (congrArg some (by kernel_rfl))
  t3 := Tryd.underlying3
  a3 := Tryd.isAgg3
  z3 := Tryd.sizeOf3
  v3 := Tryd.zeroValue3
  t4 := Tryd.underlying4
  a4 := Tryd.isAgg4
  z4 := Tryd.sizeOf4
  v4 := Tryd.zeroValue4
  t5 := Tryd.underlying5
  a5 := Tryd.isAgg5
  z5 := Tryd.sizeOf5
  v5 := Tryd.zeroValue5
  t9 := Tryd.underlying9
  a9 := Tryd.isAgg9
  z9 := Tryd.sizeOf9
  v9 := Tryd.zeroValue9
  t46 := Tryd.underlying71
  a46 := Tryd.isAgg71
  z46 := Tryd.sizeOf71
  v46 := Tryd.zeroValue71
  t51 := Tryd.underlying86
  a51 := Tryd.isAgg86
  z51 := Tryd.sizeOf86
  v51 := Tryd.zeroValue86
  t53 := Tryd.underlying88
  a53 := Tryd.isAgg88
  z53 := Tryd.sizeOf88
  v53 := Tryd.zeroValue88 }
theorem Tryd.bits_Len (x : Int) (w : World) (h0 : 0 ≤ x) (h1 : x ≤ 18446744073709551615) :
    Calls Tryd.prog 41 #[.int .u64 x] w fun e w' => e = .returned (.int .i64 (Lib.bitLen x.toNat)) ∧ w' = w := Any.bits_Len Tryd.lays125 x w h0 h1
open Go.RowKit in
theorem Tryd.Builder_Len_f (B b : Nat) (bs : List Value) (w : World) (h : Lib.IsBuilderF 56 5 B b bs w) :
    Calls Tryd.prog 30 #[.pointer (some ⟨b, 0, none⟩)] w fun e w' => e = .returned (.int .i64 bs.length) ∧ w' = w := Any.Builder_Len_f Tryd.lays170 B b bs w h
open Go.RowKit in
theorem Tryd.Builder_String_f (B b : Nat) (l : List UInt8) (w : World) (h : Lib.IsBuilderF 56 5 B b (Lib.byteCells l) w) (h0 : l ≠ []) :
    Calls Tryd.prog 33 #[.pointer (some ⟨b, 0, none⟩)] w fun e w' => e = .returned (.string ⟨l.toArray⟩) ∧ (Lib.IsBuilderF 56 5 B b (Lib.byteCells l) w' ∧ Below B w w') := Any.Builder_String_f Tryd.lays169 Tryd.Builder_Extra_169 B b l w h h0
open Go.RowKit in
theorem Tryd.Builder_String_empty_f (B b : Nat) (w : World) (h : Lib.IsBuilderF 56 5 B b [] w) (hBw : B ≤ w.heap.size) :
    Calls Tryd.prog 33 #[.pointer (some ⟨b, 0, none⟩)] w fun e w' => e = .returned (.string ⟨#[]⟩) ∧ (Lib.IsBuilderF 56 5 B b [] w' ∧ Below B w w') := Any.Builder_String_empty_f Tryd.lays169 Tryd.Builder_Extra_169 B b w h hBw
open Go.RowKit in
theorem Tryd.Builder_String_any_f (B b : Nat) (l : List UInt8) (w : World) (h : Lib.IsBuilderF 56 5 B b (Lib.byteCells l) w) (hBw : B ≤ w.heap.size) :
    Calls Tryd.prog 33 #[.pointer (some ⟨b, 0, none⟩)] w fun e w' => e = .returned (.string ⟨l.toArray⟩) ∧ (Lib.IsBuilderF 56 5 B b (Lib.byteCells l) w' ∧ Below B w w') := Any.Builder_String_any_f Tryd.lays169 Tryd.Builder_Extra_169 B b l w h hBw
open Go.RowKit in
theorem Tryd.Builder_String_k (B b : Nat) (l : List UInt8) (w : World) (h : Lib.IsBuilderF 56 5 B b (Lib.byteCells l) w) (h0 : l ≠ []) :
    Calls Tryd.prog 33 #[.pointer (some ⟨b, 0, none⟩)] w fun e w' => e = .returned (.string ⟨l.toArray⟩) ∧ (Lib.IsBuilderF 56 5 B b (Lib.byteCells l) w' ∧ Below B w w' ∧ Lib.OthersKept 5 (some b) w w') := Any.Builder_String_k Tryd.lays169 Tryd.Builder_Extra_169 B b l w h h0
open Go.RowKit in
theorem Tryd.Builder_String_empty_k (B b : Nat) (w : World) (h : Lib.IsBuilderF 56 5 B b [] w) (hBw : B ≤ w.heap.size) :
    Calls Tryd.prog 33 #[.pointer (some ⟨b, 0, none⟩)] w fun e w' => e = .returned (.string ⟨#[]⟩) ∧ (Lib.IsBuilderF 56 5 B b [] w' ∧ Below B w w' ∧ Lib.OthersKept 5 (some b) w w') := Any.Builder_String_empty_k Tryd.lays169 Tryd.Builder_Extra_169 B b w h hBw
open Go.RowKit in
theorem Tryd.Builder_String_any_k (B b : Nat) (l : List UInt8) (w : World) (h : Lib.IsBuilderF 56 5 B b (Lib.byteCells l) w) (hBw : B ≤ w.heap.size) :
    Calls Tryd.prog 33 #[.pointer (some ⟨b, 0, none⟩)] w fun e w' => e = .returned (.string ⟨l.toArray⟩) ∧ (Lib.IsBuilderF 56 5 B b (Lib.byteCells l) w' ∧ Below B w w' ∧ Lib.OthersKept 5 (some b) w w') := Any.Builder_String_any_k Tryd.lays169 Tryd.Builder_Extra_169 B b l w h hBw
def Tryd.lays129_ren : Go.Shelf.Ren := ⟨fun | 129 => 55 | n => n, fun | 53 => 88 | 3 => 3 | 4 => 4 | 46 => 71 | 5 => 5 | 9 => 9 | n => n, fun | n => n⟩
theorem Tryd.lays129 : Go.Proofs.Lays.n129 Tryd.prog Tryd.lays129_ren := {
  mixed := by kernel_rfl
  f129 := Tryd.func55.trans (congrArg some (by kernel_rfl))
  t3 := Tryd.underlying3
  a3 := Tryd.isAgg3
  z3 := Tryd.sizeOf3
  v3 := Tryd.zeroValue3
  t4 := Tryd.underlying4
  a4 := Tryd.isAgg4
  z4 := Tryd.sizeOf4
  v4 := Tryd.zeroValue4
  t5 := Tryd.underlying5
  a5 := Tryd.isAgg5
  z5 := Tryd.sizeOf5
  v5 := Tryd.zeroValue5
  t9 := Tryd.underlying9
  a9 := Tryd.isAgg9
  z9 := Tryd.sizeOf9
  v9 := Tryd.zeroValue9
  t46 := Tryd.underlying71
  a46 := Tryd.isAgg71
  z46 := Tryd.sizeOf71
  v46 := Tryd.zeroValue71
  t53 := Tryd.underlying88
  a53 := Tryd.isAgg88
  z53 := Tryd.sizeOf88
  v53 := Tryd.zeroValue88 }
theorem Tryd.bits_Len64 (x : Int) (w : World) (h0 : 0 ≤ x) (h1 : x ≤ 18446744073709551615) :
    Calls Tryd.prog 55 #[.int .u64 x] w fun e w' => e = .returned (.int .i64 (Lib.bitLen x.toNat)) ∧ w' = w := Any.bits_Len64 Tryd.lays129 x w h0 h1
def Tryd.lays190_ren : Go.Shelf.Ren := ⟨fun | 190 => 29 | 125 => 41 | 258 => 40 | 128 => 54 | 129 => 55 | 302 => 45 | 303 => 46 | 304 => 47 | 305 => 48 | 306 => 49 | 307 => 50 | 308 => 51 | 309 => 52 | 310 => 53 | 333 => 57 | 329 => 58 | 330 => 59 | 334 => 60 | 335 => 61 | 336 => 62 | 344 => 63 | n => n, fun | 31 => 22 | 9 => 9 | 3 => 3 | 46 => 71 | 0 => 0 | 51 => 86 | 53 => 88 | 4 => 4 | 183 => 78 | 182 => 77 | 131 => 83 | 5 => 5 | 218 => 92 | 222 => 96 | 228 => 98 | 229 => 99 | n => n, fun | n => n⟩
theorem Tryd.lays190 : Go.Proofs.Lays.n190 Tryd.prog Tryd.lays190_ren := {
  mixed := by kernel_rfl
  f125 := Tryd.func41.trans (congrArg some (by kernel_rfl))
  f128 := Tryd.func54.trans (congrArg some (by kernel_rfl))
  f129 := Tryd.func55.trans (congrArg some (by kernel_rfl))
  f190 := Tryd.func29.trans (congrArg some (by kernel_rfl))
  f258 := Tryd.func40.trans (congrArg some (by kernel_rfl))
  f302 := Tryd.func45.trans (congrArg some (by kernel_rfl))
  f303 := Tryd.func46.trans (congrArg some (by kernel_rfl))
  f304 := Tryd.func47.trans (congrArg some (by kernel_rfl))
  f305 := Tryd.func48.trans (congrArg some (by kernel_rfl))
  f306 := Tryd.func49.trans (congrArg some (by kernel_rfl))
  f307 := Tryd.func50.trans (congrArg some (by kernel_rfl))
  f308 := Tryd.func51.trans (congrArg some (by kernel_rfl))
  f309 := Tryd.func52.trans (congrArg some (by kernel_rfl))
  f310 := Tryd.func53.trans (congrArg some (by kernel_rfl))
  f329 := Tryd.func58.trans (congrArg some (by kernel_rfl))
  f330 := Tryd.func59.trans (congrArg some (by kernel_rfl))
  f333 := Tryd.func57.trans (congrArg some (by kernel_rfl))
  f334 := Tryd.func60.trans (congrArg some (by kernel_rfl))
  f335 := Tryd.func61.trans (congrArg some (by kernel_rfl))
  f336 := Tryd.func62.trans (congrArg some (by kernel_rfl))
  f344 := Tryd.func63.trans (congrArg some (by kernel_rfl))
  t0 := Tryd.underlying0
  a0 := Tryd.isAgg0
  z0 := Tryd.sizeOf0
  v0 := Tryd.zeroValue0
  t3 := Tryd.underlying3
  a3 := Tryd.isAgg3
  z3 := Tryd.sizeOf3
  v3 := Tryd.zeroValue3
  t4 := Tryd.underlying4
  a4 := Tryd.isAgg4
  z4 := Tryd.sizeOf4
  v4 := Tryd.zeroValue4
  t5 := Tryd.underlying5
  a5 := Tryd.isAgg5
  z5 := Tryd.sizeOf5
  v5 := Tryd.zeroValue5
  t9 := Tryd.underlying9
  a9 := Tryd.isAgg9
  z9 := Tryd.sizeOf9
  v9 := Tryd.zeroValue9
  t31 := Tryd.underlying22
  a31 := Tryd.isAgg22
  z31 := Tryd.sizeOf22
  v31 := Tryd.zeroValue22
  t46 := Tryd.underlying71
  a46 := Tryd.isAgg71
  z46 := Tryd.sizeOf71
  v46 := Tryd.zeroValue71
  t51 := Tryd.underlying86
  a51 := Tryd.isAgg86
  z51 := Tryd.sizeOf86
  v51 := Tryd.zeroValue86
  t53 := Tryd.underlying88
  a53 := Tryd.isAgg88
  z53 := Tryd.sizeOf88
  v53 := Tryd.zeroValue88
  t131 := Tryd.underlying83
  a131 := Tryd.isAgg83
  z131 := Tryd.sizeOf83
  v131 := Tryd.zeroValue83
  t182 := Tryd.underlying77
  a182 := Tryd.isAgg77
  z182 := Tryd.sizeOf77
  v182 := Tryd.zeroValue77
  t183 := Tryd.underlying78
  a183 := Tryd.isAgg78
  z183 := Tryd.sizeOf78
  v183 := Tryd.zeroValue78
  t218 := Tryd.underlying92
  a218 := Tryd.isAgg92
  z218 := Tryd.sizeOf92
  v218 := Tryd.zeroValue92
  t222 := Tryd.underlying96
  a222 := Tryd.isAgg96
  z222 := Tryd.sizeOf96
  v222 := Tryd.zeroValue96
  t228 := Tryd.underlying98
  a228 := Tryd.isAgg98
  z228 := Tryd.sizeOf98
  v228 := Tryd.zeroValue98
  t229 := Tryd.underlying99
  a229 := Tryd.isAgg99
  z229 := Tryd.sizeOf99
  v229 := Tryd.zeroValue99 }
open Go.Sort Go.RowKit in
theorem Tryd.slices_Sort_string (blk off cap : Nat) (ss : List (List UInt8)) (w : World) (hH : Holds encStr w blk off ss.toArray) (hblk : blk < w.heap.size) (hsz : ss.length < 4611686018427387904) :
    Calls Tryd.prog 29 #[.slice (some ⟨blk, off, none⟩) ss.length cap] w fun e w' =>
      e = .returned (.tuple #[]) ∧ ∃ n os, w' = grow (putRow encStr (Sort.ahead w n) blk off (ss.mergeSort fun x y => decide (x ≤ y)).toArray) os := Any.slices_Sort_string Tryd.lays190 blk off cap ss w hH hblk hsz
open Go.RowKit Go.Sort in
theorem Tryd.slices_Sort_string_none (p : Option Addr) (cap : Nat) (w : World) :
    Calls Tryd.prog 29 #[.slice p 0 cap] w fun e w' => e = .returned (.tuple #[]) ∧ w' = w := Any.slices_Sort_string_none Tryd.lays190 p cap w
end Go.Proofs
