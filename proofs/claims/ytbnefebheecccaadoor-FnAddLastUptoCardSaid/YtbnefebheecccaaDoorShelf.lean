/-
  The shelf's contracts at this program, laid by the kit's own tool in plain words.
-/
import Derived.Shelf.Strings.Builder1
import Derived.Shelf.Strings.BuilderF
import Derived.Shelf.Strings.BuilderK
import Derived.Shelf.Sort.Plain
import Derived.Shelf.Slices.In.SortNone
import Derived.Test.YtbnefebheecccaaDoorProg
namespace Go.Proofs
open Go.Shelf
def Tryd.lays170_ren : Go.Shelf.Ren := ⟨fun | 170 => 40 | n => n, fun | 70 => 61 | 3 => 3 | 0 => 0 | 72 => 63 | 37 => 45 | 5 => 5 | n => n, fun | n => n⟩
theorem Tryd.lays170 : Go.Proofs.Lays.n170 Tryd.prog Tryd.lays170_ren := {
  mixed := by kernel_rfl
  f170 := Tryd.func40.trans (congrArg some (by kernel_rfl))
  t0 := Tryd.underlying0
  a0 := Tryd.isAgg0
  z0 := Tryd.sizeOf0
  v0 := Tryd.zeroValue0
  t3 := Tryd.underlying3
  a3 := Tryd.isAgg3
  z3 := Tryd.sizeOf3
  v3 := Tryd.zeroValue3
  t37 := Tryd.underlying45
  a37 := Tryd.isAgg45
  z37 := Tryd.sizeOf45
  v37 := Tryd.zeroValue45
  t70 := Tryd.underlying61
  a70 := Tryd.isAgg61
  z70 := Tryd.sizeOf61
  v70 := Tryd.zeroValue61
  t72 := Tryd.underlying63
  a72 := Tryd.isAgg63
  z72 := Tryd.sizeOf63
  v72 := Tryd.zeroValue63 }
open Go.RowKit in
theorem Tryd.Builder_Len (B b : Nat) (bs : List Value) (w : World) (h : Lib.IsBuilder 63 5 B b bs w) :
    Calls Tryd.prog 40 #[.pointer (some ⟨b, 0, none⟩)] w fun e w' => e = .returned (.int .i64 bs.length) ∧ w' = w := Any.Builder_Len Tryd.lays170 B b bs w h
def Tryd.lays169_ren : Go.Shelf.Ren := ⟨fun | 169 => 43 | n => n, fun | 70 => 61 | 9 => 9 | 0 => 0 | 72 => 63 | 37 => 45 | 127 => 76 | 3 => 3 | 5 => 5 | n => n, fun | n => n⟩
theorem Tryd.lays169 : Go.Proofs.Lays.n169 Tryd.prog Tryd.lays169_ren := {
  mixed := by kernel_rfl
  f169 := Tryd.func43.trans (congrArg some (by kernel_rfl))
  t0 := Tryd.underlying0
  a0 := Tryd.isAgg0
  z0 := Tryd.sizeOf0
  v0 := Tryd.zeroValue0
  t3 := Tryd.underlying3
  a3 := Tryd.isAgg3
  z3 := Tryd.sizeOf3
  v3 := Tryd.zeroValue3
  t9 := Tryd.underlying9
  a9 := Tryd.isAgg9
  z9 := Tryd.sizeOf9
  v9 := Tryd.zeroValue9
  t37 := Tryd.underlying45
  a37 := Tryd.isAgg45
  z37 := Tryd.sizeOf45
  v37 := Tryd.zeroValue45
  t70 := Tryd.underlying61
  a70 := Tryd.isAgg61
  z70 := Tryd.sizeOf61
  v70 := Tryd.zeroValue61
  t72 := Tryd.underlying63
  a72 := Tryd.isAgg63
  z72 := Tryd.sizeOf63
  v72 := Tryd.zeroValue63
  t127 := Tryd.underlying76
  a127 := Tryd.isAgg76
  z127 := Tryd.sizeOf76
  v127 := Tryd.zeroValue76 }
theorem Tryd.Builder_Extra_169 : Builder.Extra Tryd.prog Tryd.lays169_ren := {
  sizeBuilder := by kernel_rfl
  liesBuilder := by kernel_rfl
  t5 := Tryd.underlying5
  a5 := Tryd.isAgg5
  z5 := Tryd.sizeOf5
  v5 := Tryd.zeroValue5
  infoByte := by kernel_rfl
  cellsByte := by kernel_rfl
  sizeByte := by kernel_rfl
  neB5 := by decide }
open Go.RowKit in
theorem Tryd.Builder_String (B b : Nat) (l : List UInt8) (w : World) (h : Lib.IsBuilder 63 5 B b (Lib.byteCells l) w) (h0 : l ≠ []) :
    Calls Tryd.prog 43 #[.pointer (some ⟨b, 0, none⟩)] w fun e w' => e = .returned (.string ⟨l.toArray⟩) ∧ Below B w w' := Any.Builder_String Tryd.lays169 Tryd.Builder_Extra_169 B b l w h h0
open Go.RowKit in
theorem Tryd.Builder_String_empty (B b : Nat) (w : World) (h : Lib.IsBuilder 63 5 B b [] w) (hBw : B ≤ w.heap.size) :
    Calls Tryd.prog 43 #[.pointer (some ⟨b, 0, none⟩)] w fun e w' => e = .returned (.string ⟨#[]⟩) ∧ Below B w w' := Any.Builder_String_empty Tryd.lays169 Tryd.Builder_Extra_169 B b w h hBw
open Go.RowKit in
theorem Tryd.Builder_String_any (B b : Nat) (l : List UInt8) (w : World) (h : Lib.IsBuilder 63 5 B b (Lib.byteCells l) w) (hBw : B ≤ w.heap.size) :
    Calls Tryd.prog 43 #[.pointer (some ⟨b, 0, none⟩)] w fun e w' => e = .returned (.string ⟨l.toArray⟩) ∧ Below B w w' := Any.Builder_String_any Tryd.lays169 Tryd.Builder_Extra_169 B b l w h hBw
open Go.RowKit in
theorem Tryd.Builder_Len_f (B b : Nat) (bs : List Value) (w : World) (h : Lib.IsBuilderF 63 5 B b bs w) :
    Calls Tryd.prog 40 #[.pointer (some ⟨b, 0, none⟩)] w fun e w' => e = .returned (.int .i64 bs.length) ∧ w' = w := Any.Builder_Len_f Tryd.lays170 B b bs w h
open Go.RowKit in
theorem Tryd.Builder_String_f (B b : Nat) (l : List UInt8) (w : World) (h : Lib.IsBuilderF 63 5 B b (Lib.byteCells l) w) (h0 : l ≠ []) :
    Calls Tryd.prog 43 #[.pointer (some ⟨b, 0, none⟩)] w fun e w' => e = .returned (.string ⟨l.toArray⟩) ∧ (Lib.IsBuilderF 63 5 B b (Lib.byteCells l) w' ∧ Below B w w') := Any.Builder_String_f Tryd.lays169 Tryd.Builder_Extra_169 B b l w h h0
open Go.RowKit in
theorem Tryd.Builder_String_empty_f (B b : Nat) (w : World) (h : Lib.IsBuilderF 63 5 B b [] w) (hBw : B ≤ w.heap.size) :
    Calls Tryd.prog 43 #[.pointer (some ⟨b, 0, none⟩)] w fun e w' => e = .returned (.string ⟨#[]⟩) ∧ (Lib.IsBuilderF 63 5 B b [] w' ∧ Below B w w') := Any.Builder_String_empty_f Tryd.lays169 Tryd.Builder_Extra_169 B b w h hBw
open Go.RowKit in
theorem Tryd.Builder_String_any_f (B b : Nat) (l : List UInt8) (w : World) (h : Lib.IsBuilderF 63 5 B b (Lib.byteCells l) w) (hBw : B ≤ w.heap.size) :
    Calls Tryd.prog 43 #[.pointer (some ⟨b, 0, none⟩)] w fun e w' => e = .returned (.string ⟨l.toArray⟩) ∧ (Lib.IsBuilderF 63 5 B b (Lib.byteCells l) w' ∧ Below B w w') := Any.Builder_String_any_f Tryd.lays169 Tryd.Builder_Extra_169 B b l w h hBw
open Go.RowKit in
theorem Tryd.Builder_String_k (B b : Nat) (l : List UInt8) (w : World) (h : Lib.IsBuilderF 63 5 B b (Lib.byteCells l) w) (h0 : l ≠ []) :
    Calls Tryd.prog 43 #[.pointer (some ⟨b, 0, none⟩)] w fun e w' => e = .returned (.string ⟨l.toArray⟩) ∧ (Lib.IsBuilderF 63 5 B b (Lib.byteCells l) w' ∧ Below B w w' ∧ Lib.OthersKept 5 (some b) w w') := Any.Builder_String_k Tryd.lays169 Tryd.Builder_Extra_169 B b l w h h0
open Go.RowKit in
theorem Tryd.Builder_String_empty_k (B b : Nat) (w : World) (h : Lib.IsBuilderF 63 5 B b [] w) (hBw : B ≤ w.heap.size) :
    Calls Tryd.prog 43 #[.pointer (some ⟨b, 0, none⟩)] w fun e w' => e = .returned (.string ⟨#[]⟩) ∧ (Lib.IsBuilderF 63 5 B b [] w' ∧ Below B w w' ∧ Lib.OthersKept 5 (some b) w w') := Any.Builder_String_empty_k Tryd.lays169 Tryd.Builder_Extra_169 B b w h hBw
open Go.RowKit in
theorem Tryd.Builder_String_any_k (B b : Nat) (l : List UInt8) (w : World) (h : Lib.IsBuilderF 63 5 B b (Lib.byteCells l) w) (hBw : B ≤ w.heap.size) :
    Calls Tryd.prog 43 #[.pointer (some ⟨b, 0, none⟩)] w fun e w' => e = .returned (.string ⟨l.toArray⟩) ∧ (Lib.IsBuilderF 63 5 B b (Lib.byteCells l) w' ∧ Below B w w' ∧ Lib.OthersKept 5 (some b) w w') := Any.Builder_String_any_k Tryd.lays169 Tryd.Builder_Extra_169 B b l w h hBw
def Tryd.lays190_ren : Go.Shelf.Ren := ⟨fun | 190 => 39 | 125 => 46 | 258 => 45 | 128 => 58 | 129 => 59 | 302 => 49 | 303 => 50 | 304 => 51 | 305 => 52 | 306 => 53 | 307 => 54 | 308 => 55 | 309 => 56 | 310 => 57 | 333 => 61 | 329 => 62 | 330 => 63 | 334 => 64 | 335 => 65 | 336 => 66 | 344 => 67 | n => n, fun | 31 => 22 | 9 => 9 | 3 => 3 | 46 => 75 | 0 => 0 | 51 => 89 | 53 => 91 | 4 => 4 | 183 => 81 | 182 => 80 | 131 => 86 | 5 => 5 | 218 => 95 | 222 => 99 | 228 => 101 | 229 => 102 | n => n, fun | n => n⟩
theorem Tryd.lays190 : Go.Proofs.Lays.n190 Tryd.prog Tryd.lays190_ren := {
  mixed := by kernel_rfl
  f125 := Tryd.func46.trans (congrArg some (by kernel_rfl))
  f128 := Tryd.func58.trans (congrArg some (by kernel_rfl))
  f129 := Tryd.func59.trans (congrArg some (by kernel_rfl))
  f190 := Tryd.func39.trans (congrArg some (by kernel_rfl))
  f258 := Tryd.func45.trans (congrArg some (by kernel_rfl))
  f302 := Tryd.func49.trans (congrArg some (by kernel_rfl))
  f303 := Tryd.func50.trans (congrArg some (by kernel_rfl))
  f304 := Tryd.func51.trans (congrArg some (by kernel_rfl))
  f305 := Tryd.func52.trans (congrArg some (by kernel_rfl))
  f306 := Tryd.func53.trans (congrArg some (by kernel_rfl))
  f307 := Tryd.func54.trans (congrArg some (by kernel_rfl))
  f308 := Tryd.func55.trans (congrArg some (by kernel_rfl))
  f309 := Tryd.func56.trans (congrArg some (by kernel_rfl))
  f310 := Tryd.func57.trans (congrArg some (by kernel_rfl))
  f329 := Tryd.func62.trans (congrArg some (by kernel_rfl))
  f330 := Tryd.func63.trans (congrArg some (by kernel_rfl))
  f333 := Tryd.func61.trans (congrArg some (by kernel_rfl))
  f334 := Tryd.func64.trans (congrArg some (by kernel_rfl))
  f335 := Tryd.func65.trans (congrArg some (by kernel_rfl))
  f336 := Tryd.func66.trans (congrArg some (by kernel_rfl))
  f344 := Tryd.func67.trans (congrArg some (by kernel_rfl))
  t0 := Tryd.underlying0
  a0 := Tryd.isAgg0
  z0 := Tryd.sizeOf0
  v0 := Tryd.zeroValue0
  t3 := Tryd.underlying3
  a3 := Tryd.isAgg3
  z3 := Tryd.sizeOf3
  v3 := Tryd.zeroValue3
  t4 := Tryd.underlying4
  a4 := Tryd.isAgg4
  z4 := Tryd.sizeOf4
  v4 := Tryd.zeroValue4
  t5 := Tryd.underlying5
  a5 := Tryd.isAgg5
  z5 := Tryd.sizeOf5
  v5 := Tryd.zeroValue5
  t9 := Tryd.underlying9
  a9 := Tryd.isAgg9
  z9 := Tryd.sizeOf9
  v9 := Tryd.zeroValue9
  t31 := Tryd.underlying22
  a31 := Tryd.isAgg22
  z31 := Tryd.sizeOf22
  v31 := Tryd.zeroValue22
  t46 := Tryd.underlying75
  a46 := Tryd.isAgg75
  z46 := Tryd.sizeOf75
  v46 := Tryd.zeroValue75
  t51 := Tryd.underlying89
  a51 := Tryd.isAgg89
  z51 := Tryd.sizeOf89
  v51 := Tryd.zeroValue89
  t53 := Tryd.underlying91
  a53 := Tryd.isAgg91
  z53 := Tryd.sizeOf91
  v53 := Tryd.zeroValue91
  t131 := Tryd.underlying86
  a131 := Tryd.isAgg86
  z131 := Tryd.sizeOf86
  v131 := Tryd.zeroValue86
  t182 := Tryd.underlying80
  a182 := Tryd.isAgg80
  z182 := Tryd.sizeOf80
  v182 := Tryd.zeroValue80
  t183 := Tryd.underlying81
  a183 := Tryd.isAgg81
  z183 := Tryd.sizeOf81
  v183 := Tryd.zeroValue81
  t218 := Tryd.underlying95
  a218 := Tryd.isAgg95
  z218 := Tryd.sizeOf95
  v218 := Tryd.zeroValue95
  t222 := Tryd.underlying99
  a222 := Tryd.isAgg99
  z222 := Tryd.sizeOf99
  v222 := Tryd.zeroValue99
  t228 := Tryd.underlying101
  a228 := Tryd.isAgg101
  z228 := Tryd.sizeOf101
  v228 := Tryd.zeroValue101
  t229 := Tryd.underlying102
  a229 := Tryd.isAgg102
  z229 := Tryd.sizeOf102
  v229 := Tryd.zeroValue102 }
open Go.Sort Go.RowKit in
theorem Tryd.slices_Sort_string (blk off cap : Nat) (ss : List (List UInt8)) (w : World) (hH : Holds encStr w blk off ss.toArray) (hblk : blk < w.heap.size) (hsz : ss.length < 4611686018427387904) :
    Calls Tryd.prog 39 #[.slice (some ⟨blk, off, none⟩) ss.length cap] w fun e w' =>
      e = .returned (.tuple #[]) ∧ ∃ n os, w' = grow (putRow encStr (Sort.ahead w n) blk off (ss.mergeSort fun x y => decide (x ≤ y)).toArray) os := Any.slices_Sort_string Tryd.lays190 blk off cap ss w hH hblk hsz
open Go.RowKit Go.Sort in
theorem Tryd.slices_Sort_string_none (p : Option Addr) (cap : Nat) (w : World) :
    Calls Tryd.prog 39 #[.slice p 0 cap] w fun e w' => e = .returned (.tuple #[]) ∧ w' = w := Any.slices_Sort_string_none Tryd.lays190 p cap w
end Go.Proofs
