/-
  The shelf's contracts at this program, laid by the kit's own tool in plain words.
-/
import Derived.Shelf.Strings.Builder1
import Derived.Shelf.Strings.Builder2
import Derived.Shelf.Strings.BuilderF
import Derived.Shelf.Strings.BuilderK
import Derived.Shelf.Strings.Builder2Cap
import Derived.Shelf.Sort.Plain
import Derived.Shelf.Slices.In.SortNone
import Derived.Test.YtcbenidcaaegnaaDoorProg
namespace Go.Proofs
open Go.Shelf
def Tryd.lays170_ren : Go.Shelf.Ren := ⟨fun | 170 => 53 | n => n, fun | 70 => 86 | 3 => 3 | 0 => 0 | 72 => 89 | 37 => 87 | 5 => 5 | n => n, fun | n => n⟩
theorem Tryd.lays170 : Go.Proofs.Lays.n170 Tryd.prog Tryd.lays170_ren := {
  mixed := by kernel_rfl
  f170 := Tryd.func53.trans (congrArg some (by kernel_rfl))
  t0 := Tryd.underlying0
  a0 := Tryd.isAgg0
  z0 := Tryd.sizeOf0
  v0 := Tryd.zeroValue0
  t3 := Tryd.underlying3
  a3 := Tryd.isAgg3
  z3 := Tryd.sizeOf3
  v3 := Tryd.zeroValue3
  t37 := Tryd.underlying87
  a37 := Tryd.isAgg87
  z37 := Tryd.sizeOf87
  v37 := Tryd.zeroValue87
  t70 := Tryd.underlying86
  a70 := Tryd.isAgg86
  z70 := Tryd.sizeOf86
  v70 := Tryd.zeroValue86
  t72 := Tryd.underlying89
  a72 := Tryd.isAgg89
  z72 := Tryd.sizeOf89
  v72 := Tryd.zeroValue89 }
open Go.RowKit in
theorem Tryd.Builder_Len (B b : Nat) (bs : List Value) (w : World) (h : Lib.IsBuilder 89 5 B b bs w) :
    Calls Tryd.prog 53 #[.pointer (some ⟨b, 0, none⟩)] w fun e w' => e = .returned (.int .i64 bs.length) ∧ w' = w := Any.Builder_Len Tryd.lays170 B b bs w h
def Tryd.lays169_ren : Go.Shelf.Ren := ⟨fun | 169 => 56 | n => n, fun | 70 => 86 | 9 => 9 | 0 => 0 | 72 => 89 | 37 => 87 | 127 => 102 | 3 => 3 | 5 => 5 | n => n, fun | n => n⟩
theorem Tryd.lays169 : Go.Proofs.Lays.n169 Tryd.prog Tryd.lays169_ren := {
  mixed := by kernel_rfl
  f169 := Tryd.func56.trans (congrArg some (by kernel_rfl))
  t0 := Tryd.underlying0
  a0 := Tryd.isAgg0
  z0 := Tryd.sizeOf0
  v0 := Tryd.zeroValue0
  t3 := Tryd.underlying3
  a3 := Tryd.isAgg3
  z3 := Tryd.sizeOf3
  v3 := Tryd.zeroValue3
  t9 := Tryd.underlying9
  a9 := Tryd.isAgg9
  z9 := Tryd.sizeOf9
  v9 := Tryd.zeroValue9
  t37 := Tryd.underlying87
  a37 := Tryd.isAgg87
  z37 := Tryd.sizeOf87
  v37 := Tryd.zeroValue87
  t70 := Tryd.underlying86
  a70 := Tryd.isAgg86
  z70 := Tryd.sizeOf86
  v70 := Tryd.zeroValue86
  t72 := Tryd.underlying89
  a72 := Tryd.isAgg89
  z72 := Tryd.sizeOf89
  v72 := Tryd.zeroValue89
  t127 := Tryd.underlying102
  a127 := Tryd.isAgg102
  z127 := Tryd.sizeOf102
  v127 := Tryd.zeroValue102 }
theorem Tryd.Builder_Extra_169 : Builder.Extra Tryd.prog Tryd.lays169_ren := {
  sizeBuilder := by kernel_rfl
  liesBuilder := by kernel_rfl
  t5 := Tryd.underlying5
  a5 := Tryd.isAgg5
  z5 := Tryd.sizeOf5
  v5 := Tryd.zeroValue5
  infoByte := by kernel_rfl
  cellsByte := by kernel_rfl
  sizeByte := by kernel_rfl
  neB5 := by decide }
open Go.RowKit in
theorem Tryd.Builder_String (B b : Nat) (l : List UInt8) (w : World) (h : Lib.IsBuilder 89 5 B b (Lib.byteCells l) w) (h0 : l ≠ []) :
    Calls Tryd.prog 56 #[.pointer (some ⟨b, 0, none⟩)] w fun e w' => e = .returned (.string ⟨l.toArray⟩) ∧ Below B w w' := Any.Builder_String Tryd.lays169 Tryd.Builder_Extra_169 B b l w h h0
open Go.RowKit in
theorem Tryd.Builder_String_empty (B b : Nat) (w : World) (h : Lib.IsBuilder 89 5 B b [] w) (hBw : B ≤ w.heap.size) :
    Calls Tryd.prog 56 #[.pointer (some ⟨b, 0, none⟩)] w fun e w' => e = .returned (.string ⟨#[]⟩) ∧ Below B w w' := Any.Builder_String_empty Tryd.lays169 Tryd.Builder_Extra_169 B b w h hBw
open Go.RowKit in
theorem Tryd.Builder_String_any (B b : Nat) (l : List UInt8) (w : World) (h : Lib.IsBuilder 89 5 B b (Lib.byteCells l) w) (hBw : B ≤ w.heap.size) :
    Calls Tryd.prog 56 #[.pointer (some ⟨b, 0, none⟩)] w fun e w' => e = .returned (.string ⟨l.toArray⟩) ∧ Below B w w' := Any.Builder_String_any Tryd.lays169 Tryd.Builder_Extra_169 B b l w h hBw
def Tryd.lays241_ren : Go.Shelf.Ren := ⟨fun | 241 => 86 | 277 => 93 | n => n, fun | 70 => 86 | 3 => 3 | 0 => 0 | 72 => 89 | 37 => 87 | 5 => 5 | n => n, fun | n => n⟩
theorem Tryd.lays241 : Go.Proofs.Lays.n241 Tryd.prog Tryd.lays241_ren := {
  mixed := by kernel_rfl
  f241 := Tryd.func86.trans (congrArg some (by kernel_rfl))
  f277 := Tryd.func93.trans (congrArg some (by kernel_rfl))
  t0 := Tryd.underlying0
  a0 := Tryd.isAgg0
  z0 := Tryd.sizeOf0
  v0 := Tryd.zeroValue0
  t3 := Tryd.underlying3
  a3 := Tryd.isAgg3
  z3 := Tryd.sizeOf3
  v3 := Tryd.zeroValue3
  t37 := Tryd.underlying87
  a37 := Tryd.isAgg87
  z37 := Tryd.sizeOf87
  v37 := Tryd.zeroValue87
  t70 := Tryd.underlying86
  a70 := Tryd.isAgg86
  z70 := Tryd.sizeOf86
  v70 := Tryd.zeroValue86
  t72 := Tryd.underlying89
  a72 := Tryd.isAgg89
  z72 := Tryd.sizeOf89
  v72 := Tryd.zeroValue89 }
theorem Tryd.Builder_Extra_241 : Builder.Extra Tryd.prog Tryd.lays241_ren := {
  sizeBuilder := by kernel_rfl
  liesBuilder := by kernel_rfl
  t5 := Tryd.underlying5
  a5 := Tryd.isAgg5
  z5 := Tryd.sizeOf5
  v5 := Tryd.zeroValue5
  infoByte := by kernel_rfl
  cellsByte := by kernel_rfl
  sizeByte := by kernel_rfl
  neB5 := by decide }
open Go.RowKit in
theorem Tryd.Builder_grow_fresh (B b n : Nat) (w : World) (hB : B ≤ b) (hbk : w.heap[b]? = some (.cells #[.pointer (some ⟨b, 0, none⟩), .slice none 0 0] 89 (0, 0))) (hBw : B ≤ w.heap.size) (hn : n ≤ 281474976710656) :
    Calls Tryd.prog 86 #[.pointer (some ⟨b, 0, none⟩), .int .i64 n] w fun e w' => e = .returned (.tuple #[]) ∧ (Lib.BuilderAt 89 5 B b (.pointer (some ⟨b, 0, none⟩)) [] w' ∧ Below B w w') := Any.Builder_grow_fresh Tryd.lays241 Tryd.Builder_Extra_241 B b n w hB hbk hBw hn
def Tryd.lays165_ren : Go.Shelf.Ren := ⟨fun | 165 => 71 | 240 => 67 | 241 => 86 | 276 => 85 | 277 => 93 | n => n, fun | 70 => 86 | 3 => 3 | 0 => 0 | 4 => 4 | 9 => 9 | 20 => 20 | 72 => 89 | 37 => 87 | 164 => 123 | 5 => 5 | n => n, fun | n => n⟩
theorem Tryd.lays165 : Go.Proofs.Lays.n165 Tryd.prog Tryd.lays165_ren := {
  mixed := by kernel_rfl
  f165 := Tryd.func71.trans (congrArg some (by kernel_rfl))
  f240 := Tryd.func67.trans (congrArg some (by kernel_rfl))
  f241 := Tryd.func86.trans (congrArg some (by kernel_rfl))
  f276 := Tryd.func85.trans (congrArg some (by kernel_rfl))
  f277 := Tryd.func93.trans (congrArg some (by kernel_rfl))
  t0 := Tryd.underlying0
  a0 := Tryd.isAgg0
  z0 := Tryd.sizeOf0
  v0 := Tryd.zeroValue0
  t3 := Tryd.underlying3
  a3 := Tryd.isAgg3
  z3 := Tryd.sizeOf3
  v3 := Tryd.zeroValue3
  t4 := Tryd.underlying4
  a4 := Tryd.isAgg4
  z4 := Tryd.sizeOf4
  v4 := Tryd.zeroValue4
  t9 := Tryd.underlying9
  a9 := Tryd.isAgg9
  z9 := Tryd.sizeOf9
  v9 := Tryd.zeroValue9
  t20 := Tryd.underlying20
  a20 := Tryd.isAgg20
  z20 := Tryd.sizeOf20
  v20 := Tryd.zeroValue20
  t37 := Tryd.underlying87
  a37 := Tryd.isAgg87
  z37 := Tryd.sizeOf87
  v37 := Tryd.zeroValue87
  t70 := Tryd.underlying86
  a70 := Tryd.isAgg86
  z70 := Tryd.sizeOf86
  v70 := Tryd.zeroValue86
  t72 := Tryd.underlying89
  a72 := Tryd.isAgg89
  z72 := Tryd.sizeOf89
  v72 := Tryd.zeroValue89
  t164 := Tryd.underlying123
  a164 := Tryd.isAgg123
  z164 := Tryd.sizeOf123
  v164 := Tryd.zeroValue123 }
theorem Tryd.Builder_Extra_165 : Builder.Extra Tryd.prog Tryd.lays165_ren := {
  sizeBuilder := by kernel_rfl
  liesBuilder := by kernel_rfl
  t5 := Tryd.underlying5
  a5 := Tryd.isAgg5
  z5 := Tryd.sizeOf5
  v5 := Tryd.zeroValue5
  infoByte := by kernel_rfl
  cellsByte := by kernel_rfl
  sizeByte := by kernel_rfl
  neB5 := by decide }
open Go.RowKit in
theorem Tryd.Builder_Grow_fresh (B b n : Nat) (w : World) (hB : B ≤ b) (hbk : w.heap[b]? = some (.cells #[.pointer none, .slice none 0 0] 89 (0, 0))) (hBw : B ≤ w.heap.size) (hn : n ≤ 281474976710656) :
    Calls Tryd.prog 71 #[.pointer (some ⟨b, 0, none⟩), .int .i64 n] w fun e w' => e = .returned (.tuple #[]) ∧ (Lib.BuilderAt 89 5 B b (.pointer (some ⟨b, 0, none⟩)) [] w' ∧ Below B w w') := Any.Builder_Grow_fresh Tryd.lays165 Tryd.Builder_Extra_165 B b n w hB hbk hBw hn
open Go.RowKit in
theorem Tryd.Builder_Len_f (B b : Nat) (bs : List Value) (w : World) (h : Lib.IsBuilderF 89 5 B b bs w) :
    Calls Tryd.prog 53 #[.pointer (some ⟨b, 0, none⟩)] w fun e w' => e = .returned (.int .i64 bs.length) ∧ w' = w := Any.Builder_Len_f Tryd.lays170 B b bs w h
open Go.RowKit in
theorem Tryd.Builder_String_f (B b : Nat) (l : List UInt8) (w : World) (h : Lib.IsBuilderF 89 5 B b (Lib.byteCells l) w) (h0 : l ≠ []) :
    Calls Tryd.prog 56 #[.pointer (some ⟨b, 0, none⟩)] w fun e w' => e = .returned (.string ⟨l.toArray⟩) ∧ (Lib.IsBuilderF 89 5 B b (Lib.byteCells l) w' ∧ Below B w w') := Any.Builder_String_f Tryd.lays169 Tryd.Builder_Extra_169 B b l w h h0
open Go.RowKit in
theorem Tryd.Builder_String_empty_f (B b : Nat) (w : World) (h : Lib.IsBuilderF 89 5 B b [] w) (hBw : B ≤ w.heap.size) :
    Calls Tryd.prog 56 #[.pointer (some ⟨b, 0, none⟩)] w fun e w' => e = .returned (.string ⟨#[]⟩) ∧ (Lib.IsBuilderF 89 5 B b [] w' ∧ Below B w w') := Any.Builder_String_empty_f Tryd.lays169 Tryd.Builder_Extra_169 B b w h hBw
open Go.RowKit in
theorem Tryd.Builder_String_any_f (B b : Nat) (l : List UInt8) (w : World) (h : Lib.IsBuilderF 89 5 B b (Lib.byteCells l) w) (hBw : B ≤ w.heap.size) :
    Calls Tryd.prog 56 #[.pointer (some ⟨b, 0, none⟩)] w fun e w' => e = .returned (.string ⟨l.toArray⟩) ∧ (Lib.IsBuilderF 89 5 B b (Lib.byteCells l) w' ∧ Below B w w') := Any.Builder_String_any_f Tryd.lays169 Tryd.Builder_Extra_169 B b l w h hBw
open Go.RowKit in
theorem Tryd.Builder_String_k (B b : Nat) (l : List UInt8) (w : World) (h : Lib.IsBuilderF 89 5 B b (Lib.byteCells l) w) (h0 : l ≠ []) :
    Calls Tryd.prog 56 #[.pointer (some ⟨b, 0, none⟩)] w fun e w' => e = .returned (.string ⟨l.toArray⟩) ∧ (Lib.IsBuilderF 89 5 B b (Lib.byteCells l) w' ∧ Below B w w' ∧ Lib.OthersKept 5 (some b) w w') := Any.Builder_String_k Tryd.lays169 Tryd.Builder_Extra_169 B b l w h h0
open Go.RowKit in
theorem Tryd.Builder_String_empty_k (B b : Nat) (w : World) (h : Lib.IsBuilderF 89 5 B b [] w) (hBw : B ≤ w.heap.size) :
    Calls Tryd.prog 56 #[.pointer (some ⟨b, 0, none⟩)] w fun e w' => e = .returned (.string ⟨#[]⟩) ∧ (Lib.IsBuilderF 89 5 B b [] w' ∧ Below B w w' ∧ Lib.OthersKept 5 (some b) w w') := Any.Builder_String_empty_k Tryd.lays169 Tryd.Builder_Extra_169 B b w h hBw
open Go.RowKit in
theorem Tryd.Builder_String_any_k (B b : Nat) (l : List UInt8) (w : World) (h : Lib.IsBuilderF 89 5 B b (Lib.byteCells l) w) (hBw : B ≤ w.heap.size) :
    Calls Tryd.prog 56 #[.pointer (some ⟨b, 0, none⟩)] w fun e w' => e = .returned (.string ⟨l.toArray⟩) ∧ (Lib.IsBuilderF 89 5 B b (Lib.byteCells l) w' ∧ Below B w w' ∧ Lib.OthersKept 5 (some b) w w') := Any.Builder_String_any_k Tryd.lays169 Tryd.Builder_Extra_169 B b l w h hBw
open Go.RowKit in
theorem Tryd.Builder_grow_fresh_cap (B b n : Nat) (w : World) (hB : B ≤ b) (hbk : w.heap[b]? = some (.cells #[.pointer (some ⟨b, 0, none⟩), .slice none 0 0] 89 (0, 0))) (hBw : B ≤ w.heap.size) (hn : n ≤ 281474976710656) :
    Calls Tryd.prog 86 #[.pointer (some ⟨b, 0, none⟩), .int .i64 n] w fun e w' => e = .returned (.tuple #[]) ∧ (Lib.BuilderAt 89 5 B b (.pointer (some ⟨b, 0, none⟩)) [] w' ∧ Below B w w') ∧ ∃ p cap, w'.cell? ⟨b, 1, none⟩ = some (.slice p 0 cap) ∧ n ≤ cap := Any.Builder_grow_fresh_cap Tryd.lays241 Tryd.Builder_Extra_241 B b n w hB hbk hBw hn
open Go.RowKit in
theorem Tryd.Builder_Grow_fresh_cap (B b n : Nat) (w : World) (hB : B ≤ b) (hbk : w.heap[b]? = some (.cells #[.pointer none, .slice none 0 0] 89 (0, 0))) (hBw : B ≤ w.heap.size) (hn : n ≤ 281474976710656) :
    Calls Tryd.prog 71 #[.pointer (some ⟨b, 0, none⟩), .int .i64 n] w fun e w' => e = .returned (.tuple #[]) ∧ (Lib.BuilderAt 89 5 B b (.pointer (some ⟨b, 0, none⟩)) [] w' ∧ Below B w w') ∧ ∃ p cap, w'.cell? ⟨b, 1, none⟩ = some (.slice p 0 cap) ∧ n ≤ cap := Any.Builder_Grow_fresh_cap Tryd.lays165 Tryd.Builder_Extra_165 B b n w hB hbk hBw hn
def Tryd.lays190_ren : Go.Shelf.Ren := ⟨fun | 190 => 51 | 125 => 65 | 258 => 64 | 128 => 83 | 129 => 84 | 302 => 74 | 303 => 75 | 304 => 76 | 305 => 77 | 306 => 78 | 307 => 79 | 308 => 80 | 309 => 81 | 310 => 82 | 333 => 87 | 329 => 88 | 330 => 89 | 334 => 90 | 335 => 91 | 336 => 92 | 344 => 94 | n => n, fun | 31 => 22 | 9 => 9 | 3 => 3 | 46 => 100 | 0 => 0 | 51 => 119 | 53 => 121 | 4 => 4 | 183 => 111 | 182 => 110 | 131 => 116 | 5 => 5 | 218 => 126 | 222 => 130 | 228 => 133 | 229 => 134 | n => n, fun | n => n⟩
theorem Tryd.lays190 : Go.Proofs.Lays.n190 Tryd.prog Tryd.lays190_ren := {
  mixed := by kernel_rfl
  f125 := Tryd.func65.trans (congrArg some (by kernel_rfl))
  f128 := Tryd.func83.trans (congrArg some (by kernel_rfl))
  f129 := Tryd.func84.trans (congrArg some (by kernel_rfl))
  f190 := Tryd.func51.trans (congrArg some (by kernel_rfl))
  f258 := Tryd.func64.trans (congrArg some (by kernel_rfl))
  f302 := Tryd.func74.trans (congrArg some (by kernel_rfl))
  f303 := Tryd.func75.trans (congrArg some (by kernel_rfl))
  f304 := Tryd.func76.trans (congrArg some (by kernel_rfl))
  f305 := Tryd.func77.trans (congrArg some (by kernel_rfl))
  f306 := Tryd.func78.trans (congrArg some (by kernel_rfl))
  f307 := Tryd.func79.trans (congrArg some (by kernel_rfl))
  f308 := Tryd.func80.trans (congrArg some (by kernel_rfl))
  f309 := Tryd.func81.trans (congrArg some (by kernel_rfl))
  f310 := Tryd.func82.trans (congrArg some (by kernel_rfl))
  f329 := Tryd.func88.trans (congrArg some (by kernel_rfl))
  f330 := Tryd.func89.trans (congrArg some (by kernel_rfl))
  f333 := Tryd.func87.trans (congrArg some (by kernel_rfl))
  f334 := Tryd.func90.trans (congrArg some (by kernel_rfl))
  f335 := Tryd.func91.trans (congrArg some (by kernel_rfl))
  f336 := Tryd.func92.trans (congrArg some (by kernel_rfl))
  f344 := Tryd.func94.trans (congrArg some (by kernel_rfl))
  t0 := Tryd.underlying0
  a0 := Tryd.isAgg0
  z0 := Tryd.sizeOf0
  v0 := Tryd.zeroValue0
  t3 := Tryd.underlying3
  a3 := Tryd.isAgg3
  z3 := Tryd.sizeOf3
  v3 := Tryd.zeroValue3
  t4 := Tryd.underlying4
  a4 := Tryd.isAgg4
  z4 := Tryd.sizeOf4
  v4 := Tryd.zeroValue4
  t5 := Tryd.underlying5
  a5 := Tryd.isAgg5
  z5 := Tryd.sizeOf5
  v5 := Tryd.zeroValue5
  t9 := Tryd.underlying9
  a9 := Tryd.isAgg9
  z9 := Tryd.sizeOf9
  v9 := Tryd.zeroValue9
  t31 := Tryd.underlying22
  a31 := Tryd.isAgg22
  z31 := Tryd.sizeOf22
  v31 := Tryd.zeroValue22
  t46 := Tryd.underlying100
  a46 := Tryd.isAgg100
  z46 := Tryd.sizeOf100
  v46 := Tryd.zeroValue100
  t51 := Tryd.underlying119
  a51 := Tryd.isAgg119
  z51 := Tryd.sizeOf119
  v51 := Tryd.zeroValue119
  t53 := Tryd.underlying121
  a53 := Tryd.isAgg121
  z53 := Tryd.sizeOf121
  v53 := Tryd.zeroValue121
  t131 := Tryd.underlying116
  a131 := Tryd.isAgg116
  z131 := Tryd.sizeOf116
  v131 := Tryd.zeroValue116
  t182 := Tryd.underlying110
  a182 := Tryd.isAgg110
  z182 := Tryd.sizeOf110
  v182 := Tryd.zeroValue110
  t183 := Tryd.underlying111
  a183 := Tryd.isAgg111
  z183 := Tryd.sizeOf111
  v183 := Tryd.zeroValue111
  t218 := Tryd.underlying126
  a218 := Tryd.isAgg126
  z218 := Tryd.sizeOf126
  v218 := Tryd.zeroValue126
  t222 := Tryd.underlying130
  a222 := Tryd.isAgg130
  z222 := Tryd.sizeOf130
  v222 := Tryd.zeroValue130
  t228 := Tryd.underlying133
  a228 := Tryd.isAgg133
  z228 := Tryd.sizeOf133
  v228 := Tryd.zeroValue133
  t229 := Tryd.underlying134
  a229 := Tryd.isAgg134
  z229 := Tryd.sizeOf134
  v229 := Tryd.zeroValue134 }
open Go.Sort Go.RowKit in
theorem Tryd.slices_Sort_string (blk off cap : Nat) (ss : List (List UInt8)) (w : World) (hH : Holds encStr w blk off ss.toArray) (hblk : blk < w.heap.size) (hsz : ss.length < 4611686018427387904) :
    Calls Tryd.prog 51 #[.slice (some ⟨blk, off, none⟩) ss.length cap] w fun e w' =>
      e = .returned (.tuple #[]) ∧ ∃ n os, w' = grow (putRow encStr (Sort.ahead w n) blk off (ss.mergeSort fun x y => decide (x ≤ y)).toArray) os := Any.slices_Sort_string Tryd.lays190 blk off cap ss w hH hblk hsz
open Go.RowKit Go.Sort in
theorem Tryd.slices_Sort_string_none (p : Option Addr) (cap : Nat) (w : World) :
    Calls Tryd.prog 51 #[.slice p 0 cap] w fun e w' => e = .returned (.tuple #[]) ∧ w' = w := Any.slices_Sort_string_none Tryd.lays190 p cap w
end Go.Proofs
