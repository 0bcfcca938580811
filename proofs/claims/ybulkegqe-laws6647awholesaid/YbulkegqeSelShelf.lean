/-
  DERIVED: the shelf's contracts at this dump (Builder.Grow, Builder.String, sort.Strings), in plain words: written by the kit's tools lay-shelf.mjs and lay-plain.mjs; comments struck.
-/
import Derived.Shelf.Strings.Builder1
import Derived.Shelf.Strings.Builder2
import Derived.Shelf.Sort.Plain
import Derived.Test.YbulkegqeProg
namespace Go.Proofs
open Go.Shelf
def Yba.lays169_ren : Go.Shelf.Ren := ⟨fun | 169 => 25 | n => n, fun | 70 => 128 | 9 => 9 | 0 => 0 | 72 => 130 | 37 => 24 | 127 => 153 | 3 => 3 | 5 => 5 | n => n, fun | n => n⟩
theorem Yba.lays169 : Go.Proofs.Lays.n169 Yba.prog Yba.lays169_ren := {
  mixed := by kernel_rfl
  f169 := Yba.func25.trans (congrArg some (by kernel_rfl))
  t0 := Yba.underlying0
  a0 := Yba.isAgg0
  z0 := Yba.sizeOf0
  v0 := Yba.zeroValue0
  t3 := Yba.underlying3
  a3 := Yba.isAgg3
  z3 := Yba.sizeOf3
  v3 := Yba.zeroValue3
  t9 := Yba.underlying9
  a9 := Yba.isAgg9
  z9 := Yba.sizeOf9
  v9 := Yba.zeroValue9
  t37 := Yba.underlying24
  a37 := Yba.isAgg24
  z37 := Yba.sizeOf24
  v37 := Yba.zeroValue24
  t70 := Yba.underlying128
  a70 := Yba.isAgg128
  z70 := Yba.sizeOf128
  v70 := Yba.zeroValue128
  t72 := Yba.underlying130
  a72 := Yba.isAgg130
  z72 := Yba.sizeOf130
  v72 := Yba.zeroValue130
  t127 := Yba.underlying153
  a127 := Yba.isAgg153
  z127 := Yba.sizeOf153
  v127 := Yba.zeroValue153 }
theorem Yba.Builder_Extra_169 : Builder.Extra Yba.prog Yba.lays169_ren := {
  sizeBuilder := by kernel_rfl
  liesBuilder := by kernel_rfl
  t5 := Yba.underlying5
  a5 := Yba.isAgg5
  z5 := Yba.sizeOf5
  v5 := Yba.zeroValue5
  infoByte := by kernel_rfl
  cellsByte := by kernel_rfl
  sizeByte := by kernel_rfl
  neB5 := by decide }
open Go.RowKit in
theorem Yba.Builder_String (B b : Nat) (l : List UInt8) (w : World) (h : Lib.IsBuilder 130 5 B b (Lib.byteCells l) w) (h0 : l ≠ []) :
    Calls Yba.prog 25 #[.pointer (some ⟨b, 0, none⟩)] w fun e w' => e = .returned (.string ⟨l.toArray⟩) ∧ Below B w w' := Any.Builder_String Yba.lays169 Yba.Builder_Extra_169 B b l w h h0
open Go.RowKit in
theorem Yba.Builder_String_any (B b : Nat) (l : List UInt8) (w : World) (h : Lib.IsBuilder 130 5 B b (Lib.byteCells l) w) (hBw : B ≤ w.heap.size) :
    Calls Yba.prog 25 #[.pointer (some ⟨b, 0, none⟩)] w fun e w' => e = .returned (.string ⟨l.toArray⟩) ∧ Below B w w' := Any.Builder_String_any Yba.lays169 Yba.Builder_Extra_169 B b l w h hBw
def Yba.lays165_ren : Go.Shelf.Ren := ⟨fun | 165 => 22 | 240 => 47 | 241 => 48 | 276 => 59 | 277 => 60 | n => n, fun | 70 => 128 | 3 => 3 | 0 => 0 | 4 => 4 | 9 => 9 | 20 => 20 | 72 => 130 | 37 => 24 | 164 => 92 | 5 => 5 | n => n, fun | n => n⟩
theorem Yba.lays165 : Go.Proofs.Lays.n165 Yba.prog Yba.lays165_ren := {
  mixed := by kernel_rfl
  f165 := Yba.func22.trans (congrArg some (by kernel_rfl))
  f240 := Yba.func47.trans (congrArg some (by kernel_rfl))
  f241 := Yba.func48.trans (congrArg some (by kernel_rfl))
  f276 := Yba.func59.trans (congrArg some (by kernel_rfl))
  f277 := Yba.func60.trans (congrArg some (by kernel_rfl))
  t0 := Yba.underlying0
  a0 := Yba.isAgg0
  z0 := Yba.sizeOf0
  v0 := Yba.zeroValue0
  t3 := Yba.underlying3
  a3 := Yba.isAgg3
  z3 := Yba.sizeOf3
  v3 := Yba.zeroValue3
  t4 := Yba.underlying4
  a4 := Yba.isAgg4
  z4 := Yba.sizeOf4
  v4 := Yba.zeroValue4
  t9 := Yba.underlying9
  a9 := Yba.isAgg9
  z9 := Yba.sizeOf9
  v9 := Yba.zeroValue9
  t20 := Yba.underlying20
  a20 := Yba.isAgg20
  z20 := Yba.sizeOf20
  v20 := Yba.zeroValue20
  t37 := Yba.underlying24
  a37 := Yba.isAgg24
  z37 := Yba.sizeOf24
  v37 := Yba.zeroValue24
  t70 := Yba.underlying128
  a70 := Yba.isAgg128
  z70 := Yba.sizeOf128
  v70 := Yba.zeroValue128
  t72 := Yba.underlying130
  a72 := Yba.isAgg130
  z72 := Yba.sizeOf130
  v72 := Yba.zeroValue130
  t164 := Yba.underlying92
  a164 := Yba.isAgg92
  z164 := Yba.sizeOf92
  v164 := Yba.zeroValue92 }
theorem Yba.Builder_Extra_165 : Builder.Extra Yba.prog Yba.lays165_ren := {
  sizeBuilder := by kernel_rfl
  liesBuilder := by kernel_rfl
  t5 := Yba.underlying5
  a5 := Yba.isAgg5
  z5 := Yba.sizeOf5
  v5 := Yba.zeroValue5
  infoByte := by kernel_rfl
  cellsByte := by kernel_rfl
  sizeByte := by kernel_rfl
  neB5 := by decide }
open Go.RowKit in
theorem Yba.Builder_Grow_fresh (B b n : Nat) (w : World) (hB : B ≤ b) (hbk : w.heap[b]? = some (.cells #[.pointer none, .slice none 0 0] 130 (0, 0))) (hBw : B ≤ w.heap.size) (hn : n ≤ 281474976710656) :
    Calls Yba.prog 22 #[.pointer (some ⟨b, 0, none⟩), .int .i64 n] w fun e w' => e = .returned (.tuple #[]) ∧ (Lib.BuilderAt 130 5 B b (.pointer (some ⟨b, 0, none⟩)) [] w' ∧ Below B w w') := Any.Builder_Grow_fresh Yba.lays165 Yba.Builder_Extra_165 B b n w hB hbk hBw hn
def Yba.lays192_ren : Go.Shelf.Ren := ⟨fun | 192 => 46 | 190 => 58 | 125 => 64 | 258 => 63 | 128 => 76 | 129 => 77 | 302 => 67 | 303 => 68 | 304 => 69 | 305 => 70 | 306 => 71 | 307 => 72 | 308 => 73 | 309 => 74 | 310 => 75 | 333 => 78 | 329 => 79 | 330 => 80 | 334 => 81 | 335 => 82 | 336 => 83 | 344 => 84 | n => n, fun | 31 => 28 | 0 => 0 | 9 => 9 | 3 => 3 | 46 => 159 | 51 => 49 | 53 => 76 | 4 => 4 | 183 => 169 | 182 => 168 | 131 => 108 | 5 => 5 | 218 => 177 | 222 => 181 | 228 => 183 | 229 => 184 | n => n, fun | n => n⟩
theorem Yba.lays192 : Go.Proofs.Lays.n192 Yba.prog Yba.lays192_ren := {
  mixed := by kernel_rfl
  f125 := Yba.func64.trans (congrArg some (by kernel_rfl))
  f128 := Yba.func76.trans (congrArg some (by kernel_rfl))
  f129 := Yba.func77.trans (congrArg some (by kernel_rfl))
  f190 := Yba.func58.trans (congrArg some (by kernel_rfl))
  f192 := Yba.func46.trans (congrArg some (by kernel_rfl))
  f258 := Yba.func63.trans (congrArg some (by kernel_rfl))
  f302 := Yba.func67.trans (congrArg some (by kernel_rfl))
  f303 := Yba.func68.trans (congrArg some (by kernel_rfl))
  f304 := Yba.func69.trans (congrArg some (by kernel_rfl))
  f305 := Yba.func70.trans (congrArg some (by kernel_rfl))
  f306 := Yba.func71.trans (congrArg some (by kernel_rfl))
  f307 := Yba.func72.trans (congrArg some (by kernel_rfl))
  f308 := Yba.func73.trans (congrArg some (by kernel_rfl))
  f309 := Yba.func74.trans (congrArg some (by kernel_rfl))
  f310 := Yba.func75.trans (congrArg some (by kernel_rfl))
  f329 := Yba.func79.trans (congrArg some (by kernel_rfl))
  f330 := Yba.func80.trans (congrArg some (by kernel_rfl))
  f333 := Yba.func78.trans (congrArg some (by kernel_rfl))
  f334 := Yba.func81.trans (congrArg some (by kernel_rfl))
  f335 := Yba.func82.trans (congrArg some (by kernel_rfl))
  f336 := Yba.func83.trans (congrArg some (by kernel_rfl))
  f344 := Yba.func84.trans (congrArg some (by kernel_rfl))
  t0 := Yba.underlying0
  a0 := Yba.isAgg0
  z0 := Yba.sizeOf0
  v0 := Yba.zeroValue0
  t3 := Yba.underlying3
  a3 := Yba.isAgg3
  z3 := Yba.sizeOf3
  v3 := Yba.zeroValue3
  t4 := Yba.underlying4
  a4 := Yba.isAgg4
  z4 := Yba.sizeOf4
  v4 := Yba.zeroValue4
  t5 := Yba.underlying5
  a5 := Yba.isAgg5
  z5 := Yba.sizeOf5
  v5 := Yba.zeroValue5
  t9 := Yba.underlying9
  a9 := Yba.isAgg9
  z9 := Yba.sizeOf9
  v9 := Yba.zeroValue9
  t31 := Yba.underlying28
  a31 := Yba.isAgg28
  z31 := Yba.sizeOf28
  v31 := Yba.zeroValue28
  t46 := Yba.underlying159
  a46 := Yba.isAgg159
  z46 := Yba.sizeOf159
  v46 := Yba.zeroValue159
  t51 := Yba.underlying49
  a51 := Yba.isAgg49
  z51 := Yba.sizeOf49
  v51 := Yba.zeroValue49
  t53 := Yba.underlying76
  a53 := Yba.isAgg76
  z53 := Yba.sizeOf76
  v53 := Yba.zeroValue76
  t131 := Yba.underlying108
  a131 := Yba.isAgg108
  z131 := Yba.sizeOf108
  v131 := Yba.zeroValue108
  t182 := Yba.underlying168
  a182 := Yba.isAgg168
  z182 := Yba.sizeOf168
  v182 := Yba.zeroValue168
  t183 := Yba.underlying169
  a183 := Yba.isAgg169
  z183 := Yba.sizeOf169
  v183 := Yba.zeroValue169
  t218 := Yba.underlying177
  a218 := Yba.isAgg177
  z218 := Yba.sizeOf177
  v218 := Yba.zeroValue177
  t222 := Yba.underlying181
  a222 := Yba.isAgg181
  z222 := Yba.sizeOf181
  v222 := Yba.zeroValue181
  t228 := Yba.underlying183
  a228 := Yba.isAgg183
  z228 := Yba.sizeOf183
  v228 := Yba.zeroValue183
  t229 := Yba.underlying184
  a229 := Yba.isAgg184
  z229 := Yba.sizeOf184
  v229 := Yba.zeroValue184 }
open Go.Sort Go.RowKit in
theorem Yba.sort_Strings (blk off cap : Nat) (ss : List (List UInt8)) (w : World) (hH : Holds encStr w blk off ss.toArray) (hblk : blk < w.heap.size) (hsz : ss.length < 4611686018427387904) :
    Calls Yba.prog 46 #[.slice (some ⟨blk, off, none⟩) ss.length cap] w fun e w' =>
      e = .returned (.tuple #[]) ∧ ∃ n os, w' = grow (putRow encStr (Sort.ahead w n) blk off (ss.mergeSort fun x y => decide (x ≤ y)).toArray) os := Any.sort_Strings Yba.lays192 blk off cap ss w hH hblk hsz
end Go.Proofs
