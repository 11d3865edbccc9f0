/-
  Texts put together: ShelfJ, Sh
-/
import Derived.Shelf.Strings.OnBuilder
import Derived.Shelf.Small.Strs
import Derived.Test.YtnehofekgnbelaaGreatDoorProg
import Derived.Shelf.Strings.Search1
import Derived.Shelf.Sort.Plain
import Derived.Shelf.Slices.In.SortNone
namespace Go.Proofs
open Go.Shelf
def Tryz.lays156_ren : Go.Shelf.Ren := ⟨fun | 156 => 75 | 165 => 104 | 166 => 105 | 169 => 106 | 240 => 142 | 241 => 143 | 276 => 173 | 277 => 174 | n => n, fun | 31 => 29 | 9 => 9 | 3 => 3 | 4 => 4 | 0 => 0 | 20 => 20 | 72 => 187 | 76 => 189 | 70 => 185 | 37 => 43 | 75 => 99 | 127 => 226 | 164 => 257 | 5 => 5 | 80 => 66 | n => n, fun | n => n⟩
theorem Tryz.lays156 : Go.Proofs.Lays.n156 Tryz.prog Tryz.lays156_ren := {
 mixed := by kernel_rfl
 f156 := Tryz.func75.trans (congrArg some (by kernel_rfl))
 f165 := Tryz.func104.trans (congrArg some (by kernel_rfl))
 f166 := Tryz.func105.trans (congrArg some (by kernel_rfl))
 f169 := Tryz.func106.trans (congrArg some (by kernel_rfl))
 f240 := Tryz.func142.trans (congrArg some (by kernel_rfl))
 f241 := Tryz.func143.trans (congrArg some (by kernel_rfl))
 f276 := Tryz.func173.trans (congrArg some (by kernel_rfl))
 f277 := Tryz.func174.trans (congrArg some (by kernel_rfl))
 t0 := Tryz.underlying0
 a0 := Tryz.isAgg0
 z0 := Tryz.sizeOf0
 v0 := Tryz.zeroValue0
 t3 := Tryz.underlying3
 a3 := Tryz.isAgg3
 z3 := Tryz.sizeOf3
 v3 := Tryz.zeroValue3
 t4 := Tryz.underlying4
 a4 := Tryz.isAgg4
 z4 := Tryz.sizeOf4
 v4 := Tryz.zeroValue4
 t9 := Tryz.underlying9
 a9 := Tryz.isAgg9
 z9 := Tryz.sizeOf9
 v9 := Tryz.zeroValue9
 t20 := Tryz.underlying20
 a20 := Tryz.isAgg20
 z20 := Tryz.sizeOf20
 v20 := Tryz.zeroValue20
 t31 := Tryz.underlying29
 a31 := Tryz.isAgg29
 z31 := Tryz.sizeOf29
 v31 := Tryz.zeroValue29
 t37 := Tryz.underlying43
 a37 := Tryz.isAgg43
 z37 := Tryz.sizeOf43
 v37 := Tryz.zeroValue43
 t70 := Tryz.underlying185
 a70 := Tryz.isAgg185
 z70 := Tryz.sizeOf185
 v70 := Tryz.zeroValue185
 t72 := Tryz.underlying187
 a72 := Tryz.isAgg187
 z72 := Tryz.sizeOf187
 v72 := Tryz.zeroValue187
 t75 := Tryz.underlying99
 a75 := Tryz.isAgg99
 z75 := Tryz.sizeOf99
 v75 := Tryz.zeroValue99
 t76 := Tryz.underlying189
 a76 := Tryz.isAgg189
 z76 := Tryz.sizeOf189
 v76 := Tryz.zeroValue189
 t127 := Tryz.underlying226
 a127 := Tryz.isAgg226
 z127 := Tryz.sizeOf226
 v127 := Tryz.zeroValue226
 t164 := Tryz.underlying257
 a164 := Tryz.isAgg257
 z164 := Tryz.sizeOf257
 v164 := Tryz.zeroValue257 }
theorem Tryz.Builder_Extra_156 : Builder.Extra Tryz.prog Tryz.lays156_ren := {
 sizeBuilder := by kernel_rfl
 liesBuilder := by kernel_rfl
 t5 := Tryz.underlying5
 a5 := Tryz.isAgg5
 z5 := Tryz.sizeOf5
 v5 := Tryz.zeroValue5
 infoByte := by kernel_rfl
 cellsByte := by kernel_rfl
 sizeByte := by kernel_rfl
 neB5 := by decide }
open Go.RowKit in
theorem Tryz.strings_Join (bk o c : Nat) (xs : List ByteArray) (sep : ByteArray) (w : World) (hcells : ∀ (j : Nat) x, xs[j]? = some x → w.cell? ⟨bk, o + j, none⟩ = some (.string x)) (hbk : bk < w.heap.size) (hN : xs.length ≤ 140737488355328) (hcap : xs.length ≤ c) (hlen : (Lib.join (xs.map (·.data.toList)) sep.data.toList).length ≤ 140737488355328) :
  Calls Tryz.prog 75 #[.slice (some ⟨bk, o, none⟩) xs.length c, .string sep] w fun e w' => e = .returned (.string ⟨(Lib.join (xs.map (·.data.toList)) sep.data.toList).toArray⟩) ∧ Below w.heap.size w w' := Any.strings_Join Tryz.lays156 Tryz.Builder_Extra_156 bk o c xs sep w hcells hbk hN hcap hlen
open Go.RowKit in
theorem Tryz.strings_Join_none (a : Option Addr) (c : Nat) (sep : ByteArray) (w : World) :
  Calls Tryz.prog 75 #[.slice a 0 c, .string sep] w fun e w' => e = .returned (.string ⟨#[]⟩) ∧ w' = w := Any.strings_Join_none Tryz.lays156 Tryz.Builder_Extra_156 a c sep w
def Tryz.lays137_ren : Go.Shelf.Ren := ⟨fun | 137 => 42 | 217 => 70 | 266 => 100 | n => n, fun | 9 => 9 | 5 => 5 | 3 => 3 | n => n, fun | n => n⟩
theorem Tryz.lays137 : Go.Proofs.Lays.n137 Tryz.prog Tryz.lays137_ren := {
 mixed := by kernel_rfl
 f137 := Tryz.func42.trans (congrArg some (by kernel_rfl))
 f217 := Tryz.func70.trans (congrArg some (by kernel_rfl))
 f266 := Tryz.func100.trans (congrArg some (by kernel_rfl))
 t3 := Tryz.underlying3
 a3 := Tryz.isAgg3
 z3 := Tryz.sizeOf3
 v3 := Tryz.zeroValue3
 t5 := Tryz.underlying5
 a5 := Tryz.isAgg5
 z5 := Tryz.sizeOf5
 v5 := Tryz.zeroValue5
 t9 := Tryz.underlying9
 a9 := Tryz.isAgg9
 z9 := Tryz.sizeOf9
 v9 := Tryz.zeroValue9 }
open Go.RowKit in
theorem Tryz.strings_IndexByte (s : ByteArray) (c : Int) (w : World) :
  Calls Tryz.prog 42 #[.string s, .int .u8 c] w fun e w' => e = .returned (.int .i64 (Lib.indexByte s.data.toList c.toNat.toUInt8)) ∧ w' = w := Any.strings_IndexByte Tryz.lays137 s c w
def Tryz.lays190_ren : Go.Shelf.Ren := ⟨fun | 190 => 46 | 125 => 77 | 258 => 76 | 128 => 116 | 129 => 117 | 302 => 107 | 303 => 108 | 304 => 109 | 305 => 110 | 306 => 111 | 307 => 112 | 308 => 113 | 309 => 114 | 310 => 115 | 333 => 144 | 329 => 145 | 330 => 146 | 334 => 147 | 335 => 148 | 336 => 149 | 344 => 175 | n => n, fun | 31 => 29 | 9 => 9 | 3 => 3 | 46 => 112 | 0 => 0 | 51 => 54 | 53 => 154 | 4 => 4 | 183 => 193 | 182 => 192 | 131 => 59 | 5 => 5 | 218 => 227 | 222 => 231 | 228 => 260 | 229 => 148 | n => n, fun | n => n⟩
theorem Tryz.lays190 : Go.Proofs.Lays.n190 Tryz.prog Tryz.lays190_ren := {
 mixed := by kernel_rfl
 f125 := Tryz.func77.trans (congrArg some (by kernel_rfl))
 f128 := Tryz.func116.trans (congrArg some (by kernel_rfl))
 f129 := Tryz.func117.trans (congrArg some (by kernel_rfl))
 f190 := Tryz.func46.trans (congrArg some (by kernel_rfl))
 f258 := Tryz.func76.trans (congrArg some (by kernel_rfl))
 f302 := Tryz.func107.trans (congrArg some (by kernel_rfl))
 f303 := Tryz.func108.trans (congrArg some (by kernel_rfl))
 f304 := Tryz.func109.trans (congrArg some (by kernel_rfl))
 f305 := Tryz.func110.trans (congrArg some (by kernel_rfl))
 f306 := Tryz.func111.trans (congrArg some (by kernel_rfl))
 f307 := Tryz.func112.trans (congrArg some (by kernel_rfl))
 f308 := Tryz.func113.trans (congrArg some (by kernel_rfl))
 f309 := Tryz.func114.trans (congrArg some (by kernel_rfl))
 f310 := Tryz.func115.trans (congrArg some (by kernel_rfl))
 f329 := Tryz.func145.trans (congrArg some (by kernel_rfl))
 f330 := Tryz.func146.trans (congrArg some (by kernel_rfl))
 f333 := Tryz.func144.trans (congrArg some (by kernel_rfl))
 f334 := Tryz.func147.trans (congrArg some (by kernel_rfl))
 f335 := Tryz.func148.trans (congrArg some (by kernel_rfl))
 f336 := Tryz.func149.trans (congrArg some (by kernel_rfl))
 f344 := Tryz.func175.trans (congrArg some (by kernel_rfl))
 t0 := Tryz.underlying0
 a0 := Tryz.isAgg0
 z0 := Tryz.sizeOf0
 v0 := Tryz.zeroValue0
 t3 := Tryz.underlying3
 a3 := Tryz.isAgg3
 z3 := Tryz.sizeOf3
 v3 := Tryz.zeroValue3
 t4 := Tryz.underlying4
 a4 := Tryz.isAgg4
 z4 := Tryz.sizeOf4
 v4 := Tryz.zeroValue4
 t5 := Tryz.underlying5
 a5 := Tryz.isAgg5
 z5 := Tryz.sizeOf5
 v5 := Tryz.zeroValue5
 t9 := Tryz.underlying9
 a9 := Tryz.isAgg9
 z9 := Tryz.sizeOf9
 v9 := Tryz.zeroValue9
 t31 := Tryz.underlying29
 a31 := Tryz.isAgg29
 z31 := Tryz.sizeOf29
 v31 := Tryz.zeroValue29
 t46 := Tryz.underlying112
 a46 := Tryz.isAgg112
 z46 := Tryz.sizeOf112
 v46 := Tryz.zeroValue112
 t51 := Tryz.underlying54
 a51 := Tryz.isAgg54
 z51 := Tryz.sizeOf54
 v51 := Tryz.zeroValue54
 t53 := Tryz.underlying154
 a53 := Tryz.isAgg154
 z53 := Tryz.sizeOf154
 v53 := Tryz.zeroValue154
 t131 := Tryz.underlying59
 a131 := Tryz.isAgg59
 z131 := Tryz.sizeOf59
 v131 := Tryz.zeroValue59
 t182 := Tryz.underlying192
 a182 := Tryz.isAgg192
 z182 := Tryz.sizeOf192
 v182 := Tryz.zeroValue192
 t183 := Tryz.underlying193
 a183 := Tryz.isAgg193
 z183 := Tryz.sizeOf193
 v183 := Tryz.zeroValue193
 t218 := Tryz.underlying227
 a218 := Tryz.isAgg227
 z218 := Tryz.sizeOf227
 v218 := Tryz.zeroValue227
 t222 := Tryz.underlying231
 a222 := Tryz.isAgg231
 z222 := Tryz.sizeOf231
 v222 := Tryz.zeroValue231
 t228 := Tryz.underlying260
 a228 := Tryz.isAgg260
 z228 := Tryz.sizeOf260
 v228 := Tryz.zeroValue260
 t229 := Tryz.underlying148
 a229 := Tryz.isAgg148
 z229 := Tryz.sizeOf148
 v229 := Tryz.zeroValue148 }
open Go.Sort Go.RowKit in
theorem Tryz.slices_Sort_string (blk off cap : Nat) (ss : List (List UInt8)) (w : World) (hH : Holds encStr w blk off ss.toArray) (hblk : blk < w.heap.size) (hsz : ss.length < 4611686018427387904) :
  Calls Tryz.prog 46 #[.slice (some ⟨blk, off, none⟩) ss.length cap] w fun e w' =>
   e = .returned (.tuple #[]) ∧ ∃ n os, w' = grow (putRow encStr (Sort.ahead w n) blk off (ss.mergeSort fun x y => decide (x ≤ y)).toArray) os := Any.slices_Sort_string Tryz.lays190 blk off cap ss w hH hblk hsz
open Go.RowKit Go.Sort in
theorem Tryz.slices_Sort_string_none (p : Option Addr) (cap : Nat) (w : World) :
  Calls Tryz.prog 46 #[.slice p 0 cap] w fun e w' => e = .returned (.tuple #[]) ∧ w' = w := Any.slices_Sort_string_none Tryz.lays190 p cap w
end Go.Proofs
