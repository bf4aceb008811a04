import Derived.Shelf.Strings.Builder1
import Derived.Shelf.Strings.Builder2
import Derived.Shelf.Strings.OnBuilder
import Derived.Shelf.Sort.Plain
import Derived.Shelf.Slices.In.SortNone
import Derived.Test.Qxb6626483aFmtProg
namespace Go.Proofs
open Go.Shelf
def Tryf.lays169_ren : Go.Shelf.Ren := ⟨fun | 169 => 21 | n => n, fun | 70 => 53 | 9 => 9 | 0 => 0 | 72 => 56 | 37 => 54 | 127 => 73 | 3 => 3 | 5 => 5 | n => n, fun | n => n⟩
theorem Tryf.lays169 : Go.Proofs.Lays.n169 Tryf.prog Tryf.lays169_ren := {
  mixed := by kernel_rfl
  f169 := Tryf.func21.trans (congrArg some (by kernel_rfl))
  t0 := Tryf.underlying0
  a0 := Tryf.isAgg0
  z0 := Tryf.sizeOf0
  v0 := Tryf.zeroValue0
  t3 := Tryf.underlying3
  a3 := Tryf.isAgg3
  z3 := Tryf.sizeOf3
  v3 := Tryf.zeroValue3
  t9 := Tryf.underlying9
  a9 := Tryf.isAgg9
  z9 := Tryf.sizeOf9
  v9 := Tryf.zeroValue9
  t37 := Tryf.underlying54
  a37 := Tryf.isAgg54
  z37 := Tryf.sizeOf54
  v37 := Tryf.zeroValue54
  t70 := Tryf.underlying53
  a70 := Tryf.isAgg53
  z70 := Tryf.sizeOf53
  v70 := Tryf.zeroValue53
  t72 := Tryf.underlying56
  a72 := Tryf.isAgg56
  z72 := Tryf.sizeOf56
  v72 := Tryf.zeroValue56
  t127 := Tryf.underlying73
  a127 := Tryf.isAgg73
  z127 := Tryf.sizeOf73
  v127 := Tryf.zeroValue73 }
theorem Tryf.Builder_Extra_169 : Builder.Extra Tryf.prog Tryf.lays169_ren := {
  sizeBuilder := by kernel_rfl
  liesBuilder := by kernel_rfl
  t5 := Tryf.underlying5
  a5 := Tryf.isAgg5
  z5 := Tryf.sizeOf5
  v5 := Tryf.zeroValue5
  infoByte := by kernel_rfl
  cellsByte := by kernel_rfl
  sizeByte := by kernel_rfl
  neB5 := by decide }
open Go.RowKit in
theorem Tryf.Builder_String (B b : Nat) (l : List UInt8) (w : World) (h : Lib.IsBuilder 56 5 B b (Lib.byteCells l) w) (h0 : l ≠ []) :
    Calls Tryf.prog 21 #[.pointer (some ⟨b, 0, none⟩)] w fun e w' => e = .returned (.string ⟨l.toArray⟩) ∧ Below B w w' := Any.Builder_String Tryf.lays169 Tryf.Builder_Extra_169 B b l w h h0
open Go.RowKit in
theorem Tryf.Builder_String_empty (B b : Nat) (w : World) (h : Lib.IsBuilder 56 5 B b [] w) (hBw : B ≤ w.heap.size) :
    Calls Tryf.prog 21 #[.pointer (some ⟨b, 0, none⟩)] w fun e w' => e = .returned (.string ⟨#[]⟩) ∧ Below B w w' := Any.Builder_String_empty Tryf.lays169 Tryf.Builder_Extra_169 B b w h hBw
open Go.RowKit in
theorem Tryf.Builder_String_any (B b : Nat) (l : List UInt8) (w : World) (h : Lib.IsBuilder 56 5 B b (Lib.byteCells l) w) (hBw : B ≤ w.heap.size) :
    Calls Tryf.prog 21 #[.pointer (some ⟨b, 0, none⟩)] w fun e w' => e = .returned (.string ⟨l.toArray⟩) ∧ Below B w w' := Any.Builder_String_any Tryf.lays169 Tryf.Builder_Extra_169 B b l w h hBw
def Tryf.lays241_ren : Go.Shelf.Ren := ⟨fun | 241 => 34 | 277 => 42 | n => n, fun | 70 => 53 | 3 => 3 | 0 => 0 | 72 => 56 | 37 => 54 | 5 => 5 | n => n, fun | n => n⟩
theorem Tryf.lays241 : Go.Proofs.Lays.n241 Tryf.prog Tryf.lays241_ren := {
  mixed := by kernel_rfl
  f241 := Tryf.func34.trans (congrArg some (by kernel_rfl))
  f277 := Tryf.func42.trans (congrArg some (by kernel_rfl))
  t0 := Tryf.underlying0
  a0 := Tryf.isAgg0
  z0 := Tryf.sizeOf0
  v0 := Tryf.zeroValue0
  t3 := Tryf.underlying3
  a3 := Tryf.isAgg3
  z3 := Tryf.sizeOf3
  v3 := Tryf.zeroValue3
  t37 := Tryf.underlying54
  a37 := Tryf.isAgg54
  z37 := Tryf.sizeOf54
  v37 := Tryf.zeroValue54
  t70 := Tryf.underlying53
  a70 := Tryf.isAgg53
  z70 := Tryf.sizeOf53
  v70 := Tryf.zeroValue53
  t72 := Tryf.underlying56
  a72 := Tryf.isAgg56
  z72 := Tryf.sizeOf56
  v72 := Tryf.zeroValue56 }
theorem Tryf.Builder_Extra_241 : Builder.Extra Tryf.prog Tryf.lays241_ren := {
  sizeBuilder := by kernel_rfl
  liesBuilder := by kernel_rfl
  t5 := Tryf.underlying5
  a5 := Tryf.isAgg5
  z5 := Tryf.sizeOf5
  v5 := Tryf.zeroValue5
  infoByte := by kernel_rfl
  cellsByte := by kernel_rfl
  sizeByte := by kernel_rfl
  neB5 := by decide }
open Go.RowKit in
theorem Tryf.Builder_grow_fresh (B b n : Nat) (w : World) (hB : B ≤ b) (hbk : w.heap[b]? = some (.cells #[.pointer (some ⟨b, 0, none⟩), .slice none 0 0] 56 (0, 0))) (hBw : B ≤ w.heap.size) (hn : n ≤ 281474976710656) :
    Calls Tryf.prog 34 #[.pointer (some ⟨b, 0, none⟩), .int .i64 n] w fun e w' => e = .returned (.tuple #[]) ∧ (Lib.BuilderAt 56 5 B b (.pointer (some ⟨b, 0, none⟩)) [] w' ∧ Below B w w') := Any.Builder_grow_fresh Tryf.lays241 Tryf.Builder_Extra_241 B b n w hB hbk hBw hn
def Tryf.lays165_ren : Go.Shelf.Ren := ⟨fun | 165 => 19 | 240 => 33 | 241 => 34 | 276 => 41 | 277 => 42 | n => n, fun | 70 => 53 | 3 => 3 | 0 => 0 | 4 => 4 | 9 => 9 | 20 => 20 | 72 => 56 | 37 => 54 | 164 => 81 | 5 => 5 | n => n, fun | n => n⟩
theorem Tryf.lays165 : Go.Proofs.Lays.n165 Tryf.prog Tryf.lays165_ren := {
  mixed := by kernel_rfl
  f165 := Tryf.func19.trans (congrArg some (by kernel_rfl))
  f240 := Tryf.func33.trans (congrArg some (by kernel_rfl))
  f241 := Tryf.func34.trans (congrArg some (by kernel_rfl))
  f276 := Tryf.func41.trans (congrArg some (by kernel_rfl))
  f277 := Tryf.func42.trans (congrArg some (by kernel_rfl))
  t0 := Tryf.underlying0
  a0 := Tryf.isAgg0
  z0 := Tryf.sizeOf0
  v0 := Tryf.zeroValue0
  t3 := Tryf.underlying3
  a3 := Tryf.isAgg3
  z3 := Tryf.sizeOf3
  v3 := Tryf.zeroValue3
  t4 := Tryf.underlying4
  a4 := Tryf.isAgg4
  z4 := Tryf.sizeOf4
  v4 := Tryf.zeroValue4
  t9 := Tryf.underlying9
  a9 := Tryf.isAgg9
  z9 := Tryf.sizeOf9
  v9 := Tryf.zeroValue9
  t20 := Tryf.underlying20
  a20 := Tryf.isAgg20
  z20 := Tryf.sizeOf20
  v20 := Tryf.zeroValue20
  t37 := Tryf.underlying54
  a37 := Tryf.isAgg54
  z37 := Tryf.sizeOf54
  v37 := Tryf.zeroValue54
  t70 := Tryf.underlying53
  a70 := Tryf.isAgg53
  z70 := Tryf.sizeOf53
  v70 := Tryf.zeroValue53
  t72 := Tryf.underlying56
  a72 := Tryf.isAgg56
  z72 := Tryf.sizeOf56
  v72 := Tryf.zeroValue56
  t164 := Tryf.underlying81
  a164 := Tryf.isAgg81
  z164 := Tryf.sizeOf81
  v164 := Tryf.zeroValue81 }
theorem Tryf.Builder_Extra_165 : Builder.Extra Tryf.prog Tryf.lays165_ren := {
  sizeBuilder := by kernel_rfl
  liesBuilder := by kernel_rfl
  t5 := Tryf.underlying5
  a5 := Tryf.isAgg5
  z5 := Tryf.sizeOf5
  v5 := Tryf.zeroValue5
  infoByte := by kernel_rfl
  cellsByte := by kernel_rfl
  sizeByte := by kernel_rfl
  neB5 := by decide }
open Go.RowKit in
theorem Tryf.Builder_Grow_fresh (B b n : Nat) (w : World) (hB : B ≤ b) (hbk : w.heap[b]? = some (.cells #[.pointer none, .slice none 0 0] 56 (0, 0))) (hBw : B ≤ w.heap.size) (hn : n ≤ 281474976710656) :
    Calls Tryf.prog 19 #[.pointer (some ⟨b, 0, none⟩), .int .i64 n] w fun e w' => e = .returned (.tuple #[]) ∧ (Lib.BuilderAt 56 5 B b (.pointer (some ⟨b, 0, none⟩)) [] w' ∧ Below B w w') := Any.Builder_Grow_fresh Tryf.lays165 Tryf.Builder_Extra_165 B b n w hB hbk hBw hn
def Tryf.lays156_ren : Go.Shelf.Ren := ⟨fun | 156 => 16 | 165 => 19 | 166 => 20 | 169 => 21 | 240 => 33 | 241 => 34 | 276 => 41 | 277 => 42 | n => n, fun | 31 => 22 | 9 => 9 | 3 => 3 | 4 => 4 | 0 => 0 | 20 => 20 | 72 => 56 | 76 => 58 | 70 => 53 | 37 => 54 | 75 => 32 | 127 => 73 | 164 => 81 | 5 => 5 | 80 => 41 | n => n, fun | n => n⟩
theorem Tryf.lays156 : Go.Proofs.Lays.n156 Tryf.prog Tryf.lays156_ren := {
  mixed := by kernel_rfl
  f156 := Tryf.func16.trans (congrArg some (by kernel_rfl))
  f165 := Tryf.func19.trans (congrArg some (by kernel_rfl))
  f166 := Tryf.func20.trans (congrArg some (by kernel_rfl))
  f169 := Tryf.func21.trans (congrArg some (by kernel_rfl))
  f240 := Tryf.func33.trans (congrArg some (by kernel_rfl))
  f241 := Tryf.func34.trans (congrArg some (by kernel_rfl))
  f276 := Tryf.func41.trans (congrArg some (by kernel_rfl))
  f277 := Tryf.func42.trans (congrArg some (by kernel_rfl))
  t0 := Tryf.underlying0
  a0 := Tryf.isAgg0
  z0 := Tryf.sizeOf0
  v0 := Tryf.zeroValue0
  t3 := Tryf.underlying3
  a3 := Tryf.isAgg3
  z3 := Tryf.sizeOf3
  v3 := Tryf.zeroValue3
  t4 := Tryf.underlying4
  a4 := Tryf.isAgg4
  z4 := Tryf.sizeOf4
  v4 := Tryf.zeroValue4
  t9 := Tryf.underlying9
  a9 := Tryf.isAgg9
  z9 := Tryf.sizeOf9
  v9 := Tryf.zeroValue9
  t20 := Tryf.underlying20
  a20 := Tryf.isAgg20
  z20 := Tryf.sizeOf20
  v20 := Tryf.zeroValue20
  t31 := Tryf.underlying22
  a31 := Tryf.isAgg22
  z31 := Tryf.sizeOf22
  v31 := Tryf.zeroValue22
  t37 := Tryf.underlying54
  a37 := Tryf.isAgg54
  z37 := Tryf.sizeOf54
  v37 := Tryf.zeroValue54
  t70 := Tryf.underlying53
  a70 := Tryf.isAgg53
  z70 := Tryf.sizeOf53
  v70 := Tryf.zeroValue53
  t72 := Tryf.underlying56
  a72 := Tryf.isAgg56
  z72 := Tryf.sizeOf56
  v72 := Tryf.zeroValue56
  t75 := Tryf.underlying32
  a75 := Tryf.isAgg32
  z75 := Tryf.sizeOf32
  v75 := Tryf.zeroValue32
  t76 := Tryf.underlying58
  a76 := Tryf.isAgg58
  z76 := Tryf.sizeOf58
  v76 := Tryf.zeroValue58
  t127 := Tryf.underlying73
  a127 := Tryf.isAgg73
  z127 := Tryf.sizeOf73
  v127 := Tryf.zeroValue73
  t164 := Tryf.underlying81
  a164 := Tryf.isAgg81
  z164 := Tryf.sizeOf81
  v164 := Tryf.zeroValue81 }
theorem Tryf.Builder_Extra_156 : Builder.Extra Tryf.prog Tryf.lays156_ren := {
  sizeBuilder := by kernel_rfl
  liesBuilder := by kernel_rfl
  t5 := Tryf.underlying5
  a5 := Tryf.isAgg5
  z5 := Tryf.sizeOf5
  v5 := Tryf.zeroValue5
  infoByte := by kernel_rfl
  cellsByte := by kernel_rfl
  sizeByte := by kernel_rfl
  neB5 := by decide }
open Go.RowKit in
theorem Tryf.strings_Join_none (a : Option Addr) (c : Nat) (sep : ByteArray) (w : World) :
    Calls Tryf.prog 16 #[.slice a 0 c, .string sep] w fun e w' => e = .returned (.string ⟨#[]⟩) ∧ w' = w := Any.strings_Join_none Tryf.lays156 Tryf.Builder_Extra_156 a c sep w
open Go.RowKit in
theorem Tryf.strings_Join (bk o c : Nat) (xs : List ByteArray) (sep : ByteArray) (w : World) (hcells : ∀ (j : Nat) x, xs[j]? = some x → w.cell? ⟨bk, o + j, none⟩ = some (.string x)) (hbk : bk < w.heap.size) (hN : xs.length ≤ 140737488355328) (hcap : xs.length ≤ c) (hlen : (Lib.join (xs.map (·.data.toList)) sep.data.toList).length ≤ 140737488355328) :
    Calls Tryf.prog 16 #[.slice (some ⟨bk, o, none⟩) xs.length c, .string sep] w fun e w' => e = .returned (.string ⟨(Lib.join (xs.map (·.data.toList)) sep.data.toList).toArray⟩) ∧ Below w.heap.size w w' := Any.strings_Join Tryf.lays156 Tryf.Builder_Extra_156 bk o c xs sep w hcells hbk hN hcap hlen
def Tryf.lays190_ren : Go.Shelf.Ren := ⟨fun | 190 => 15 | 125 => 18 | 258 => 17 | 128 => 31 | 129 => 32 | 302 => 22 | 303 => 23 | 304 => 24 | 305 => 25 | 306 => 26 | 307 => 27 | 308 => 28 | 309 => 29 | 310 => 30 | 333 => 35 | 329 => 36 | 330 => 37 | 334 => 38 | 335 => 39 | 336 => 40 | 344 => 43 | n => n, fun | 31 => 22 | 9 => 9 | 3 => 3 | 46 => 52 | 0 => 0 | 51 => 70 | 53 => 72 | 4 => 4 | 183 => 62 | 182 => 61 | 131 => 67 | 5 => 5 | 218 => 74 | 222 => 78 | 228 => 84 | 229 => 85 | n => n, fun | n => n⟩
theorem Tryf.lays190 : Go.Proofs.Lays.n190 Tryf.prog Tryf.lays190_ren := {
  mixed := by kernel_rfl
  f125 := Tryf.func18.trans (congrArg some (by kernel_rfl))
  f128 := Tryf.func31.trans (congrArg some (by kernel_rfl))
  f129 := Tryf.func32.trans (congrArg some (by kernel_rfl))
  f190 := Tryf.func15.trans (congrArg some (by kernel_rfl))
  f258 := Tryf.func17.trans (congrArg some (by kernel_rfl))
  f302 := Tryf.func22.trans (congrArg some (by kernel_rfl))
  f303 := Tryf.func23.trans (congrArg some (by kernel_rfl))
  f304 := Tryf.func24.trans (congrArg some (by kernel_rfl))
  f305 := Tryf.func25.trans (congrArg some (by kernel_rfl))
  f306 := Tryf.func26.trans (congrArg some (by kernel_rfl))
  f307 := Tryf.func27.trans (congrArg some (by kernel_rfl))
  f308 := Tryf.func28.trans (congrArg some (by kernel_rfl))
  f309 := Tryf.func29.trans (congrArg some (by kernel_rfl))
  f310 := Tryf.func30.trans (congrArg some (by kernel_rfl))
  f329 := Tryf.func36.trans (congrArg some (by kernel_rfl))
  f330 := Tryf.func37.trans (congrArg some (by kernel_rfl))
  f333 := Tryf.func35.trans (congrArg some (by kernel_rfl))
  f334 := Tryf.func38.trans (congrArg some (by kernel_rfl))
  f335 := Tryf.func39.trans (congrArg some (by kernel_rfl))
  f336 := Tryf.func40.trans (congrArg some (by kernel_rfl))
  f344 := Tryf.func43.trans (congrArg some (by kernel_rfl))
  t0 := Tryf.underlying0
  a0 := Tryf.isAgg0
  z0 := Tryf.sizeOf0
  v0 := Tryf.zeroValue0
  t3 := Tryf.underlying3
  a3 := Tryf.isAgg3
  z3 := Tryf.sizeOf3
  v3 := Tryf.zeroValue3
  t4 := Tryf.underlying4
  a4 := Tryf.isAgg4
  z4 := Tryf.sizeOf4
  v4 := Tryf.zeroValue4
  t5 := Tryf.underlying5
  a5 := Tryf.isAgg5
  z5 := Tryf.sizeOf5
  v5 := Tryf.zeroValue5
  t9 := Tryf.underlying9
  a9 := Tryf.isAgg9
  z9 := Tryf.sizeOf9
  v9 := Tryf.zeroValue9
  t31 := Tryf.underlying22
  a31 := Tryf.isAgg22
  z31 := Tryf.sizeOf22
  v31 := Tryf.zeroValue22
  t46 := Tryf.underlying52
  a46 := Tryf.isAgg52
  z46 := Tryf.sizeOf52
  v46 := Tryf.zeroValue52
  t51 := Tryf.underlying70
  a51 := Tryf.isAgg70
  z51 := Tryf.sizeOf70
  v51 := Tryf.zeroValue70
  t53 := Tryf.underlying72
  a53 := Tryf.isAgg72
  z53 := Tryf.sizeOf72
  v53 := Tryf.zeroValue72
  t131 := Tryf.underlying67
  a131 := Tryf.isAgg67
  z131 := Tryf.sizeOf67
  v131 := Tryf.zeroValue67
  t182 := Tryf.underlying61
  a182 := Tryf.isAgg61
  z182 := Tryf.sizeOf61
  v182 := Tryf.zeroValue61
  t183 := Tryf.underlying62
  a183 := Tryf.isAgg62
  z183 := Tryf.sizeOf62
  v183 := Tryf.zeroValue62
  t218 := Tryf.underlying74
  a218 := Tryf.isAgg74
  z218 := Tryf.sizeOf74
  v218 := Tryf.zeroValue74
  t222 := Tryf.underlying78
  a222 := Tryf.isAgg78
  z222 := Tryf.sizeOf78
  v222 := Tryf.zeroValue78
  t228 := Tryf.underlying84
  a228 := Tryf.isAgg84
  z228 := Tryf.sizeOf84
  v228 := Tryf.zeroValue84
  t229 := Tryf.underlying85
  a229 := Tryf.isAgg85
  z229 := Tryf.sizeOf85
  v229 := Tryf.zeroValue85 }
open Go.Sort Go.RowKit in
theorem Tryf.slices_Sort_string (blk off cap : Nat) (ss : List (List UInt8)) (w : World) (hH : Holds encStr w blk off ss.toArray) (hblk : blk < w.heap.size) (hsz : ss.length < 4611686018427387904) :
    Calls Tryf.prog 15 #[.slice (some ⟨blk, off, none⟩) ss.length cap] w fun e w' =>
      e = .returned (.tuple #[]) ∧ ∃ n os, w' = grow (putRow encStr (Sort.ahead w n) blk off (ss.mergeSort fun x y => decide (x ≤ y)).toArray) os := Any.slices_Sort_string Tryf.lays190 blk off cap ss w hH hblk hsz
open Go.RowKit Go.Sort in
theorem Tryf.slices_Sort_string_none (p : Option Addr) (cap : Nat) (w : World) :
    Calls Tryf.prog 15 #[.slice p 0 cap] w fun e w' => e = .returned (.tuple #[]) ∧ w' = w := Any.slices_Sort_string_none Tryf.lays190 p cap w
end Go.Proofs
