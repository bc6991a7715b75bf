/-
  The shelf's contracts at this program that the walks of this seat use, in plain words (written by the kit's lay-shelf and lay-plain for this dump; the layings 167 and 166 by hand: the tool does not find the number of a type that no body of their closure names).
-/
import Derived.Shelf.Strings.Builder1
import Derived.Shelf.Strings.Builder2
import Derived.Shelf.Strings.IndexAnyAll
import Derived.Test.Qxb6001167aProg
namespace Go.Proofs
open Go.Shelf
def Try.lays169_ren : Go.Shelf.Ren := ⟨fun | 169 => 31 | n => n, fun | 70 => 39 | 9 => 9 | 0 => 0 | 72 => 41 | 37 => 38 | 127 => 61 | 3 => 3 | 5 => 5 | n => n, fun | n => n⟩
theorem Try.lays169 : Go.Proofs.Lays.n169 Try.prog Try.lays169_ren := {
  mixed := by kernel_rfl
  f169 := Try.func31.trans (congrArg some (by kernel_rfl))
  t0 := Try.underlying0
  a0 := Try.isAgg0
  z0 := Try.sizeOf0
  v0 := Try.zeroValue0
  t3 := Try.underlying3
  a3 := Try.isAgg3
  z3 := Try.sizeOf3
  v3 := Try.zeroValue3
  t9 := Try.underlying9
  a9 := Try.isAgg9
  z9 := Try.sizeOf9
  v9 := Try.zeroValue9
  t37 := Try.underlying38
  a37 := Try.isAgg38
  z37 := Try.sizeOf38
  v37 := Try.zeroValue38
  t70 := Try.underlying39
  a70 := Try.isAgg39
  z70 := Try.sizeOf39
  v70 := Try.zeroValue39
  t72 := Try.underlying41
  a72 := Try.isAgg41
  z72 := Try.sizeOf41
  v72 := Try.zeroValue41
  t127 := Try.underlying61
  a127 := Try.isAgg61
  z127 := Try.sizeOf61
  v127 := Try.zeroValue61 }
theorem Try.Builder_Extra_169 : Builder.Extra Try.prog Try.lays169_ren := {
  sizeBuilder := by kernel_rfl
  liesBuilder := by kernel_rfl
  t5 := Try.underlying5
  a5 := Try.isAgg5
  z5 := Try.sizeOf5
  v5 := Try.zeroValue5
  infoByte := by kernel_rfl
  cellsByte := by kernel_rfl
  sizeByte := by kernel_rfl
  neB5 := by decide }
open Go.RowKit in
theorem Try.Builder_String (B b : Nat) (l : List UInt8) (w : World) (h : Lib.IsBuilder 41 5 B b (Lib.byteCells l) w) (h0 : l ≠ []) :
    Calls Try.prog 31 #[.pointer (some ⟨b, 0, none⟩)] w fun e w' => e = .returned (.string ⟨l.toArray⟩) ∧ Below B w w' := Any.Builder_String Try.lays169 Try.Builder_Extra_169 B b l w h h0
open Go.RowKit in
theorem Try.Builder_String_empty (B b : Nat) (w : World) (h : Lib.IsBuilder 41 5 B b [] w) (hBw : B ≤ w.heap.size) :
    Calls Try.prog 31 #[.pointer (some ⟨b, 0, none⟩)] w fun e w' => e = .returned (.string ⟨#[]⟩) ∧ Below B w w' := Any.Builder_String_empty Try.lays169 Try.Builder_Extra_169 B b w h hBw
open Go.RowKit in
theorem Try.Builder_String_any (B b : Nat) (l : List UInt8) (w : World) (h : Lib.IsBuilder 41 5 B b (Lib.byteCells l) w) (hBw : B ≤ w.heap.size) :
    Calls Try.prog 31 #[.pointer (some ⟨b, 0, none⟩)] w fun e w' => e = .returned (.string ⟨l.toArray⟩) ∧ Below B w w' := Any.Builder_String_any Try.lays169 Try.Builder_Extra_169 B b l w h hBw
def Try.lays165_ren : Go.Shelf.Ren := ⟨fun | 165 => 27 | 240 => 35 | 241 => 36 | 276 => 46 | 277 => 47 | n => n, fun | 70 => 39 | 3 => 3 | 0 => 0 | 4 => 4 | 9 => 9 | 20 => 20 | 72 => 41 | 37 => 38 | 164 => 68 | 5 => 5 | n => n, fun | n => n⟩
theorem Try.lays165 : Go.Proofs.Lays.n165 Try.prog Try.lays165_ren := {
  mixed := by kernel_rfl
  f165 := Try.func27.trans (congrArg some (by kernel_rfl))
  f240 := Try.func35.trans (congrArg some (by kernel_rfl))
  f241 := Try.func36.trans (congrArg some (by kernel_rfl))
  f276 := Try.func46.trans (congrArg some (by kernel_rfl))
  f277 := Try.func47.trans (congrArg some (by kernel_rfl))
  t0 := Try.underlying0
  a0 := Try.isAgg0
  z0 := Try.sizeOf0
  v0 := Try.zeroValue0
  t3 := Try.underlying3
  a3 := Try.isAgg3
  z3 := Try.sizeOf3
  v3 := Try.zeroValue3
  t4 := Try.underlying4
  a4 := Try.isAgg4
  z4 := Try.sizeOf4
  v4 := Try.zeroValue4
  t9 := Try.underlying9
  a9 := Try.isAgg9
  z9 := Try.sizeOf9
  v9 := Try.zeroValue9
  t20 := Try.underlying20
  a20 := Try.isAgg20
  z20 := Try.sizeOf20
  v20 := Try.zeroValue20
  t37 := Try.underlying38
  a37 := Try.isAgg38
  z37 := Try.sizeOf38
  v37 := Try.zeroValue38
  t70 := Try.underlying39
  a70 := Try.isAgg39
  z70 := Try.sizeOf39
  v70 := Try.zeroValue39
  t72 := Try.underlying41
  a72 := Try.isAgg41
  z72 := Try.sizeOf41
  v72 := Try.zeroValue41
  t164 := Try.underlying68
  a164 := Try.isAgg68
  z164 := Try.sizeOf68
  v164 := Try.zeroValue68 }
theorem Try.Builder_Extra_165 : Builder.Extra Try.prog Try.lays165_ren := {
  sizeBuilder := by kernel_rfl
  liesBuilder := by kernel_rfl
  t5 := Try.underlying5
  a5 := Try.isAgg5
  z5 := Try.sizeOf5
  v5 := Try.zeroValue5
  infoByte := by kernel_rfl
  cellsByte := by kernel_rfl
  sizeByte := by kernel_rfl
  neB5 := by decide }
open Go.RowKit in
theorem Try.Builder_Grow_fresh (B b n : Nat) (w : World) (hB : B ≤ b) (hbk : w.heap[b]? = some (.cells #[.pointer none, .slice none 0 0] 41 (0, 0))) (hBw : B ≤ w.heap.size) (hn : n ≤ 281474976710656) :
    Calls Try.prog 27 #[.pointer (some ⟨b, 0, none⟩), .int .i64 n] w fun e w' => e = .returned (.tuple #[]) ∧ (Lib.BuilderAt 41 5 B b (.pointer (some ⟨b, 0, none⟩)) [] w' ∧ Below B w w') := Any.Builder_Grow_fresh Try.lays165 Try.Builder_Extra_165 B b n w hB hbk hBw hn
def Try.lays153_ren : Go.Shelf.Ren := ⟨fun | 153 => 34 | 152 => 42 | 226 => 43 | 227 => 44 | 228 => 45 | 137 => 29 | 119 => 52 | 224 => 53 | 225 => 54 | 217 => 37 | 266 => 48 | n => n, fun | 9 => 9 | 3 => 3 | 4 => 4 | 5 => 5 | 21 => 21 | 117 => 66 | 116 => 65 | 0 => 0 | 46 => 74 | 124 => 75 | n => n, fun | n => n⟩
theorem Try.lays153 : Go.Proofs.Lays.n153 Try.prog Try.lays153_ren := {
  mixed := by kernel_rfl
  f119 := Try.func52.trans (congrArg some (by kernel_rfl))
  f137 := Try.func29.trans (congrArg some (by kernel_rfl))
  f152 := Try.func42.trans (congrArg some (by kernel_rfl))
  f153 := Try.func34.trans (congrArg some (by kernel_rfl))
  f217 := Try.func37.trans (congrArg some (by kernel_rfl))
  f224 := Try.func53.trans (congrArg some (by kernel_rfl))
  f225 := Try.func54.trans (congrArg some (by kernel_rfl))
  f226 := Try.func43.trans (congrArg some (by kernel_rfl))
  f227 := Try.func44.trans (congrArg some (by kernel_rfl))
  f228 := Try.func45.trans (congrArg some (by kernel_rfl))
  f266 := Try.func48.trans (congrArg some (by kernel_rfl))
  t0 := Try.underlying0
  a0 := Try.isAgg0
  z0 := Try.sizeOf0
  v0 := Try.zeroValue0
  t3 := Try.underlying3
  a3 := Try.isAgg3
  z3 := Try.sizeOf3
  v3 := Try.zeroValue3
  t4 := Try.underlying4
  a4 := Try.isAgg4
  z4 := Try.sizeOf4
  v4 := Try.zeroValue4
  t5 := Try.underlying5
  a5 := Try.isAgg5
  z5 := Try.sizeOf5
  v5 := Try.zeroValue5
  t9 := Try.underlying9
  a9 := Try.isAgg9
  z9 := Try.sizeOf9
  v9 := Try.zeroValue9
  t21 := Try.underlying21
  a21 := Try.isAgg21
  z21 := Try.sizeOf21
  v21 := Try.zeroValue21
  t46 := Try.underlying74
  a46 := Try.isAgg74
  z46 := Try.sizeOf74
  v46 := Try.zeroValue74
  t116 := Try.underlying65
  a116 := Try.isAgg65
  z116 := Try.sizeOf65
  t117 := Try.underlying66
  a117 := Try.isAgg66
  z117 := Try.sizeOf66
  v117 := Try.zeroValue66
  t124 := Try.underlying75
  a124 := Try.isAgg75
  z124 := Try.sizeOf75
  v124 := Try.zeroValue75 }
open Go.RowKit Go.Lib in
theorem Try.strings_IndexAny_long (hv116 : ∀ w, (zeroValue 65).run Try.prog w = .ok (.agg (Array.replicate 256 (.bool false))) w) (s chars : ByteArray) (w : World) (h2 : 2 ≤ chars.size) (h8 : 8 < s.size) (hs : s.size < 4294967281) (hcs : chars.size < 4294967281) (hascii : ∀ (j : Nat) b, chars.data.toList[j]? = some b → b.toNat < 128) :
    Calls Try.prog 34 #[.string s, .string chars] w fun e w' => e = .returned (.int .i64 (Lib.indexAny s.data.toList chars.data.toList)) ∧ w' = ((w.alloc (.cells (Lib.setCells chars.data.toList) 65)).alloc (.cells (Lib.setCells chars.data.toList) 65)) := Any.strings_IndexAny_long Try.lays153 hv116 (by kernel_rfl) s chars w h2 h8 hs hcs hascii
def Try.lays167_ren : Go.Shelf.Ren := ⟨fun | 167 => 28 | 240 => 35 | 276 => 46 | n => n, fun | 0 => 0 | 3 => 3 | 4 => 4 | 5 => 5 | 9 => 9 | 20 => 20 | 37 => 38 | 70 => 39 | 72 => 41 | 75 => 44 | 80 => 48 | 164 => 68 | n => n, fun | n => n⟩
theorem Try.lays167 : Go.Proofs.Lays.n167 Try.prog Try.lays167_ren := {
  mixed := by kernel_rfl
  f167 := Try.func28.trans (congrArg some (by kernel_rfl))
  f240 := Try.func35.trans (congrArg some (by kernel_rfl))
  f276 := Try.func46.trans (congrArg some (by kernel_rfl))
  t0 := Try.underlying0
  a0 := Try.isAgg0
  z0 := Try.sizeOf0
  v0 := Try.zeroValue0
  t4 := Try.underlying4
  a4 := Try.isAgg4
  z4 := Try.sizeOf4
  v4 := Try.zeroValue4
  t5 := Try.underlying5
  a5 := Try.isAgg5
  z5 := Try.sizeOf5
  v5 := Try.zeroValue5
  t9 := Try.underlying9
  a9 := Try.isAgg9
  z9 := Try.sizeOf9
  v9 := Try.zeroValue9
  t20 := Try.underlying20
  a20 := Try.isAgg20
  z20 := Try.sizeOf20
  v20 := Try.zeroValue20
  t37 := Try.underlying38
  a37 := Try.isAgg38
  z37 := Try.sizeOf38
  v37 := Try.zeroValue38
  t70 := Try.underlying39
  a70 := Try.isAgg39
  z70 := Try.sizeOf39
  v70 := Try.zeroValue39
  t72 := Try.underlying41
  a72 := Try.isAgg41
  z72 := Try.sizeOf41
  v72 := Try.zeroValue41
  t75 := Try.underlying44
  a75 := Try.isAgg44
  z75 := Try.sizeOf44
  v75 := Try.zeroValue44
  t164 := Try.underlying68
  a164 := Try.isAgg68
  z164 := Try.sizeOf68
  v164 := Try.zeroValue68 }
theorem Try.Builder_Extra_167 : Builder.Extra Try.prog Try.lays167_ren := {
  sizeBuilder := by kernel_rfl
  liesBuilder := by kernel_rfl
  t5 := Try.underlying5
  a5 := Try.isAgg5
  z5 := Try.sizeOf5
  v5 := Try.zeroValue5
  infoByte := by kernel_rfl
  cellsByte := by kernel_rfl
  sizeByte := by kernel_rfl
  neB5 := by decide }
open Go.RowKit in
theorem Try.Builder_WriteByte (B b : Nat) (bs : List Value) (c : Int) (w : World) (h : Lib.IsBuilder 41 5 B b bs w) (hlen : bs.length + 1 ≤ 140737488355328) (hBw : B ≤ w.heap.size) :
    Calls Try.prog 28 #[.pointer (some ⟨b, 0, none⟩), .int .u8 c] w fun e w' => e = .returned .nilIface ∧ (Lib.BuilderAt 41 5 B b (.pointer (some ⟨b, 0, none⟩)) (bs ++ [.int .u8 c]) w' ∧ Below B w w') := Any.Builder_WriteByte Try.lays167 Try.Builder_Extra_167 B b bs c w h hlen hBw
def Try.lays166_ren : Go.Shelf.Ren := ⟨fun | 166 => 30 | 240 => 35 | 276 => 46 | n => n, fun | 0 => 0 | 3 => 3 | 4 => 4 | 5 => 5 | 9 => 9 | 20 => 20 | 37 => 38 | 70 => 39 | 72 => 41 | 75 => 44 | 80 => 48 | 164 => 68 | n => n, fun | n => n⟩
theorem Try.lays166 : Go.Proofs.Lays.n166 Try.prog Try.lays166_ren := {
  mixed := by kernel_rfl
  f166 := Try.func30.trans (congrArg some (by kernel_rfl))
  f240 := Try.func35.trans (congrArg some (by kernel_rfl))
  f276 := Try.func46.trans (congrArg some (by kernel_rfl))
  t0 := Try.underlying0
  a0 := Try.isAgg0
  z0 := Try.sizeOf0
  v0 := Try.zeroValue0
  t3 := Try.underlying3
  a3 := Try.isAgg3
  z3 := Try.sizeOf3
  v3 := Try.zeroValue3
  t4 := Try.underlying4
  a4 := Try.isAgg4
  z4 := Try.sizeOf4
  v4 := Try.zeroValue4
  t9 := Try.underlying9
  a9 := Try.isAgg9
  z9 := Try.sizeOf9
  v9 := Try.zeroValue9
  t20 := Try.underlying20
  a20 := Try.isAgg20
  z20 := Try.sizeOf20
  v20 := Try.zeroValue20
  t37 := Try.underlying38
  a37 := Try.isAgg38
  z37 := Try.sizeOf38
  v37 := Try.zeroValue38
  t70 := Try.underlying39
  a70 := Try.isAgg39
  z70 := Try.sizeOf39
  v70 := Try.zeroValue39
  t72 := Try.underlying41
  a72 := Try.isAgg41
  z72 := Try.sizeOf41
  v72 := Try.zeroValue41
  t75 := Try.underlying44
  a75 := Try.isAgg44
  z75 := Try.sizeOf44
  v75 := Try.zeroValue44
  t164 := Try.underlying68
  a164 := Try.isAgg68
  z164 := Try.sizeOf68
  v164 := Try.zeroValue68 }
theorem Try.Builder_Extra_166 : Builder.Extra Try.prog Try.lays166_ren := {
  sizeBuilder := by kernel_rfl
  liesBuilder := by kernel_rfl
  t5 := Try.underlying5
  a5 := Try.isAgg5
  z5 := Try.sizeOf5
  v5 := Try.zeroValue5
  infoByte := by kernel_rfl
  cellsByte := by kernel_rfl
  sizeByte := by kernel_rfl
  neB5 := by decide }
open Go.RowKit in
theorem Try.Builder_WriteString (B b : Nat) (bs : List Value) (s : ByteArray) (w : World) (h : Lib.IsBuilder 41 5 B b bs w) (hlen : bs.length + s.size ≤ 140737488355328) (hBw : B ≤ w.heap.size) :
    Calls Try.prog 30 #[.pointer (some ⟨b, 0, none⟩), .string s] w fun e w' => e = .returned (.tuple #[.int .i64 s.size, .nilIface]) ∧ (Lib.BuilderAt 41 5 B b (.pointer (some ⟨b, 0, none⟩)) (bs ++ Lib.strCells s) w' ∧ Below B w w') := Any.Builder_WriteString Try.lays166 Try.Builder_Extra_166 B b bs s w h hlen hBw
end Go.Proofs
