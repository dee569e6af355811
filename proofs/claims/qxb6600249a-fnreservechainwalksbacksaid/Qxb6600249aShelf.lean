/-
  DERIVED: LAID BY THE KIT's OWN TOOLS (lay-shelf.mjs, then lay-plain.mjs) at this seat's dump; only what the proofs need is kept. THE LAYING OF WriteString (lays166) IS WRITTEN BY HAND: the tool gave it up because no body of this cut names type 20.
-/
import Derived.Shelf.Strings.Builder1
import Derived.Shelf.Strings.Builder2
import Derived.Shelf.Small.Strs
import Derived.Shelf.Strings.BuilderF
import Derived.Shelf.Strings.BuilderK
import Derived.Shelf.Strings.Search1
import Derived.Test.Qxb6600249aProg
namespace Go.Proofs
open Go.Shelf
def Try.lays169_ren : Go.Shelf.Ren := ⟨fun | 169 => 35 | n => n, fun | 70 => 56 | 9 => 9 | 0 => 0 | 72 => 58 | 37 => 23 | 127 => 82 | 3 => 3 | 5 => 5 | n => n, fun | n => n⟩
theorem Try.lays169 : Go.Proofs.Lays.n169 Try.prog Try.lays169_ren := {
  mixed := by kernel_rfl
  f169 := Try.func35.trans (congrArg some (by kernel_rfl))
  t0 := Try.underlying0
  a0 := Try.isAgg0
  z0 := Try.sizeOf0
  v0 := Try.zeroValue0
  t3 := Try.underlying3
  a3 := Try.isAgg3
  z3 := Try.sizeOf3
  v3 := Try.zeroValue3
  t9 := Try.underlying9
  a9 := Try.isAgg9
  z9 := Try.sizeOf9
  v9 := Try.zeroValue9
  t37 := Try.underlying23
  a37 := Try.isAgg23
  z37 := Try.sizeOf23
  v37 := Try.zeroValue23
  t70 := Try.underlying56
  a70 := Try.isAgg56
  z70 := Try.sizeOf56
  v70 := Try.zeroValue56
  t72 := Try.underlying58
  a72 := Try.isAgg58
  z72 := Try.sizeOf58
  v72 := Try.zeroValue58
  t127 := Try.underlying82
  a127 := Try.isAgg82
  z127 := Try.sizeOf82
  v127 := Try.zeroValue82 }
theorem Try.Builder_Extra_169 : Builder.Extra Try.prog Try.lays169_ren := {
  sizeBuilder := by kernel_rfl
  liesBuilder := by kernel_rfl
  t5 := Try.underlying5
  a5 := Try.isAgg5
  z5 := Try.sizeOf5
  v5 := Try.zeroValue5
  infoByte := by kernel_rfl
  cellsByte := by kernel_rfl
  sizeByte := by kernel_rfl
  neB5 := by decide }
open Go.RowKit in
theorem Try.Builder_String_any_k (B b : Nat) (l : List UInt8) (w : World) (h : Lib.IsBuilderF 58 5 B b (Lib.byteCells l) w) (hBw : B ≤ w.heap.size) :
    Calls Try.prog 35 #[.pointer (some ⟨b, 0, none⟩)] w fun e w' => e = .returned (.string ⟨l.toArray⟩) ∧ (Lib.IsBuilderF 58 5 B b (Lib.byteCells l) w' ∧ Below B w w' ∧ Lib.OthersKept 5 (some b) w w') := Any.Builder_String_any_k Try.lays169 Try.Builder_Extra_169 B b l w h hBw
def Try.lays165_ren : Go.Shelf.Ren := ⟨fun | 165 => 33 | 240 => 46 | 241 => 47 | 276 => 50 | 277 => 51 | n => n, fun | 70 => 56 | 3 => 3 | 0 => 0 | 4 => 4 | 9 => 9 | 20 => 20 | 72 => 58 | 37 => 23 | 164 => 85 | 5 => 5 | n => n, fun | n => n⟩
theorem Try.lays165 : Go.Proofs.Lays.n165 Try.prog Try.lays165_ren := {
  mixed := by kernel_rfl
  f165 := Try.func33.trans (congrArg some (by kernel_rfl))
  f240 := Try.func46.trans (congrArg some (by kernel_rfl))
  f241 := Try.func47.trans (congrArg some (by kernel_rfl))
  f276 := Try.func50.trans (congrArg some (by kernel_rfl))
  f277 := Try.func51.trans (congrArg some (by kernel_rfl))
  t0 := Try.underlying0
  a0 := Try.isAgg0
  z0 := Try.sizeOf0
  v0 := Try.zeroValue0
  t3 := Try.underlying3
  a3 := Try.isAgg3
  z3 := Try.sizeOf3
  v3 := Try.zeroValue3
  t4 := Try.underlying4
  a4 := Try.isAgg4
  z4 := Try.sizeOf4
  v4 := Try.zeroValue4
  t9 := Try.underlying9
  a9 := Try.isAgg9
  z9 := Try.sizeOf9
  v9 := Try.zeroValue9
  t20 := Try.underlying20
  a20 := Try.isAgg20
  z20 := Try.sizeOf20
  v20 := Try.zeroValue20
  t37 := Try.underlying23
  a37 := Try.isAgg23
  z37 := Try.sizeOf23
  v37 := Try.zeroValue23
  t70 := Try.underlying56
  a70 := Try.isAgg56
  z70 := Try.sizeOf56
  v70 := Try.zeroValue56
  t72 := Try.underlying58
  a72 := Try.isAgg58
  z72 := Try.sizeOf58
  v72 := Try.zeroValue58
  t164 := Try.underlying85
  a164 := Try.isAgg85
  z164 := Try.sizeOf85
  v164 := Try.zeroValue85 }
theorem Try.Builder_Extra_165 : Builder.Extra Try.prog Try.lays165_ren := {
  sizeBuilder := by kernel_rfl
  liesBuilder := by kernel_rfl
  t5 := Try.underlying5
  a5 := Try.isAgg5
  z5 := Try.sizeOf5
  v5 := Try.zeroValue5
  infoByte := by kernel_rfl
  cellsByte := by kernel_rfl
  sizeByte := by kernel_rfl
  neB5 := by decide }
open Go.RowKit in
theorem Try.Builder_Grow_fresh (B b n : Nat) (w : World) (hB : B ≤ b) (hbk : w.heap[b]? = some (.cells #[.pointer none, .slice none 0 0] 58 (0, 0))) (hBw : B ≤ w.heap.size) (hn : n ≤ 281474976710656) :
    Calls Try.prog 33 #[.pointer (some ⟨b, 0, none⟩), .int .i64 n] w fun e w' => e = .returned (.tuple #[]) ∧ (Lib.BuilderAt 58 5 B b (.pointer (some ⟨b, 0, none⟩)) [] w' ∧ Below B w w') := Any.Builder_Grow_fresh Try.lays165 Try.Builder_Extra_165 B b n w hB hbk hBw hn
def Try.lays137_ren : Go.Shelf.Ren := ⟨fun | 137 => 45 | 217 => 49 | 266 => 52 | n => n, fun | 9 => 9 | 5 => 5 | 3 => 3 | n => n, fun | n => n⟩
theorem Try.lays137 : Go.Proofs.Lays.n137 Try.prog Try.lays137_ren := {
  mixed := by kernel_rfl
  f137 := Try.func45.trans (congrArg some (by kernel_rfl))
  f217 := Try.func49.trans (congrArg some (by kernel_rfl))
  f266 := Try.func52.trans (congrArg some (by kernel_rfl))
  t3 := Try.underlying3
  a3 := Try.isAgg3
  z3 := Try.sizeOf3
  v3 := Try.zeroValue3
  t5 := Try.underlying5
  a5 := Try.isAgg5
  z5 := Try.sizeOf5
  v5 := Try.zeroValue5
  t9 := Try.underlying9
  a9 := Try.isAgg9
  z9 := Try.sizeOf9
  v9 := Try.zeroValue9 }
open Go.RowKit in
theorem Try.strings_IndexByte (s : ByteArray) (c : Int) (w : World) :
    Calls Try.prog 45 #[.string s, .int .u8 c] w fun e w' => e = .returned (.int .i64 (Lib.indexByte s.data.toList c.toNat.toUInt8)) ∧ w' = w := Any.strings_IndexByte Try.lays137 s c w
def Try.lays166_ren : Go.Shelf.Ren := ⟨fun | 166 => 34 | 240 => 46 | 276 => 50 | n => n, fun | 70 => 56 | 3 => 3 | 0 => 0 | 4 => 4 | 9 => 9 | 20 => 20 | 72 => 58 | 37 => 23 | 75 => 63 | 80 => 38 | 164 => 85 | 5 => 5 | n => n, fun | n => n⟩
theorem Try.lays166 : Go.Proofs.Lays.n166 Try.prog Try.lays166_ren := {
  mixed := by kernel_rfl
  f166 := Try.func34.trans (congrArg some (by kernel_rfl))
  f240 := Try.func46.trans (congrArg some (by kernel_rfl))
  f276 := Try.func50.trans (congrArg some (by kernel_rfl))
  t0 := Try.underlying0
  a0 := Try.isAgg0
  z0 := Try.sizeOf0
  v0 := Try.zeroValue0
  t3 := Try.underlying3
  a3 := Try.isAgg3
  z3 := Try.sizeOf3
  v3 := Try.zeroValue3
  t4 := Try.underlying4
  a4 := Try.isAgg4
  z4 := Try.sizeOf4
  v4 := Try.zeroValue4
  t9 := Try.underlying9
  a9 := Try.isAgg9
  z9 := Try.sizeOf9
  v9 := Try.zeroValue9
  t20 := Try.underlying20
  a20 := Try.isAgg20
  z20 := Try.sizeOf20
  v20 := Try.zeroValue20
  t37 := Try.underlying23
  a37 := Try.isAgg23
  z37 := Try.sizeOf23
  v37 := Try.zeroValue23
  t70 := Try.underlying56
  a70 := Try.isAgg56
  z70 := Try.sizeOf56
  v70 := Try.zeroValue56
  t72 := Try.underlying58
  a72 := Try.isAgg58
  z72 := Try.sizeOf58
  v72 := Try.zeroValue58
  t75 := Try.underlying63
  a75 := Try.isAgg63
  z75 := Try.sizeOf63
  v75 := Try.zeroValue63
  t164 := Try.underlying85
  a164 := Try.isAgg85
  z164 := Try.sizeOf85
  v164 := Try.zeroValue85 }
theorem Try.Builder_Extra_166 : Builder.Extra Try.prog Try.lays166_ren := {
  sizeBuilder := by kernel_rfl
  liesBuilder := by kernel_rfl
  t5 := Try.underlying5
  a5 := Try.isAgg5
  z5 := Try.sizeOf5
  v5 := Try.zeroValue5
  infoByte := by kernel_rfl
  cellsByte := by kernel_rfl
  sizeByte := by kernel_rfl
  neB5 := by decide }
open Go.RowKit in
theorem Try.Builder_WriteString_k (B b : Nat) (bs : List Value) (s : ByteArray) (w : World) (h : Lib.IsBuilderF 58 5 B b bs w) (hlen : bs.length + s.size ≤ 140737488355328) (hBw : B ≤ w.heap.size) :
    Calls Try.prog 34 #[.pointer (some ⟨b, 0, none⟩), .string s] w fun e w' => e = .returned (.tuple #[.int .i64 s.size, .nilIface]) ∧ (Lib.BuilderAtF 58 5 B b (.pointer (some ⟨b, 0, none⟩)) (bs ++ Lib.strCells s) w' ∧ Below B w w' ∧ Lib.OthersKept 5 (some b) w w') := Any.Builder_WriteString_k Try.lays166 Try.Builder_Extra_166 B b bs s w h hlen hBw
#print axioms Try.Builder_WriteString_k
end Go.Proofs
