/-
  DERIVED: LAID BY THE KIT's OWN TOOLS (lay-shelf.mjs, then lay-plain.mjs) at this seat's dump; only what the proofs need is kept.
-/
import Derived.Shelf.Strings.Search3
import Derived.Shelf.LaysM
import Derived.Shelf.Strings.Shaped
import Derived.Shelf.Strings.Prefix
import Derived.Test.Qxb6001106aProg
namespace Go.Proofs
open Go.Shelf
def Try.lays143_ren : Go.Shelf.Ren := ⟨fun | 143 => 41 | 219 => 46 | 217 => 48 | 225 => 49 | 224 => 50 | 267 => 51 | 266 => 55 | 314 => 56 | n => n, fun | 9 => 9 | 3 => 3 | 4 => 4 | 5 => 5 | 46 => 70 | 146 => 80 | 51 => 79 | n => n, fun | 1 => 0 | n => n⟩
theorem Try.lays143 : Go.Proofs.Lays.n143 Try.prog Try.lays143_ren := {
  mixed := by kernel_rfl
  f143 := Try.func41.trans (congrArg some (by kernel_rfl))
  f217 := Try.func48.trans (congrArg some (by kernel_rfl))
  f219 := Try.func46.trans (congrArg some (by kernel_rfl))
  f224 := Try.func50.trans (congrArg some (by kernel_rfl))
  f225 := Try.func49.trans (congrArg some (by kernel_rfl))
  f266 := Try.func55.trans (congrArg some (by kernel_rfl))
  f267 := Try.func51.trans (congrArg some (by kernel_rfl))
  f314 := Try.func56.trans (congrArg some (by kernel_rfl))
  t3 := Try.underlying3
  a3 := Try.isAgg3
  z3 := Try.sizeOf3
  v3 := Try.zeroValue3
  t4 := Try.underlying4
  a4 := Try.isAgg4
  z4 := Try.sizeOf4
  v4 := Try.zeroValue4
  t5 := Try.underlying5
  a5 := Try.isAgg5
  z5 := Try.sizeOf5
  v5 := Try.zeroValue5
  t9 := Try.underlying9
  a9 := Try.isAgg9
  z9 := Try.sizeOf9
  v9 := Try.zeroValue9
  t46 := Try.underlying70
  a46 := Try.isAgg70
  z46 := Try.sizeOf70
  v46 := Try.zeroValue70
  t51 := Try.underlying79
  a51 := Try.isAgg79
  z51 := Try.sizeOf79
  v51 := Try.zeroValue79
  t146 := Try.underlying80
  a146 := Try.isAgg80
  z146 := Try.sizeOf80
  v146 := Try.zeroValue80
  g1 := by kernel_rfl }
open Go.RowKit Go.Lib in
theorem Try.strings_Index (s sub : ByteArray) (m : Int) (w : World) (hs : s.size < 4294967281) (hm : w.cell? ⟨0, 0, none⟩ = some (.int .i64 m)) :
    Calls Try.prog 41 #[.string s, .string sub] w fun e w' => e = .returned (.int .i64 (Lib.index s.data.toList sub.data.toList)) ∧ w' = w := Any.strings_Index Try.lays143 s sub m w hs hm
def Try.laysM143_ren : Go.Shelf.Ren := ⟨fun | 143 => 41 | 219 => 46 | 217 => 48 | 225 => 49 | 224 => 50 | 267 => 51 | 266 => 55 | 314 => 56 | n => n, fun | 9 => 9 | 3 => 3 | 4 => 4 | 5 => 5 | 46 => 70 | 146 => 80 | 51 => 79 | n => n, fun | 1 => 0 | n => n⟩
theorem Try.laysM143 : Go.Proofs.LaysM.n143 Try.prog Try.laysM143_ren := {
  mixed := by kernel_rfl
  f143 := Try.func41.trans (congrArg some (by kernel_rfl))
  f217 := Try.func48.trans (congrArg some (by kernel_rfl))
  f219 := Try.func46.trans (congrArg some (by kernel_rfl))
  f224 := Try.func50.trans (congrArg some (by kernel_rfl))
  f225 := Try.func49.trans (congrArg some (by kernel_rfl))
  f266 := Try.func55.trans (congrArg some (by kernel_rfl))
  f267 := Try.func51.trans (congrArg some (by kernel_rfl))
  f314 := Try.func56.trans (congrArg some (by kernel_rfl))
  t3 := Try.underlying3
  a3 := Try.isAgg3
  z3 := Try.sizeOf3
  v3 := Try.zeroValue3
  t4 := Try.underlying4
  a4 := Try.isAgg4
  z4 := Try.sizeOf4
  v4 := Try.zeroValue4
  t5 := Try.underlying5
  a5 := Try.isAgg5
  z5 := Try.sizeOf5
  v5 := Try.zeroValue5
  t9 := Try.underlying9
  a9 := Try.isAgg9
  z9 := Try.sizeOf9
  v9 := Try.zeroValue9
  t46 := Try.underlying70
  a46 := Try.isAgg70
  z46 := Try.sizeOf70
  v46 := Try.zeroValue70
  t51 := Try.underlying79
  a51 := Try.isAgg79
  z51 := Try.sizeOf79
  v51 := Try.zeroValue79
  t146 := Try.underlying80
  a146 := Try.isAgg80
  z146 := Try.sizeOf80
  v146 := Try.zeroValue80
  g1 := by kernel_rfl
  i3 := by kernel_rfl
  i4 := by kernel_rfl
  i5 := by kernel_rfl
  i9 := by kernel_rfl
  i46 := by kernel_rfl
  i51 := by kernel_rfl
  i146 := by kernel_rfl
  m1 := by kernel_rfl
  s1_3 := fun w h => Go.Proofs.cell_of_shapedOpen_int (zero := #[.int .i64 0]) (t := 3) h (of_decide_eq_true (by kernel_rfl)) (by kernel_rfl) rfl (by kernel_rfl) (by kernel_rfl) Try.underlying3 }
def Try.lays99_ren : Go.Shelf.Ren := ⟨fun | 99 => 39 | 206 => 44 | n => n, fun | 9 => 9 | 4 => 4 | 3 => 3 | n => n, fun | n => n⟩
theorem Try.lays99 : Go.Proofs.Lays.n99 Try.prog Try.lays99_ren := {
  mixed := by kernel_rfl
  f99 := Try.func39.trans (congrArg some (by kernel_rfl))
  f206 := Try.func44.trans (congrArg some (by kernel_rfl))
  t3 := Try.underlying3
  a3 := Try.isAgg3
  z3 := Try.sizeOf3
  v3 := Try.zeroValue3
  t4 := Try.underlying4
  a4 := Try.isAgg4
  z4 := Try.sizeOf4
  v4 := Try.zeroValue4
  t9 := Try.underlying9
  a9 := Try.isAgg9
  z9 := Try.sizeOf9
  v9 := Try.zeroValue9 }
open Go.RowKit Go.Lib in
theorem Try.strings_HasPrefix (s p : ByteArray) (w : World) :
    Calls Try.prog 39 #[.string s, .string p] w fun e w' => e = .returned (.bool (Lib.hasPrefix s.data.toList p.data.toList)) ∧ w' = w := Any.strings_HasPrefix Try.lays99 s p w
def Try.lays100_ren : Go.Shelf.Ren := ⟨fun | 100 => 40 | 207 => 45 | n => n, fun | 9 => 9 | 4 => 4 | 3 => 3 | n => n, fun | n => n⟩
theorem Try.lays100 : Go.Proofs.Lays.n100 Try.prog Try.lays100_ren := {
  mixed := by kernel_rfl
  f100 := Try.func40.trans (congrArg some (by kernel_rfl))
  f207 := Try.func45.trans (congrArg some (by kernel_rfl))
  t3 := Try.underlying3
  a3 := Try.isAgg3
  z3 := Try.sizeOf3
  v3 := Try.zeroValue3
  t4 := Try.underlying4
  a4 := Try.isAgg4
  z4 := Try.sizeOf4
  v4 := Try.zeroValue4
  t9 := Try.underlying9
  a9 := Try.isAgg9
  z9 := Try.sizeOf9
  v9 := Try.zeroValue9 }
open Go.RowKit Go.Lib in
theorem Try.strings_HasSuffix (s p : ByteArray) (w : World) (hs : s.size ≤ 9223372036854775807) :
    Calls Try.prog 40 #[.string s, .string p] w fun e w' => e = .returned (.bool (Lib.hasSuffix s.data.toList p.data.toList)) ∧ w' = w := Any.strings_HasSuffix Try.lays100 s p w hs
end Go.Proofs
