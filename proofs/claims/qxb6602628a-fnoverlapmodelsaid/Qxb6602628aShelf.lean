/-
  THE SHELF's CONTRACTS AT THIS DUMP, IN PLAIN WORDS: written by the kit's lay-shelf.mjs and lay-plain.mjs for this program; what this seat does not use is struck.
-/
import Derived.Shelf.Strings.Search1
import Derived.Shelf.Strings.Search2
import Derived.Shelf.Strings.Cut
import Derived.Shelf.LaysM
import Derived.Shelf.Strings.Shaped
import Derived.Test.Qxb6602628aProg
namespace Go.Proofs
open Go.Shelf
def Try.lays145_ren : Go.Shelf.Ren := ⟨fun | 145 => 11 | 220 => 14 | 219 => 15 | 217 => 16 | 225 => 17 | 224 => 18 | 267 => 19 | 266 => 20 | 314 => 21 | n => n, fun | 9 => 9 | 4 => 4 | 59 => 24 | 3 => 3 | 5 => 5 | 46 => 31 | 146 => 33 | 51 => 32 | n => n, fun | 1 => 0 | n => n⟩
theorem Try.lays145 : Go.Proofs.Lays.n145 Try.prog Try.lays145_ren := {
  mixed := by kernel_rfl
  f145 := Try.func11.trans (congrArg some (by kernel_rfl))
  f217 := Try.func16.trans (congrArg some (by kernel_rfl))
  f219 := Try.func15.trans (congrArg some (by kernel_rfl))
  f220 := Try.func14.trans (congrArg some (by kernel_rfl))
  f224 := Try.func18.trans (congrArg some (by kernel_rfl))
  f225 := Try.func17.trans (congrArg some (by kernel_rfl))
  f266 := Try.func20.trans (congrArg some (by kernel_rfl))
  f267 := Try.func19.trans (congrArg some (by kernel_rfl))
  f314 := Try.func21.trans (congrArg some (by kernel_rfl))
  t3 := Try.underlying3
  a3 := Try.isAgg3
  z3 := Try.sizeOf3
  v3 := Try.zeroValue3
  t4 := Try.underlying4
  a4 := Try.isAgg4
  z4 := Try.sizeOf4
  v4 := Try.zeroValue4
  t5 := Try.underlying5
  a5 := Try.isAgg5
  z5 := Try.sizeOf5
  v5 := Try.zeroValue5
  t9 := Try.underlying9
  a9 := Try.isAgg9
  z9 := Try.sizeOf9
  v9 := Try.zeroValue9
  t46 := Try.underlying31
  a46 := Try.isAgg31
  z46 := Try.sizeOf31
  v46 := Try.zeroValue31
  t51 := Try.underlying32
  a51 := Try.isAgg32
  z51 := Try.sizeOf32
  v51 := Try.zeroValue32
  t59 := Try.underlying24
  a59 := Try.isAgg24
  z59 := Try.sizeOf24
  v59 := Try.zeroValue24
  t146 := Try.underlying33
  a146 := Try.isAgg33
  z146 := Try.sizeOf33
  v146 := Try.zeroValue33
  g1 := by kernel_rfl }
open Go.RowKit Go.Lib in
theorem Try.strings_Cut (s sep : ByteArray) (m : Int) (w : World) (hs : s.size < 4294967281) (hm : w.cell? ⟨0, 0, none⟩ = some (.int .i64 m)) :
    Calls Try.prog 11 #[.string s, .string sep] w fun e w' => e = .returned (.tuple #[.string ⟨(Lib.cut s.data.toList sep.data.toList).1.toArray⟩, .string ⟨(Lib.cut s.data.toList sep.data.toList).2.1.toArray⟩, .bool (Lib.cut s.data.toList sep.data.toList).2.2]) ∧ ∃ n, w' = w.drewN n := Any.strings_Cut Try.lays145 s sep m w hs hm
def Try.laysM145_ren : Go.Shelf.Ren := ⟨fun | 145 => 11 | 220 => 14 | 219 => 15 | 217 => 16 | 225 => 17 | 224 => 18 | 267 => 19 | 266 => 20 | 314 => 21 | n => n, fun | 9 => 9 | 4 => 4 | 59 => 24 | 3 => 3 | 5 => 5 | 46 => 31 | 146 => 33 | 51 => 32 | n => n, fun | 1 => 0 | n => n⟩
theorem Try.laysM145 : Go.Proofs.LaysM.n145 Try.prog Try.laysM145_ren := {
  mixed := by kernel_rfl
  f145 := Try.func11.trans (congrArg some (by kernel_rfl))
  f217 := Try.func16.trans (congrArg some (by kernel_rfl))
  f219 := Try.func15.trans (congrArg some (by kernel_rfl))
  f220 := Try.func14.trans (congrArg some (by kernel_rfl))
  f224 := Try.func18.trans (congrArg some (by kernel_rfl))
  f225 := Try.func17.trans (congrArg some (by kernel_rfl))
  f266 := Try.func20.trans (congrArg some (by kernel_rfl))
  f267 := Try.func19.trans (congrArg some (by kernel_rfl))
  f314 := Try.func21.trans (congrArg some (by kernel_rfl))
  t3 := Try.underlying3
  a3 := Try.isAgg3
  z3 := Try.sizeOf3
  v3 := Try.zeroValue3
  t4 := Try.underlying4
  a4 := Try.isAgg4
  z4 := Try.sizeOf4
  v4 := Try.zeroValue4
  t5 := Try.underlying5
  a5 := Try.isAgg5
  z5 := Try.sizeOf5
  v5 := Try.zeroValue5
  t9 := Try.underlying9
  a9 := Try.isAgg9
  z9 := Try.sizeOf9
  v9 := Try.zeroValue9
  t46 := Try.underlying31
  a46 := Try.isAgg31
  z46 := Try.sizeOf31
  v46 := Try.zeroValue31
  t51 := Try.underlying32
  a51 := Try.isAgg32
  z51 := Try.sizeOf32
  v51 := Try.zeroValue32
  t59 := Try.underlying24
  a59 := Try.isAgg24
  z59 := Try.sizeOf24
  v59 := Try.zeroValue24
  t146 := Try.underlying33
  a146 := Try.isAgg33
  z146 := Try.sizeOf33
  v146 := Try.zeroValue33
  g1 := by kernel_rfl
  i3 := by kernel_rfl
  i4 := by kernel_rfl
  i5 := by kernel_rfl
  i9 := by kernel_rfl
  i46 := by kernel_rfl
  i51 := by kernel_rfl
  i59 := by kernel_rfl
  i146 := by kernel_rfl
  m1 := by kernel_rfl
  s1_3 := fun w h => Go.Proofs.cell_of_shapedOpen_int (zero := #[.int .i64 0]) (t := 3) h (of_decide_eq_true (by kernel_rfl)) (by kernel_rfl) rfl (by kernel_rfl) (by kernel_rfl) Try.underlying3 }
open Go.RowKit Go.Lib in
theorem Try.strings_Cut_shaped (s sep : ByteArray) (w : World) (h : w.ShapedOpen Try.prog) (hs : s.size < 4294967281) :
    Calls Try.prog 11 #[.string s, .string sep] w fun e w' => e = .returned (.tuple #[.string ⟨(Lib.cut s.data.toList sep.data.toList).1.toArray⟩, .string ⟨(Lib.cut s.data.toList sep.data.toList).2.1.toArray⟩, .bool (Lib.cut s.data.toList sep.data.toList).2.2]) ∧ ∃ n, w' = w.drewN n := Any.strings_Cut_shaped Try.laysM145 s sep w h hs
end Go.Proofs
