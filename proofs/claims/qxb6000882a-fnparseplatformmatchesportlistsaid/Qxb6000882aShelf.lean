/-
  The library contracts that this seat uses, laid at its program in plain words (by the kit's shelf tools; trimmed to what is used).
-/
import Derived.Shelf.Strings.Search1
import Derived.Shelf.Strings.Search2
import Derived.Shelf.Strings.Search3
import Derived.Shelf.Strings.Cut
import Derived.Shelf.LaysM
import Derived.Shelf.Strings.Shaped
import Derived.Test.Qxb6000882aProg
namespace Go.Proofs
open Go.Shelf
def Try.lays144_ren : Go.Shelf.Ren := ⟨fun | 144 => 16 | 143 => 18 | 219 => 17 | 217 => 19 | 225 => 20 | 224 => 21 | 267 => 22 | 266 => 23 | 314 => 24 | n => n, fun | 9 => 9 | 4 => 4 | 3 => 3 | 5 => 5 | 46 => 34 | 146 => 36 | 51 => 35 | n => n, fun | 1 => 0 | n => n⟩
theorem Try.lays144 : Go.Proofs.Lays.n144 Try.prog Try.lays144_ren := {
  mixed := by kernel_rfl
  f143 := Try.func18.trans (congrArg some (by kernel_rfl))
  f144 := Try.func16.trans (congrArg some (by kernel_rfl))
  f217 := Try.func19.trans (congrArg some (by kernel_rfl))
  f219 := Try.func17.trans (congrArg some (by kernel_rfl))
  f224 := Try.func21.trans (congrArg some (by kernel_rfl))
  f225 := Try.func20.trans (congrArg some (by kernel_rfl))
  f266 := Try.func23.trans (congrArg some (by kernel_rfl))
  f267 := Try.func22.trans (congrArg some (by kernel_rfl))
  f314 := Try.func24.trans (congrArg some (by kernel_rfl))
  t3 := Try.underlying3
  a3 := Try.isAgg3
  z3 := Try.sizeOf3
  v3 := Try.zeroValue3
  t4 := Try.underlying4
  a4 := Try.isAgg4
  z4 := Try.sizeOf4
  v4 := Try.zeroValue4
  t5 := Try.underlying5
  a5 := Try.isAgg5
  z5 := Try.sizeOf5
  v5 := Try.zeroValue5
  t9 := Try.underlying9
  a9 := Try.isAgg9
  z9 := Try.sizeOf9
  v9 := Try.zeroValue9
  t46 := Try.underlying34
  a46 := Try.isAgg34
  z46 := Try.sizeOf34
  v46 := Try.zeroValue34
  t51 := Try.underlying35
  a51 := Try.isAgg35
  z51 := Try.sizeOf35
  v51 := Try.zeroValue35
  t146 := Try.underlying36
  a146 := Try.isAgg36
  z146 := Try.sizeOf36
  v146 := Try.zeroValue36
  g1 := by kernel_rfl }
open Go.RowKit Go.Lib in
theorem Try.strings_Contains (s sub : ByteArray) (m : Int) (w : World) (hs : s.size < 4294967281) (hm : w.cell? ⟨0, 0, none⟩ = some (.int .i64 m)) :
    Calls Try.prog 16 #[.string s, .string sub] w fun e w' => e = .returned (.bool (Lib.contains s.data.toList sub.data.toList)) ∧ w' = w := Any.strings_Contains Try.lays144 s sub m w hs hm
def Try.lays145_ren : Go.Shelf.Ren := ⟨fun | 145 => 11 | 220 => 14 | 219 => 17 | 217 => 19 | 225 => 20 | 224 => 21 | 267 => 22 | 266 => 23 | 314 => 24 | n => n, fun | 9 => 9 | 4 => 4 | 59 => 27 | 3 => 3 | 5 => 5 | 46 => 34 | 146 => 36 | 51 => 35 | n => n, fun | 1 => 0 | n => n⟩
theorem Try.lays145 : Go.Proofs.Lays.n145 Try.prog Try.lays145_ren := {
  mixed := by kernel_rfl
  f145 := Try.func11.trans (congrArg some (by kernel_rfl))
  f217 := Try.func19.trans (congrArg some (by kernel_rfl))
  f219 := Try.func17.trans (congrArg some (by kernel_rfl))
  f220 := Try.func14.trans (congrArg some (by kernel_rfl))
  f224 := Try.func21.trans (congrArg some (by kernel_rfl))
  f225 := Try.func20.trans (congrArg some (by kernel_rfl))
  f266 := Try.func23.trans (congrArg some (by kernel_rfl))
  f267 := Try.func22.trans (congrArg some (by kernel_rfl))
  f314 := Try.func24.trans (congrArg some (by kernel_rfl))
  t3 := Try.underlying3
  a3 := Try.isAgg3
  z3 := Try.sizeOf3
  v3 := Try.zeroValue3
  t4 := Try.underlying4
  a4 := Try.isAgg4
  z4 := Try.sizeOf4
  v4 := Try.zeroValue4
  t5 := Try.underlying5
  a5 := Try.isAgg5
  z5 := Try.sizeOf5
  v5 := Try.zeroValue5
  t9 := Try.underlying9
  a9 := Try.isAgg9
  z9 := Try.sizeOf9
  v9 := Try.zeroValue9
  t46 := Try.underlying34
  a46 := Try.isAgg34
  z46 := Try.sizeOf34
  v46 := Try.zeroValue34
  t51 := Try.underlying35
  a51 := Try.isAgg35
  z51 := Try.sizeOf35
  v51 := Try.zeroValue35
  t59 := Try.underlying27
  a59 := Try.isAgg27
  z59 := Try.sizeOf27
  v59 := Try.zeroValue27
  t146 := Try.underlying36
  a146 := Try.isAgg36
  z146 := Try.sizeOf36
  v146 := Try.zeroValue36
  g1 := by kernel_rfl }
open Go.RowKit Go.Lib in
theorem Try.strings_Cut (s sep : ByteArray) (m : Int) (w : World) (hs : s.size < 4294967281) (hm : w.cell? ⟨0, 0, none⟩ = some (.int .i64 m)) :
    Calls Try.prog 11 #[.string s, .string sep] w fun e w' => e = .returned (.tuple #[.string ⟨(Lib.cut s.data.toList sep.data.toList).1.toArray⟩, .string ⟨(Lib.cut s.data.toList sep.data.toList).2.1.toArray⟩, .bool (Lib.cut s.data.toList sep.data.toList).2.2]) ∧ ∃ n, w' = w.drewN n := Any.strings_Cut Try.lays145 s sep m w hs hm
def Try.laysM144_ren : Go.Shelf.Ren := ⟨fun | 144 => 16 | 143 => 18 | 219 => 17 | 217 => 19 | 225 => 20 | 224 => 21 | 267 => 22 | 266 => 23 | 314 => 24 | n => n, fun | 9 => 9 | 4 => 4 | 3 => 3 | 5 => 5 | 46 => 34 | 146 => 36 | 51 => 35 | n => n, fun | 1 => 0 | n => n⟩
theorem Try.laysM144 : Go.Proofs.LaysM.n144 Try.prog Try.laysM144_ren := {
  mixed := by kernel_rfl
  f143 := Try.func18.trans (congrArg some (by kernel_rfl))
  f144 := Try.func16.trans (congrArg some (by kernel_rfl))
  f217 := Try.func19.trans (congrArg some (by kernel_rfl))
  f219 := Try.func17.trans (congrArg some (by kernel_rfl))
  f224 := Try.func21.trans (congrArg some (by kernel_rfl))
  f225 := Try.func20.trans (congrArg some (by kernel_rfl))
  f266 := Try.func23.trans (congrArg some (by kernel_rfl))
  f267 := Try.func22.trans (congrArg some (by kernel_rfl))
  f314 := Try.func24.trans (congrArg some (by kernel_rfl))
  t3 := Try.underlying3
  a3 := Try.isAgg3
  z3 := Try.sizeOf3
  v3 := Try.zeroValue3
  t4 := Try.underlying4
  a4 := Try.isAgg4
  z4 := Try.sizeOf4
  v4 := Try.zeroValue4
  t5 := Try.underlying5
  a5 := Try.isAgg5
  z5 := Try.sizeOf5
  v5 := Try.zeroValue5
  t9 := Try.underlying9
  a9 := Try.isAgg9
  z9 := Try.sizeOf9
  v9 := Try.zeroValue9
  t46 := Try.underlying34
  a46 := Try.isAgg34
  z46 := Try.sizeOf34
  v46 := Try.zeroValue34
  t51 := Try.underlying35
  a51 := Try.isAgg35
  z51 := Try.sizeOf35
  v51 := Try.zeroValue35
  t146 := Try.underlying36
  a146 := Try.isAgg36
  z146 := Try.sizeOf36
  v146 := Try.zeroValue36
  g1 := by kernel_rfl
  i3 := by kernel_rfl
  i4 := by kernel_rfl
  i5 := by kernel_rfl
  i9 := by kernel_rfl
  i46 := by kernel_rfl
  i51 := by kernel_rfl
  i146 := by kernel_rfl
  m1 := by kernel_rfl
  s1_3 := fun w h => Go.Proofs.cell_of_shapedOpen_int (zero := #[.int .i64 0]) (t := 3) h (of_decide_eq_true (by kernel_rfl)) (by kernel_rfl) rfl (by kernel_rfl) (by kernel_rfl) Try.underlying3 }
end Go.Proofs
