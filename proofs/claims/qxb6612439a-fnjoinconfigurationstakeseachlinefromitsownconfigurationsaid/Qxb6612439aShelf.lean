/-
  DERIVED: THE SHELF's CONTRACTS AT THIS DUMP, IN PLAIN WORDS (tools/lay-plain.mjs out of 'Qxb6612439aShelf.lean', which tools/lay-shelf.mjs wrote): THE SAME DECLARATIONS UNDER THE SAME NAMES: 'import', 'namespace', 'open', 'def', 'theorem' AND NOTHING ELSE: no command of the shelf's: FOR A HAND-IN. Each laying: the table of numbers ('.._ren') and one theorem, a field a fact of the dump's own or the kernel's comparison; each contract: ONE APPLICATION.
-/
import Derived.Shelf.SlGeneric
import Derived.Shelf.Strings.Builder1
import Derived.Shelf.Small.Strs
import Derived.Shelf.Strings.Cut
import Derived.Shelf.LaysM
import Derived.Shelf.Strings.Shaped
import Derived.Shelf.SlSortCmp.WholeK
import Derived.Shelf.SlSortCmp.NoneTotal
import Derived.Ground.SlsfProg
import Derived.Test.Qxb6612439aProg
namespace Go.Proofs
open Go.Shelf
def Try.lays169_ren : Go.Shelf.Ren := ⟨fun | 169 => 21 | n => n, fun | 70 => 54 | 9 => 9 | 0 => 0 | 72 => 56 | 37 => 36 | 127 => 67 | 3 => 3 | 5 => 5 | n => n, fun | n => n⟩
theorem Try.lays169 : Go.Proofs.Lays.n169 Try.prog Try.lays169_ren := {
  mixed := by kernel_rfl
  f169 := Try.func21.trans (congrArg some (by kernel_rfl))
  t0 := Try.underlying0
  a0 := Try.isAgg0
  z0 := Try.sizeOf0
  v0 := Try.zeroValue0
  t3 := Try.underlying3
  a3 := Try.isAgg3
  z3 := Try.sizeOf3
  v3 := Try.zeroValue3
  t9 := Try.underlying9
  a9 := Try.isAgg9
  z9 := Try.sizeOf9
  v9 := Try.zeroValue9
  t37 := Try.underlying36
  a37 := Try.isAgg36
  z37 := Try.sizeOf36
  v37 := Try.zeroValue36
  t70 := Try.underlying54
  a70 := Try.isAgg54
  z70 := Try.sizeOf54
  v70 := Try.zeroValue54
  t72 := Try.underlying56
  a72 := Try.isAgg56
  z72 := Try.sizeOf56
  v72 := Try.zeroValue56
  t127 := Try.underlying67
  a127 := Try.isAgg67
  z127 := Try.sizeOf67
  v127 := Try.zeroValue67 }
theorem Try.Builder_Extra_169 : Builder.Extra Try.prog Try.lays169_ren := {
  sizeBuilder := by kernel_rfl
  liesBuilder := by kernel_rfl
  t5 := Try.underlying5
  a5 := Try.isAgg5
  z5 := Try.sizeOf5
  v5 := Try.zeroValue5
  infoByte := by kernel_rfl
  cellsByte := by kernel_rfl
  sizeByte := by kernel_rfl
  neB5 := by decide }
open Go.RowKit Go.Lib in
theorem Try.Builder_String_any (B b : Nat) (l : List UInt8) (w : World) (h : Lib.IsBuilder 56 5 B b (Lib.byteCells l) w) (hBw : B ≤ w.heap.size) :
    Calls Try.prog 21 #[.pointer (some ⟨b, 0, none⟩)] w fun e w' => e = .returned (.string ⟨l.toArray⟩) ∧ Below B w w' := Any.Builder_String_any Try.lays169 Try.Builder_Extra_169 B b l w h hBw
def Try.lays106_ren : Go.Shelf.Ren := ⟨fun | 106 => 19 | 213 => 29 | 265 => 43 | n => n, fun | 9 => 9 | 3 => 3 | n => n, fun | n => n⟩
theorem Try.lays106 : Go.Proofs.Lays.n106 Try.prog Try.lays106_ren := {
  mixed := by kernel_rfl
  f106 := Try.func19.trans (congrArg some (by kernel_rfl))
  f213 := Try.func29.trans (congrArg some (by kernel_rfl))
  f265 := Try.func43.trans (congrArg some (by kernel_rfl))
  t3 := Try.underlying3
  a3 := Try.isAgg3
  z3 := Try.sizeOf3
  v3 := Try.zeroValue3
  t9 := Try.underlying9
  a9 := Try.isAgg9
  z9 := Try.sizeOf9
  v9 := Try.zeroValue9 }
open Go.RowKit Go.Lib in
theorem Try.strings_Compare (a b : ByteArray) (w : World) :
    Calls Try.prog 19 #[.string a, .string b] w fun e w' => e = .returned (.int .i64 (Lib.compareBytes a.data.toList b.data.toList)) ∧ w' = w := Any.strings_Compare Try.lays106 a b w
def Try.lays137_ren : Go.Shelf.Ren := ⟨fun | 137 => 25 | 217 => 31 | 266 => 45 | n => n, fun | 9 => 9 | 5 => 5 | 3 => 3 | n => n, fun | n => n⟩
theorem Try.lays137 : Go.Proofs.Lays.n137 Try.prog Try.lays137_ren := {
  mixed := by kernel_rfl
  f137 := Try.func25.trans (congrArg some (by kernel_rfl))
  f217 := Try.func31.trans (congrArg some (by kernel_rfl))
  f266 := Try.func45.trans (congrArg some (by kernel_rfl))
  t3 := Try.underlying3
  a3 := Try.isAgg3
  z3 := Try.sizeOf3
  v3 := Try.zeroValue3
  t5 := Try.underlying5
  a5 := Try.isAgg5
  z5 := Try.sizeOf5
  v5 := Try.zeroValue5
  t9 := Try.underlying9
  a9 := Try.isAgg9
  z9 := Try.sizeOf9
  v9 := Try.zeroValue9 }
open Go.RowKit Go.Lib in
theorem Try.strings_IndexByte (s : ByteArray) (c : Int) (w : World) :
    Calls Try.prog 25 #[.string s, .int .u8 c] w fun e w' => e = .returned (.int .i64 (Lib.indexByte s.data.toList c.toNat.toUInt8)) ∧ w' = w := Any.strings_IndexByte Try.lays137 s c w
def Try.lays145_ren : Go.Shelf.Ren := ⟨fun | 145 => 16 | 220 => 26 | 219 => 32 | 217 => 31 | 225 => 46 | 224 => 47 | 267 => 48 | 266 => 45 | 314 => 54 | n => n, fun | 9 => 9 | 4 => 4 | 59 => 47 | 3 => 3 | 5 => 5 | 46 => 66 | 146 => 89 | 51 => 77 | n => n, fun | 1 => 0 | n => n⟩
theorem Try.lays145 : Go.Proofs.Lays.n145 Try.prog Try.lays145_ren := {
  mixed := by kernel_rfl
  f145 := Try.func16.trans (congrArg some (by kernel_rfl))
  f217 := Try.func31.trans (congrArg some (by kernel_rfl))
  f219 := Try.func32.trans (congrArg some (by kernel_rfl))
  f220 := Try.func26.trans (congrArg some (by kernel_rfl))
  f224 := Try.func47.trans (congrArg some (by kernel_rfl))
  f225 := Try.func46.trans (congrArg some (by kernel_rfl))
  f266 := Try.func45.trans (congrArg some (by kernel_rfl))
  f267 := Try.func48.trans (congrArg some (by kernel_rfl))
  f314 := Try.func54.trans (congrArg some (by kernel_rfl))
  t3 := Try.underlying3
  a3 := Try.isAgg3
  z3 := Try.sizeOf3
  v3 := Try.zeroValue3
  t4 := Try.underlying4
  a4 := Try.isAgg4
  z4 := Try.sizeOf4
  v4 := Try.zeroValue4
  t5 := Try.underlying5
  a5 := Try.isAgg5
  z5 := Try.sizeOf5
  v5 := Try.zeroValue5
  t9 := Try.underlying9
  a9 := Try.isAgg9
  z9 := Try.sizeOf9
  v9 := Try.zeroValue9
  t46 := Try.underlying66
  a46 := Try.isAgg66
  z46 := Try.sizeOf66
  v46 := Try.zeroValue66
  t51 := Try.underlying77
  a51 := Try.isAgg77
  z51 := Try.sizeOf77
  v51 := Try.zeroValue77
  t59 := Try.underlying47
  a59 := Try.isAgg47
  z59 := Try.sizeOf47
  v59 := Try.zeroValue47
  t146 := Try.underlying89
  a146 := Try.isAgg89
  z146 := Try.sizeOf89
  v146 := Try.zeroValue89
  g1 := by kernel_rfl }
open Go.RowKit Go.Lib in
theorem Try.strings_Cut (s sep : ByteArray) (m : Int) (w : World) (hs : s.size < 4294967281) (hm : w.cell? ⟨0, 0, none⟩ = some (.int .i64 m)) :
    Calls Try.prog 16 #[.string s, .string sep] w fun e w' => e = .returned (.tuple #[.string ⟨(Lib.cut s.data.toList sep.data.toList).1.toArray⟩, .string ⟨(Lib.cut s.data.toList sep.data.toList).2.1.toArray⟩, .bool (Lib.cut s.data.toList sep.data.toList).2.2]) ∧ ∃ n, w' = w.drewN n := Any.strings_Cut Try.lays145 s sep m w hs hm
def Try.laysM145_ren : Go.Shelf.Ren := ⟨fun | 145 => 16 | 220 => 26 | 219 => 32 | 217 => 31 | 225 => 46 | 224 => 47 | 267 => 48 | 266 => 45 | 314 => 54 | n => n, fun | 9 => 9 | 4 => 4 | 59 => 47 | 3 => 3 | 5 => 5 | 46 => 66 | 146 => 89 | 51 => 77 | n => n, fun | 1 => 0 | n => n⟩
theorem Try.laysM145 : Go.Proofs.LaysM.n145 Try.prog Try.laysM145_ren := {
  mixed := by kernel_rfl
  f145 := Try.func16.trans (congrArg some (by kernel_rfl))
  f217 := Try.func31.trans (congrArg some (by kernel_rfl))
  f219 := Try.func32.trans (congrArg some (by kernel_rfl))
  f220 := Try.func26.trans (congrArg some (by kernel_rfl))
  f224 := Try.func47.trans (congrArg some (by kernel_rfl))
  f225 := Try.func46.trans (congrArg some (by kernel_rfl))
  f266 := Try.func45.trans (congrArg some (by kernel_rfl))
  f267 := Try.func48.trans (congrArg some (by kernel_rfl))
  f314 := Try.func54.trans (congrArg some (by kernel_rfl))
  t3 := Try.underlying3
  a3 := Try.isAgg3
  z3 := Try.sizeOf3
  v3 := Try.zeroValue3
  t4 := Try.underlying4
  a4 := Try.isAgg4
  z4 := Try.sizeOf4
  v4 := Try.zeroValue4
  t5 := Try.underlying5
  a5 := Try.isAgg5
  z5 := Try.sizeOf5
  v5 := Try.zeroValue5
  t9 := Try.underlying9
  a9 := Try.isAgg9
  z9 := Try.sizeOf9
  v9 := Try.zeroValue9
  t46 := Try.underlying66
  a46 := Try.isAgg66
  z46 := Try.sizeOf66
  v46 := Try.zeroValue66
  t51 := Try.underlying77
  a51 := Try.isAgg77
  z51 := Try.sizeOf77
  v51 := Try.zeroValue77
  t59 := Try.underlying47
  a59 := Try.isAgg47
  z59 := Try.sizeOf47
  v59 := Try.zeroValue47
  t146 := Try.underlying89
  a146 := Try.isAgg89
  z146 := Try.sizeOf89
  v146 := Try.zeroValue89
  g1 := by kernel_rfl
  i3 := by kernel_rfl
  i4 := by kernel_rfl
  i5 := by kernel_rfl
  i9 := by kernel_rfl
  i46 := by kernel_rfl
  i51 := by kernel_rfl
  i59 := by kernel_rfl
  i146 := by kernel_rfl
  m1 := by kernel_rfl
  s1_3 := fun w h => Go.Proofs.cell_of_shapedOpen_int (zero := #[.int .i64 0]) (t := 3) h (of_decide_eq_true (by kernel_rfl)) (by kernel_rfl) rfl (by kernel_rfl) (by kernel_rfl) Try.underlying3 }
open Go.RowKit Go.Lib in
theorem Try.maxLen_shaped (w : World) (h : w.ShapedOpen Try.prog) : ∃ m, w.cell? ⟨0, 0, none⟩ = some (.int .i64 m) := Try.laysM145.s1_3 w h
def Try.lays166_ren : Go.Shelf.Ren := ⟨fun | 166 => 20 | 240 => 30 | 276 => 44 | n => n, fun | 70 => 54 | 9 => 9 | 0 => 0 | 72 => 56 | 37 => 36 | 3 => 3 | 5 => 5 | 4 => 4 | 20 => 20 | 75 => 58 | 80 => 61 | 164 => 80 | n => n, fun | n => n⟩
theorem Try.lays166 : Go.Proofs.Lays.n166 Try.prog Try.lays166_ren := {
  mixed := by kernel_rfl
  f166 := Try.func20.trans (congrArg some (by kernel_rfl))
  f240 := Try.func30.trans (congrArg some (by kernel_rfl))
  f276 := Try.func44.trans (congrArg some (by kernel_rfl))
  t0 := Try.underlying0
  a0 := Try.isAgg0
  z0 := Try.sizeOf0
  v0 := Try.zeroValue0
  t3 := Try.underlying3
  a3 := Try.isAgg3
  z3 := Try.sizeOf3
  v3 := Try.zeroValue3
  t4 := Try.underlying4
  a4 := Try.isAgg4
  z4 := Try.sizeOf4
  v4 := Try.zeroValue4
  t9 := Try.underlying9
  a9 := Try.isAgg9
  z9 := Try.sizeOf9
  v9 := Try.zeroValue9
  t20 := Try.underlying20
  a20 := Try.isAgg20
  z20 := Try.sizeOf20
  v20 := Try.zeroValue20
  t37 := Try.underlying36
  a37 := Try.isAgg36
  z37 := Try.sizeOf36
  v37 := Try.zeroValue36
  t70 := Try.underlying54
  a70 := Try.isAgg54
  z70 := Try.sizeOf54
  v70 := Try.zeroValue54
  t72 := Try.underlying56
  a72 := Try.isAgg56
  z72 := Try.sizeOf56
  v72 := Try.zeroValue56
  t75 := Try.underlying58
  a75 := Try.isAgg58
  z75 := Try.sizeOf58
  v75 := Try.zeroValue58
  t164 := Try.underlying80
  a164 := Try.isAgg80
  z164 := Try.sizeOf80
  v164 := Try.zeroValue80
}
theorem Try.Builder_Extra_166 : Builder.Extra Try.prog Try.lays166_ren := {
  sizeBuilder := by kernel_rfl
  liesBuilder := by kernel_rfl
  t5 := Try.underlying5
  a5 := Try.isAgg5
  z5 := Try.sizeOf5
  v5 := Try.zeroValue5
  infoByte := by kernel_rfl
  cellsByte := by kernel_rfl
  neB5 := by decide
  sizeByte := by kernel_rfl
}
open Go.RowKit Go.Lib in
theorem Try.Builder_WriteString (B b : Nat) (bs : List Value) (s : ByteArray) (w : World) (h : Lib.IsBuilder 56 5 B b bs w) (hlen : bs.length + s.size ≤ 140737488355328) (hBw : B ≤ w.heap.size) :
    Calls Try.prog 20 #[.pointer (some ⟨b, 0, none⟩), .string s] w fun e w' => e = .returned (.tuple #[.int .i64 s.size, .nilIface]) ∧ (Lib.BuilderAt 56 5 B b (.pointer (some ⟨b, 0, none⟩)) (bs ++ Lib.strCells s) w' ∧ Below B w w') := Any.Builder_WriteString Try.lays166 Try.Builder_Extra_166 B b bs s w h hlen hBw
end Go.Proofs
