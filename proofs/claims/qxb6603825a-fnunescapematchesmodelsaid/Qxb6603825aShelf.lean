/-
  Seat b6603825a: the shelf's contracts for strings.Builder and strings.IndexByte AT THIS DUMP, laid by hand in plain words: ONE table of numbers for all closures (the kit's laying command reads the table off the bodies and finds no row for types 9 and 20 in copyCheck's own closure, whose panic the loader has refused).
-/
import Derived.Shelf.Strings.Builder1
import Derived.Shelf.Strings.Builder2
import Derived.Shelf.Small.Strs
import Derived.Test.Qxb6603825aProg
namespace Go.Proofs.Qxb6603825a
open Go.Shelf Go.RowKit

/-- Which number a function, a type of the shelf's dump of names bears in this dump. -/
def ren : Ren := ⟨fun | 137 => 24 | 165 => 23 | 166 => 25 | 167 => 27 | 169 => 26 | 217 => 30 | 240 => 28 | 241 => 29 | 266 => 33 | 276 => 31 | 277 => 32 | n => n, fun | 0 => 0 | 3 => 3 | 4 => 4 | 5 => 5 | 9 => 9 | 20 => 20 | 37 => 28 | 70 => 36 | 72 => 38 | 75 => 42 | 80 => 45 | 127 => 47 | 164 => 48 | n => n, fun | n => n⟩
theorem lays165 : Lays.n165 Try.prog ren := {
  mixed := by kernel_rfl
  f165 := Try.func23.trans (congrArg some (by kernel_rfl))
  f240 := Try.func28.trans (congrArg some (by kernel_rfl))
  f241 := Try.func29.trans (congrArg some (by kernel_rfl))
  f276 := Try.func31.trans (congrArg some (by kernel_rfl))
  f277 := Try.func32.trans (congrArg some (by kernel_rfl))
  t0 := Try.underlying0
  a0 := Try.isAgg0
  z0 := Try.sizeOf0
  v0 := Try.zeroValue0
  t3 := Try.underlying3
  a3 := Try.isAgg3
  z3 := Try.sizeOf3
  v3 := Try.zeroValue3
  t4 := Try.underlying4
  a4 := Try.isAgg4
  z4 := Try.sizeOf4
  v4 := Try.zeroValue4
  t9 := Try.underlying9
  a9 := Try.isAgg9
  z9 := Try.sizeOf9
  v9 := Try.zeroValue9
  t20 := Try.underlying20
  a20 := Try.isAgg20
  z20 := Try.sizeOf20
  v20 := Try.zeroValue20
  t37 := Try.underlying28
  a37 := Try.isAgg28
  z37 := Try.sizeOf28
  v37 := Try.zeroValue28
  t70 := Try.underlying36
  a70 := Try.isAgg36
  z70 := Try.sizeOf36
  v70 := Try.zeroValue36
  t72 := Try.underlying38
  a72 := Try.isAgg38
  z72 := Try.sizeOf38
  v72 := Try.zeroValue38
  t164 := Try.underlying48
  a164 := Try.isAgg48
  z164 := Try.sizeOf48
  v164 := Try.zeroValue48 }
theorem lays166 : Lays.n166 Try.prog ren := {
  mixed := by kernel_rfl
  f166 := Try.func25.trans (congrArg some (by kernel_rfl))
  f240 := Try.func28.trans (congrArg some (by kernel_rfl))
  f276 := Try.func31.trans (congrArg some (by kernel_rfl))
  t0 := Try.underlying0
  a0 := Try.isAgg0
  z0 := Try.sizeOf0
  v0 := Try.zeroValue0
  t3 := Try.underlying3
  a3 := Try.isAgg3
  z3 := Try.sizeOf3
  v3 := Try.zeroValue3
  t4 := Try.underlying4
  a4 := Try.isAgg4
  z4 := Try.sizeOf4
  v4 := Try.zeroValue4
  t9 := Try.underlying9
  a9 := Try.isAgg9
  z9 := Try.sizeOf9
  v9 := Try.zeroValue9
  t20 := Try.underlying20
  a20 := Try.isAgg20
  z20 := Try.sizeOf20
  v20 := Try.zeroValue20
  t37 := Try.underlying28
  a37 := Try.isAgg28
  z37 := Try.sizeOf28
  v37 := Try.zeroValue28
  t70 := Try.underlying36
  a70 := Try.isAgg36
  z70 := Try.sizeOf36
  v70 := Try.zeroValue36
  t72 := Try.underlying38
  a72 := Try.isAgg38
  z72 := Try.sizeOf38
  v72 := Try.zeroValue38
  t75 := Try.underlying42
  a75 := Try.isAgg42
  z75 := Try.sizeOf42
  v75 := Try.zeroValue42
  t164 := Try.underlying48
  a164 := Try.isAgg48
  z164 := Try.sizeOf48
  v164 := Try.zeroValue48 }
theorem lays167 : Lays.n167 Try.prog ren := {
  mixed := by kernel_rfl
  f167 := Try.func27.trans (congrArg some (by kernel_rfl))
  f240 := Try.func28.trans (congrArg some (by kernel_rfl))
  f276 := Try.func31.trans (congrArg some (by kernel_rfl))
  t0 := Try.underlying0
  a0 := Try.isAgg0
  z0 := Try.sizeOf0
  v0 := Try.zeroValue0
  t4 := Try.underlying4
  a4 := Try.isAgg4
  z4 := Try.sizeOf4
  v4 := Try.zeroValue4
  t5 := Try.underlying5
  a5 := Try.isAgg5
  z5 := Try.sizeOf5
  v5 := Try.zeroValue5
  t9 := Try.underlying9
  a9 := Try.isAgg9
  z9 := Try.sizeOf9
  v9 := Try.zeroValue9
  t20 := Try.underlying20
  a20 := Try.isAgg20
  z20 := Try.sizeOf20
  v20 := Try.zeroValue20
  t37 := Try.underlying28
  a37 := Try.isAgg28
  z37 := Try.sizeOf28
  v37 := Try.zeroValue28
  t70 := Try.underlying36
  a70 := Try.isAgg36
  z70 := Try.sizeOf36
  v70 := Try.zeroValue36
  t72 := Try.underlying38
  a72 := Try.isAgg38
  z72 := Try.sizeOf38
  v72 := Try.zeroValue38
  t75 := Try.underlying42
  a75 := Try.isAgg42
  z75 := Try.sizeOf42
  v75 := Try.zeroValue42
  t164 := Try.underlying48
  a164 := Try.isAgg48
  z164 := Try.sizeOf48
  v164 := Try.zeroValue48 }
theorem lays169 : Lays.n169 Try.prog ren := {
  mixed := by kernel_rfl
  f169 := Try.func26.trans (congrArg some (by kernel_rfl))
  t0 := Try.underlying0
  a0 := Try.isAgg0
  z0 := Try.sizeOf0
  v0 := Try.zeroValue0
  t3 := Try.underlying3
  a3 := Try.isAgg3
  z3 := Try.sizeOf3
  v3 := Try.zeroValue3
  t9 := Try.underlying9
  a9 := Try.isAgg9
  z9 := Try.sizeOf9
  v9 := Try.zeroValue9
  t37 := Try.underlying28
  a37 := Try.isAgg28
  z37 := Try.sizeOf28
  v37 := Try.zeroValue28
  t70 := Try.underlying36
  a70 := Try.isAgg36
  z70 := Try.sizeOf36
  v70 := Try.zeroValue36
  t72 := Try.underlying38
  a72 := Try.isAgg38
  z72 := Try.sizeOf38
  v72 := Try.zeroValue38
  t127 := Try.underlying47
  a127 := Try.isAgg47
  z127 := Try.sizeOf47
  v127 := Try.zeroValue47 }
theorem lays137 : Lays.n137 Try.prog ren := {
  mixed := by kernel_rfl
  f137 := Try.func24.trans (congrArg some (by kernel_rfl))
  f217 := Try.func30.trans (congrArg some (by kernel_rfl))
  f266 := Try.func33.trans (congrArg some (by kernel_rfl))
  t3 := Try.underlying3
  a3 := Try.isAgg3
  z3 := Try.sizeOf3
  v3 := Try.zeroValue3
  t5 := Try.underlying5
  a5 := Try.isAgg5
  z5 := Try.sizeOf5
  v5 := Try.zeroValue5
  t9 := Try.underlying9
  a9 := Try.isAgg9
  z9 := Try.sizeOf9
  v9 := Try.zeroValue9 }
theorem extra : Builder.Extra Try.prog ren := {
  sizeBuilder := by kernel_rfl
  liesBuilder := by kernel_rfl
  t5 := Try.underlying5
  a5 := Try.isAgg5
  z5 := Try.sizeOf5
  v5 := Try.zeroValue5
  infoByte := by kernel_rfl
  cellsByte := by kernel_rfl
  sizeByte := by kernel_rfl
  neB5 := by decide }

/-- (*strings.Builder).Grow at a builder that has not been written. -/
theorem bGrow (B b n : Nat) (w : World) (hB : B ≤ b) (hbk : w.heap[b]? = some (.cells #[.pointer none, .slice none 0 0] 38 (0, 0))) (hBw : B ≤ w.heap.size) (hn : n ≤ 281474976710656) :
    Calls Try.prog 23 #[.pointer (some ⟨b, 0, none⟩), .int .i64 n] w fun e w' => e = .returned (.tuple #[]) ∧ (Lib.BuilderAt 38 5 B b (.pointer (some ⟨b, 0, none⟩)) [] w' ∧ Below B w w') := Any.Builder_Grow_fresh lays165 extra B b n w hB hbk hBw hn
/-- (*strings.Builder).WriteString. -/
theorem bWriteString (B b : Nat) (bs : List Value) (s : ByteArray) (w : World) (h : Lib.IsBuilder 38 5 B b bs w) (hlen : bs.length + s.size ≤ 140737488355328) (hBw : B ≤ w.heap.size) :
    Calls Try.prog 25 #[.pointer (some ⟨b, 0, none⟩), .string s] w fun e w' => e = .returned (.tuple #[.int .i64 s.size, .nilIface]) ∧ (Lib.BuilderAt 38 5 B b (.pointer (some ⟨b, 0, none⟩)) (bs ++ Lib.strCells s) w' ∧ Below B w w') := Any.Builder_WriteString lays166 extra B b bs s w h hlen hBw
/-- (*strings.Builder).WriteByte. -/
theorem bWriteByte (B b : Nat) (bs : List Value) (c : Int) (w : World) (h : Lib.IsBuilder 38 5 B b bs w) (hlen : bs.length + 1 ≤ 140737488355328) (hBw : B ≤ w.heap.size) :
    Calls Try.prog 27 #[.pointer (some ⟨b, 0, none⟩), .int .u8 c] w fun e w' => e = .returned .nilIface ∧ (Lib.BuilderAt 38 5 B b (.pointer (some ⟨b, 0, none⟩)) (bs ++ [.int .u8 c]) w' ∧ Below B w w') := Any.Builder_WriteByte lays167 extra B b bs c w h hlen hBw
/-- (*strings.Builder).String. -/
theorem bString (B b : Nat) (l : List UInt8) (w : World) (h : Lib.IsBuilder 38 5 B b (Lib.byteCells l) w) (hBw : B ≤ w.heap.size) :
    Calls Try.prog 26 #[.pointer (some ⟨b, 0, none⟩)] w fun e w' => e = .returned (.string ⟨l.toArray⟩) ∧ Below B w w' := Any.Builder_String_any lays169 extra B b l w h hBw
/-- strings.IndexByte. -/
theorem sIndexByte (s : ByteArray) (c : Int) (w : World) :
    Calls Try.prog 24 #[.string s, .int .u8 c] w fun e w' => e = .returned (.int .i64 (Lib.indexByte s.data.toList c.toNat.toUInt8)) ∧ w' = w := Any.strings_IndexByte lays137 s c w

end Go.Proofs.Qxb6603825a
