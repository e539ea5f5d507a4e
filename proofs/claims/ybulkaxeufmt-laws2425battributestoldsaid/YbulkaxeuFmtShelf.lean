/-
  The shelf's contracts of (*strings.Builder).WriteByte and String at this dump, in plain words: the tables of numbers, the layings (a field a fact of the dump's own or the kernel's comparison), and each contract by one application. The part on String was written by the shelf's own lay-plain.mjs; that on WriteByte, which the tool passed over, after its pattern.
-/
import Derived.Shelf.Strings.Builder1
import Derived.Test.YbulkaxeuFmtProg
namespace Go.Proofs
open Go.Shelf
def Ybaf.lays167_ren : Go.Shelf.Ren := ⟨fun | 167 => 20 | 240 => 22 | 276 => 23 | n => n, fun | 70 => 55 | 72 => 57 | 37 => 22 | 5 => 5 | 4 => 4 | 0 => 0 | 9 => 9 | 20 => 20 | 75 => 32 | 80 => 40 | 164 => 74 | n => n, fun | n => n⟩
theorem Ybaf.lays167 : Go.Proofs.Lays.n167 Ybaf.prog Ybaf.lays167_ren := {
  mixed := by kernel_rfl
  f167 := Ybaf.func20.trans (congrArg some (by kernel_rfl))
  f240 := Ybaf.func22.trans (congrArg some (by kernel_rfl))
  f276 := Ybaf.func23.trans (congrArg some (by kernel_rfl))
  t0 := Ybaf.underlying0
  a0 := Ybaf.isAgg0
  z0 := Ybaf.sizeOf0
  v0 := Ybaf.zeroValue0
  t4 := Ybaf.underlying4
  a4 := Ybaf.isAgg4
  z4 := Ybaf.sizeOf4
  v4 := Ybaf.zeroValue4
  t5 := Ybaf.underlying5
  a5 := Ybaf.isAgg5
  z5 := Ybaf.sizeOf5
  v5 := Ybaf.zeroValue5
  t9 := Ybaf.underlying9
  a9 := Ybaf.isAgg9
  z9 := Ybaf.sizeOf9
  v9 := Ybaf.zeroValue9
  t20 := Ybaf.underlying20
  a20 := Ybaf.isAgg20
  z20 := Ybaf.sizeOf20
  v20 := Ybaf.zeroValue20
  t37 := Ybaf.underlying22
  a37 := Ybaf.isAgg22
  z37 := Ybaf.sizeOf22
  v37 := Ybaf.zeroValue22
  t70 := Ybaf.underlying55
  a70 := Ybaf.isAgg55
  z70 := Ybaf.sizeOf55
  v70 := Ybaf.zeroValue55
  t72 := Ybaf.underlying57
  a72 := Ybaf.isAgg57
  z72 := Ybaf.sizeOf57
  v72 := Ybaf.zeroValue57
  t75 := Ybaf.underlying32
  a75 := Ybaf.isAgg32
  z75 := Ybaf.sizeOf32
  v75 := Ybaf.zeroValue32
  t164 := Ybaf.underlying74
  a164 := Ybaf.isAgg74
  z164 := Ybaf.sizeOf74
  v164 := Ybaf.zeroValue74 }
theorem Ybaf.Builder_Extra_167 : Builder.Extra Ybaf.prog Ybaf.lays167_ren := {
  sizeBuilder := by kernel_rfl
  liesBuilder := by kernel_rfl
  t5 := Ybaf.underlying5
  a5 := Ybaf.isAgg5
  z5 := Ybaf.sizeOf5
  v5 := Ybaf.zeroValue5
  infoByte := by kernel_rfl
  cellsByte := by kernel_rfl
  sizeByte := by kernel_rfl
  neB5 := by decide }
open Go.RowKit in
theorem Ybaf.Builder_WriteByte (B b : Nat) (bs : List Value) (c : Int) (w : World) (h : Lib.IsBuilder 57 5 B b bs w) (hlen : bs.length + 1 ≤ 140737488355328) (hBw : B ≤ w.heap.size) :
    Calls Ybaf.prog 20 #[.pointer (some ⟨b, 0, none⟩), .int .u8 c] w fun e w' => e = .returned .nilIface ∧ (Lib.BuilderAt 57 5 B b (.pointer (some ⟨b, 0, none⟩)) (bs ++ [.int .u8 c]) w' ∧ Below B w w') := Any.Builder_WriteByte Ybaf.lays167 Ybaf.Builder_Extra_167 B b bs c w h hlen hBw
def Ybaf.lays169_ren : Go.Shelf.Ren := ⟨fun | 169 => 21 | n => n, fun | 70 => 55 | 9 => 9 | 0 => 0 | 72 => 57 | 37 => 22 | 127 => 73 | 3 => 3 | 5 => 5 | n => n, fun | n => n⟩
theorem Ybaf.lays169 : Go.Proofs.Lays.n169 Ybaf.prog Ybaf.lays169_ren := {
  mixed := by kernel_rfl
  f169 := Ybaf.func21.trans (congrArg some (by kernel_rfl))
  t0 := Ybaf.underlying0
  a0 := Ybaf.isAgg0
  z0 := Ybaf.sizeOf0
  v0 := Ybaf.zeroValue0
  t3 := Ybaf.underlying3
  a3 := Ybaf.isAgg3
  z3 := Ybaf.sizeOf3
  v3 := Ybaf.zeroValue3
  t9 := Ybaf.underlying9
  a9 := Ybaf.isAgg9
  z9 := Ybaf.sizeOf9
  v9 := Ybaf.zeroValue9
  t37 := Ybaf.underlying22
  a37 := Ybaf.isAgg22
  z37 := Ybaf.sizeOf22
  v37 := Ybaf.zeroValue22
  t70 := Ybaf.underlying55
  a70 := Ybaf.isAgg55
  z70 := Ybaf.sizeOf55
  v70 := Ybaf.zeroValue55
  t72 := Ybaf.underlying57
  a72 := Ybaf.isAgg57
  z72 := Ybaf.sizeOf57
  v72 := Ybaf.zeroValue57
  t127 := Ybaf.underlying73
  a127 := Ybaf.isAgg73
  z127 := Ybaf.sizeOf73
  v127 := Ybaf.zeroValue73 }
theorem Ybaf.Builder_Extra_169 : Builder.Extra Ybaf.prog Ybaf.lays169_ren := {
  sizeBuilder := by kernel_rfl
  liesBuilder := by kernel_rfl
  t5 := Ybaf.underlying5
  a5 := Ybaf.isAgg5
  z5 := Ybaf.sizeOf5
  v5 := Ybaf.zeroValue5
  infoByte := by kernel_rfl
  cellsByte := by kernel_rfl
  sizeByte := by kernel_rfl
  neB5 := by decide }
open Go.RowKit in
theorem Ybaf.Builder_String_any (B b : Nat) (l : List UInt8) (w : World) (h : Lib.IsBuilder 57 5 B b (Lib.byteCells l) w) (hBw : B ≤ w.heap.size) :
    Calls Ybaf.prog 21 #[.pointer (some ⟨b, 0, none⟩)] w fun e w' => e = .returned (.string ⟨l.toArray⟩) ∧ Below B w w' := Any.Builder_String_any Ybaf.lays169 Ybaf.Builder_Extra_169 B b l w h hBw
end Go.Proofs
