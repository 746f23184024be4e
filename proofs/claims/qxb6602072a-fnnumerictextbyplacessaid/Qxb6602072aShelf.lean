/- The library contracts at this dump, in plain words (laid by the kit's lay-plain.mjs; the layings of WriteByte and WriteString by hand after the same form: the tool refuses them for two type numbers that no body names). -/
import Derived.Shelf.Strings.Builder1
import Derived.Shelf.Strings.Builder2
import Derived.Shelf.Strings.BuilderF
import Derived.Shelf.Strings.BuilderK
import Derived.Shelf.Strings.Prefix
import Derived.Test.Qxb6602072aProg
namespace Go.Proofs
open Go.Shelf
def Try.lays167_ren : Go.Shelf.Ren := ⟨fun | 167 => 25 | 240 => 32 | 276 => 35 | n => n, fun | 0 => 0 | 4 => 4 | 5 => 5 | 9 => 9 | 20 => 20 | 37 => 36 | 70 => 45 | 72 => 47 | 75 => 50 | 80 => 55 | 164 => 60 | n => n, fun | n => n⟩
theorem Try.lays167 : Go.Proofs.Lays.n167 Try.prog Try.lays167_ren := {
  mixed := by kernel_rfl
  f167 := Try.func25.trans (congrArg some (by kernel_rfl))
  f240 := Try.func32.trans (congrArg some (by kernel_rfl))
  f276 := Try.func35.trans (congrArg some (by kernel_rfl))
  t0 := Try.underlying0
  a0 := Try.isAgg0
  z0 := Try.sizeOf0
  v0 := Try.zeroValue0
  t4 := Try.underlying4
  a4 := Try.isAgg4
  z4 := Try.sizeOf4
  v4 := Try.zeroValue4
  t5 := Try.underlying5
  a5 := Try.isAgg5
  z5 := Try.sizeOf5
  v5 := Try.zeroValue5
  t9 := Try.underlying9
  a9 := Try.isAgg9
  z9 := Try.sizeOf9
  v9 := Try.zeroValue9
  t20 := Try.underlying20
  a20 := Try.isAgg20
  z20 := Try.sizeOf20
  v20 := Try.zeroValue20
  t37 := Try.underlying36
  a37 := Try.isAgg36
  z37 := Try.sizeOf36
  v37 := Try.zeroValue36
  t70 := Try.underlying45
  a70 := Try.isAgg45
  z70 := Try.sizeOf45
  v70 := Try.zeroValue45
  t72 := Try.underlying47
  a72 := Try.isAgg47
  z72 := Try.sizeOf47
  v72 := Try.zeroValue47
  t75 := Try.underlying50
  a75 := Try.isAgg50
  z75 := Try.sizeOf50
  v75 := Try.zeroValue50
  t164 := Try.underlying60
  a164 := Try.isAgg60
  z164 := Try.sizeOf60
  v164 := Try.zeroValue60
}
theorem Try.Builder_Extra_167 : Builder.Extra Try.prog Try.lays167_ren := {
  sizeBuilder := by kernel_rfl
  liesBuilder := by kernel_rfl
  t5 := Try.underlying5
  a5 := Try.isAgg5
  z5 := Try.sizeOf5
  v5 := Try.zeroValue5
  infoByte := by kernel_rfl
  cellsByte := by kernel_rfl
  sizeByte := by kernel_rfl
  neB5 := by decide
}
open Go.RowKit in
theorem Try.Builder_WriteByte (B b : Nat) (bs : List Value) (c : Int) (w : World) (h : Lib.IsBuilder 47 5 B b bs w) (hlen : bs.length + 1 ≤ 140737488355328) (hBw : B ≤ w.heap.size) :
    Calls Try.prog 25 #[.pointer (some ⟨b, 0, none⟩), .int .u8 c] w fun e w' => e = .returned .nilIface ∧ (Lib.BuilderAt 47 5 B b (.pointer (some ⟨b, 0, none⟩)) (bs ++ [.int .u8 c]) w' ∧ Below B w w') := Any.Builder_WriteByte Try.lays167 Try.Builder_Extra_167 B b bs c w h hlen hBw
def Try.lays166_ren : Go.Shelf.Ren := ⟨fun | 166 => 26 | 240 => 32 | 276 => 35 | n => n, fun | 0 => 0 | 3 => 3 | 4 => 4 | 5 => 5 | 9 => 9 | 20 => 20 | 37 => 36 | 70 => 45 | 72 => 47 | 75 => 50 | 80 => 55 | 164 => 60 | n => n, fun | n => n⟩
theorem Try.lays166 : Go.Proofs.Lays.n166 Try.prog Try.lays166_ren := {
  mixed := by kernel_rfl
  f166 := Try.func26.trans (congrArg some (by kernel_rfl))
  f240 := Try.func32.trans (congrArg some (by kernel_rfl))
  f276 := Try.func35.trans (congrArg some (by kernel_rfl))
  t0 := Try.underlying0
  a0 := Try.isAgg0
  z0 := Try.sizeOf0
  v0 := Try.zeroValue0
  t3 := Try.underlying3
  a3 := Try.isAgg3
  z3 := Try.sizeOf3
  v3 := Try.zeroValue3
  t4 := Try.underlying4
  a4 := Try.isAgg4
  z4 := Try.sizeOf4
  v4 := Try.zeroValue4
  t9 := Try.underlying9
  a9 := Try.isAgg9
  z9 := Try.sizeOf9
  v9 := Try.zeroValue9
  t20 := Try.underlying20
  a20 := Try.isAgg20
  z20 := Try.sizeOf20
  v20 := Try.zeroValue20
  t37 := Try.underlying36
  a37 := Try.isAgg36
  z37 := Try.sizeOf36
  v37 := Try.zeroValue36
  t70 := Try.underlying45
  a70 := Try.isAgg45
  z70 := Try.sizeOf45
  v70 := Try.zeroValue45
  t72 := Try.underlying47
  a72 := Try.isAgg47
  z72 := Try.sizeOf47
  v72 := Try.zeroValue47
  t75 := Try.underlying50
  a75 := Try.isAgg50
  z75 := Try.sizeOf50
  v75 := Try.zeroValue50
  t164 := Try.underlying60
  a164 := Try.isAgg60
  z164 := Try.sizeOf60
  v164 := Try.zeroValue60
}
theorem Try.Builder_Extra_166 : Builder.Extra Try.prog Try.lays166_ren := {
  sizeBuilder := by kernel_rfl
  liesBuilder := by kernel_rfl
  t5 := Try.underlying5
  a5 := Try.isAgg5
  z5 := Try.sizeOf5
  v5 := Try.zeroValue5
  infoByte := by kernel_rfl
  cellsByte := by kernel_rfl
  sizeByte := by kernel_rfl
  neB5 := by decide
}
open Go.RowKit in
theorem Try.Builder_WriteString (B b : Nat) (bs : List Value) (s : ByteArray) (w : World) (h : Lib.IsBuilder 47 5 B b bs w) (hlen : bs.length + s.size ≤ 140737488355328) (hBw : B ≤ w.heap.size) :
    Calls Try.prog 26 #[.pointer (some ⟨b, 0, none⟩), .string s] w fun e w' => e = .returned (.tuple #[.int .i64 s.size, .nilIface]) ∧ (Lib.BuilderAt 47 5 B b (.pointer (some ⟨b, 0, none⟩)) (bs ++ Lib.strCells s) w' ∧ Below B w w') := Any.Builder_WriteString Try.lays166 Try.Builder_Extra_166 B b bs s w h hlen hBw
def Try.lays169_ren : Go.Shelf.Ren := ⟨fun | 169 => 28 | n => n, fun | 70 => 45 | 9 => 9 | 0 => 0 | 72 => 47 | 37 => 36 | 127 => 59 | 3 => 3 | 5 => 5 | n => n, fun | n => n⟩
theorem Try.lays169 : Go.Proofs.Lays.n169 Try.prog Try.lays169_ren := {
  mixed := by kernel_rfl
  f169 := Try.func28.trans (congrArg some (by kernel_rfl))
  t0 := Try.underlying0
  a0 := Try.isAgg0
  z0 := Try.sizeOf0
  v0 := Try.zeroValue0
  t3 := Try.underlying3
  a3 := Try.isAgg3
  z3 := Try.sizeOf3
  v3 := Try.zeroValue3
  t9 := Try.underlying9
  a9 := Try.isAgg9
  z9 := Try.sizeOf9
  v9 := Try.zeroValue9
  t37 := Try.underlying36
  a37 := Try.isAgg36
  z37 := Try.sizeOf36
  v37 := Try.zeroValue36
  t70 := Try.underlying45
  a70 := Try.isAgg45
  z70 := Try.sizeOf45
  v70 := Try.zeroValue45
  t72 := Try.underlying47
  a72 := Try.isAgg47
  z72 := Try.sizeOf47
  v72 := Try.zeroValue47
  t127 := Try.underlying59
  a127 := Try.isAgg59
  z127 := Try.sizeOf59
  v127 := Try.zeroValue59 }
theorem Try.Builder_Extra_169 : Builder.Extra Try.prog Try.lays169_ren := {
  sizeBuilder := by kernel_rfl
  liesBuilder := by kernel_rfl
  t5 := Try.underlying5
  a5 := Try.isAgg5
  z5 := Try.sizeOf5
  v5 := Try.zeroValue5
  infoByte := by kernel_rfl
  cellsByte := by kernel_rfl
  sizeByte := by kernel_rfl
  neB5 := by decide
}
open Go.RowKit in
theorem Try.Builder_String_any (B b : Nat) (l : List UInt8) (w : World) (h : Lib.IsBuilder 47 5 B b (Lib.byteCells l) w) (hBw : B ≤ w.heap.size) :
    Calls Try.prog 28 #[.pointer (some ⟨b, 0, none⟩)] w fun e w' => e = .returned (.string ⟨l.toArray⟩) ∧ Below B w w' := Any.Builder_String_any Try.lays169 Try.Builder_Extra_169 B b l w h hBw
def Try.lays165_ren : Go.Shelf.Ren := ⟨fun | 165 => 24 | 240 => 32 | 241 => 33 | 276 => 35 | 277 => 36 | n => n, fun | 70 => 45 | 3 => 3 | 0 => 0 | 4 => 4 | 9 => 9 | 20 => 20 | 72 => 47 | 37 => 36 | 164 => 60 | 5 => 5 | n => n, fun | n => n⟩
theorem Try.lays165 : Go.Proofs.Lays.n165 Try.prog Try.lays165_ren := {
  mixed := by kernel_rfl
  f165 := Try.func24.trans (congrArg some (by kernel_rfl))
  f240 := Try.func32.trans (congrArg some (by kernel_rfl))
  f241 := Try.func33.trans (congrArg some (by kernel_rfl))
  f276 := Try.func35.trans (congrArg some (by kernel_rfl))
  f277 := Try.func36.trans (congrArg some (by kernel_rfl))
  t0 := Try.underlying0
  a0 := Try.isAgg0
  z0 := Try.sizeOf0
  v0 := Try.zeroValue0
  t3 := Try.underlying3
  a3 := Try.isAgg3
  z3 := Try.sizeOf3
  v3 := Try.zeroValue3
  t4 := Try.underlying4
  a4 := Try.isAgg4
  z4 := Try.sizeOf4
  v4 := Try.zeroValue4
  t9 := Try.underlying9
  a9 := Try.isAgg9
  z9 := Try.sizeOf9
  v9 := Try.zeroValue9
  t20 := Try.underlying20
  a20 := Try.isAgg20
  z20 := Try.sizeOf20
  v20 := Try.zeroValue20
  t37 := Try.underlying36
  a37 := Try.isAgg36
  z37 := Try.sizeOf36
  v37 := Try.zeroValue36
  t70 := Try.underlying45
  a70 := Try.isAgg45
  z70 := Try.sizeOf45
  v70 := Try.zeroValue45
  t72 := Try.underlying47
  a72 := Try.isAgg47
  z72 := Try.sizeOf47
  v72 := Try.zeroValue47
  t164 := Try.underlying60
  a164 := Try.isAgg60
  z164 := Try.sizeOf60
  v164 := Try.zeroValue60 }
theorem Try.Builder_Extra_165 : Builder.Extra Try.prog Try.lays165_ren := {
  sizeBuilder := by kernel_rfl
  liesBuilder := by kernel_rfl
  t5 := Try.underlying5
  a5 := Try.isAgg5
  z5 := Try.sizeOf5
  v5 := Try.zeroValue5
  infoByte := by kernel_rfl
  cellsByte := by kernel_rfl
  sizeByte := by kernel_rfl
  neB5 := by decide
}
open Go.RowKit in
theorem Try.Builder_Grow_fresh (B b n : Nat) (w : World) (hB : B ≤ b) (hbk : w.heap[b]? = some (.cells #[.pointer none, .slice none 0 0] 47 (0, 0))) (hBw : B ≤ w.heap.size) (hn : n ≤ 281474976710656) :
    Calls Try.prog 24 #[.pointer (some ⟨b, 0, none⟩), .int .i64 n] w fun e w' => e = .returned (.tuple #[]) ∧ (Lib.BuilderAt 47 5 B b (.pointer (some ⟨b, 0, none⟩)) [] w' ∧ Below B w w') := Any.Builder_Grow_fresh Try.lays165 Try.Builder_Extra_165 B b n w hB hbk hBw hn
def Try.lays101_ren : Go.Shelf.Ren := ⟨fun | 101 => 31 | 208 => 34 | 206 => 37 | n => n, fun | 9 => 9 | 4 => 4 | 3 => 3 | n => n, fun | n => n⟩
theorem Try.lays101 : Go.Proofs.Lays.n101 Try.prog Try.lays101_ren := {
  mixed := by kernel_rfl
  f101 := Try.func31.trans (congrArg some (by kernel_rfl))
  f206 := Try.func37.trans (congrArg some (by kernel_rfl))
  f208 := Try.func34.trans (congrArg some (by kernel_rfl))
  t3 := Try.underlying3
  a3 := Try.isAgg3
  z3 := Try.sizeOf3
  v3 := Try.zeroValue3
  t4 := Try.underlying4
  a4 := Try.isAgg4
  z4 := Try.sizeOf4
  v4 := Try.zeroValue4
  t9 := Try.underlying9
  a9 := Try.isAgg9
  z9 := Try.sizeOf9
  v9 := Try.zeroValue9 }
open Go.RowKit in
theorem Try.strings_TrimPrefix (s p : ByteArray) (w : World) :
    Calls Try.prog 31 #[.string s, .string p] w fun e w' => e = .returned (.string ⟨(Lib.trimPrefix s.data.toList p.data.toList).toArray⟩) ∧ w' = w := Any.strings_TrimPrefix Try.lays101 s p w
end Go.Proofs
