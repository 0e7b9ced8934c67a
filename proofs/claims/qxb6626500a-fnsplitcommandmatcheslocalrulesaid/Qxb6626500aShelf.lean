import Derived.Shelf.Strings.Builder1
import Derived.Shelf.Strings.BuilderF
import Derived.Shelf.Strings.BuilderK
import Derived.Shelf.Strings.Prefix
import Derived.Test.Qxb6626500aProg
namespace Go.Proofs
open Go.Shelf
def Try.lays169_ren : Go.Shelf.Ren := ⟨fun | 169 => 12 | n => n, fun | 70 => 29 | 9 => 9 | 0 => 0 | 72 => 32 | 37 => 30 | 127 => 38 | 3 => 3 | 5 => 5 | n => n, fun | n => n⟩
theorem Try.lays169 : Go.Proofs.Lays.n169 Try.prog Try.lays169_ren := {
  mixed := by kernel_rfl
  f169 := Try.func12.trans (congrArg some (by kernel_rfl))
  t0 := Try.underlying0
  a0 := Try.isAgg0
  z0 := Try.sizeOf0
  v0 := Try.zeroValue0
  t3 := Try.underlying3
  a3 := Try.isAgg3
  z3 := Try.sizeOf3
  v3 := Try.zeroValue3
  t9 := Try.underlying9
  a9 := Try.isAgg9
  z9 := Try.sizeOf9
  v9 := Try.zeroValue9
  t37 := Try.underlying30
  a37 := Try.isAgg30
  z37 := Try.sizeOf30
  v37 := Try.zeroValue30
  t70 := Try.underlying29
  a70 := Try.isAgg29
  z70 := Try.sizeOf29
  v70 := Try.zeroValue29
  t72 := Try.underlying32
  a72 := Try.isAgg32
  z72 := Try.sizeOf32
  v72 := Try.zeroValue32
  t127 := Try.underlying38
  a127 := Try.isAgg38
  z127 := Try.sizeOf38
  v127 := Try.zeroValue38 }
theorem Try.Builder_Extra_169 : Builder.Extra Try.prog Try.lays169_ren := {
  sizeBuilder := by kernel_rfl
  liesBuilder := by kernel_rfl
  t5 := Try.underlying5
  a5 := Try.isAgg5
  z5 := Try.sizeOf5
  v5 := Try.zeroValue5
  infoByte := by kernel_rfl
  cellsByte := by kernel_rfl
  sizeByte := by kernel_rfl
  neB5 := by decide }
open Go.RowKit in
theorem Try.Builder_String_any_f (B b : Nat) (l : List UInt8) (w : World) (h : Lib.IsBuilderF 32 5 B b (Lib.byteCells l) w) (hBw : B ≤ w.heap.size) :
    Calls Try.prog 12 #[.pointer (some ⟨b, 0, none⟩)] w fun e w' => e = .returned (.string ⟨l.toArray⟩) ∧ (Lib.IsBuilderF 32 5 B b (Lib.byteCells l) w' ∧ Below B w w') := Any.Builder_String_any_f Try.lays169 Try.Builder_Extra_169 B b l w h hBw
def Try.lays207_ren : Go.Shelf.Ren := ⟨fun | 207 => 18 | n => n, fun | 9 => 9 | 4 => 4 | 3 => 3 | n => n, fun | n => n⟩
theorem Try.lays207 : Go.Proofs.Lays.n207 Try.prog Try.lays207_ren := {
  mixed := by kernel_rfl
  f207 := Try.func18.trans (congrArg some (by kernel_rfl))
  t3 := Try.underlying3
  a3 := Try.isAgg3
  z3 := Try.sizeOf3
  v3 := Try.zeroValue3
  t4 := Try.underlying4
  a4 := Try.isAgg4
  z4 := Try.sizeOf4
  v4 := Try.zeroValue4
  t9 := Try.underlying9
  a9 := Try.isAgg9
  z9 := Try.sizeOf9
  v9 := Try.zeroValue9 }
def Try.lays100_ren : Go.Shelf.Ren := ⟨fun | 100 => 15 | 207 => 18 | n => n, fun | 9 => 9 | 4 => 4 | 3 => 3 | n => n, fun | n => n⟩
theorem Try.lays100 : Go.Proofs.Lays.n100 Try.prog Try.lays100_ren := {
  mixed := by kernel_rfl
  f100 := Try.func15.trans (congrArg some (by kernel_rfl))
  f207 := Try.func18.trans (congrArg some (by kernel_rfl))
  t3 := Try.underlying3
  a3 := Try.isAgg3
  z3 := Try.sizeOf3
  v3 := Try.zeroValue3
  t4 := Try.underlying4
  a4 := Try.isAgg4
  z4 := Try.sizeOf4
  v4 := Try.zeroValue4
  t9 := Try.underlying9
  a9 := Try.isAgg9
  z9 := Try.sizeOf9
  v9 := Try.zeroValue9 }
open Go.RowKit Go.Lib in
theorem Try.strings_HasSuffix (s p : ByteArray) (w : World) (hs : s.size ≤ 9223372036854775807) :
    Calls Try.prog 15 #[.string s, .string p] w fun e w' => e = .returned (.bool (Lib.hasSuffix s.data.toList p.data.toList)) ∧ w' = w := Any.strings_HasSuffix Try.lays100 s p w hs
def Try.lays167_ren : Go.Shelf.Ren := ⟨fun | 167 => 14 | 240 => 17 | 276 => 19 | n => n, fun | 0 => 0 | 4 => 4 | 5 => 5 | 9 => 9 | 20 => 20 | 37 => 30 | 70 => 29 | 72 => 32 | 75 => 35 | 80 => 33 | 164 => 39 | n => n, fun | n => n⟩
theorem Try.lays167 : Go.Proofs.Lays.n167 Try.prog Try.lays167_ren := {
  mixed := by kernel_rfl
  f167 := Try.func14.trans (congrArg some (by kernel_rfl))
  f240 := Try.func17.trans (congrArg some (by kernel_rfl))
  f276 := Try.func19.trans (congrArg some (by kernel_rfl))
  t0 := Try.underlying0
  a0 := Try.isAgg0
  z0 := Try.sizeOf0
  v0 := Try.zeroValue0
  t4 := Try.underlying4
  a4 := Try.isAgg4
  z4 := Try.sizeOf4
  v4 := Try.zeroValue4
  t5 := Try.underlying5
  a5 := Try.isAgg5
  z5 := Try.sizeOf5
  v5 := Try.zeroValue5
  t9 := Try.underlying9
  a9 := Try.isAgg9
  z9 := Try.sizeOf9
  v9 := Try.zeroValue9
  t20 := Try.underlying20
  a20 := Try.isAgg20
  z20 := Try.sizeOf20
  v20 := Try.zeroValue20
  t37 := Try.underlying30
  a37 := Try.isAgg30
  z37 := Try.sizeOf30
  v37 := Try.zeroValue30
  t70 := Try.underlying29
  a70 := Try.isAgg29
  z70 := Try.sizeOf29
  v70 := Try.zeroValue29
  t72 := Try.underlying32
  a72 := Try.isAgg32
  z72 := Try.sizeOf32
  v72 := Try.zeroValue32
  t75 := Try.underlying35
  a75 := Try.isAgg35
  z75 := Try.sizeOf35
  v75 := Try.zeroValue35
  t164 := Try.underlying39
  a164 := Try.isAgg39
  z164 := Try.sizeOf39
  v164 := Try.zeroValue39 }
theorem Try.Builder_Extra_167 : Builder.Extra Try.prog Try.lays167_ren := {
  sizeBuilder := by kernel_rfl
  liesBuilder := by kernel_rfl
  t5 := Try.underlying5
  a5 := Try.isAgg5
  z5 := Try.sizeOf5
  v5 := Try.zeroValue5
  infoByte := by kernel_rfl
  cellsByte := by kernel_rfl
  sizeByte := by kernel_rfl
  neB5 := by decide }
open Go.RowKit in
theorem Try.Builder_WriteByte_k (B b : Nat) (bs : List Value) (c : Int) (w : World) (h : Lib.IsBuilderF 32 5 B b bs w) (hlen : bs.length + 1 ≤ 140737488355328) (hBw : B ≤ w.heap.size) :
    Calls Try.prog 14 #[.pointer (some ⟨b, 0, none⟩), .int .u8 c] w fun e w' => e = .returned .nilIface ∧ (Lib.BuilderAtF 32 5 B b (.pointer (some ⟨b, 0, none⟩)) (bs ++ [.int .u8 c]) w' ∧ Below B w w' ∧ Lib.OthersKept 5 (some b) w w') := Any.Builder_WriteByte_k Try.lays167 Try.Builder_Extra_167 B b bs c w h hlen hBw
end Go.Proofs
