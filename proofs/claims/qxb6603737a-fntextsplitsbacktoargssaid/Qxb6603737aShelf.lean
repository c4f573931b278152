/-
  TWO CONTRACTS OF THE SHELF AT THIS DUMP (strings.Builder's String and Grow), in plain words, as the shelf's own tools (lay-shelf.mjs, lay-plain.mjs) wrote them for this program; the others that they wrote are struck.
-/
import Derived.Shelf.Strings.Builder1
import Derived.Shelf.Strings.Builder2
import Derived.Test.Qxb6603737aProg
namespace Go.Proofs
open Go.Shelf
def Try.lays169_ren : Go.Shelf.Ren := ⟨fun | 169 => 22 | n => n, fun | 70 => 36 | 9 => 9 | 0 => 0 | 72 => 38 | 37 => 35 | 127 => 46 | 3 => 3 | 5 => 5 | n => n, fun | n => n⟩
theorem Try.lays169 : Go.Proofs.Lays.n169 Try.prog Try.lays169_ren := {
  mixed := by kernel_rfl
  f169 := Try.func22.trans (congrArg some (by kernel_rfl))
  t0 := Try.underlying0
  a0 := Try.isAgg0
  z0 := Try.sizeOf0
  v0 := Try.zeroValue0
  t3 := Try.underlying3
  a3 := Try.isAgg3
  z3 := Try.sizeOf3
  v3 := Try.zeroValue3
  t9 := Try.underlying9
  a9 := Try.isAgg9
  z9 := Try.sizeOf9
  v9 := Try.zeroValue9
  t37 := Try.underlying35
  a37 := Try.isAgg35
  z37 := Try.sizeOf35
  v37 := Try.zeroValue35
  t70 := Try.underlying36
  a70 := Try.isAgg36
  z70 := Try.sizeOf36
  v70 := Try.zeroValue36
  t72 := Try.underlying38
  a72 := Try.isAgg38
  z72 := Try.sizeOf38
  v72 := Try.zeroValue38
  t127 := Try.underlying46
  a127 := Try.isAgg46
  z127 := Try.sizeOf46
  v127 := Try.zeroValue46 }
theorem Try.Builder_Extra_169 : Builder.Extra Try.prog Try.lays169_ren := {
  sizeBuilder := by kernel_rfl
  liesBuilder := by kernel_rfl
  t5 := Try.underlying5
  a5 := Try.isAgg5
  z5 := Try.sizeOf5
  v5 := Try.zeroValue5
  infoByte := by kernel_rfl
  cellsByte := by kernel_rfl
  sizeByte := by kernel_rfl
  neB5 := by decide }
open Go.RowKit in
theorem Try.Builder_String_any (B b : Nat) (l : List UInt8) (w : World) (h : Lib.IsBuilder 38 5 B b (Lib.byteCells l) w) (hBw : B ≤ w.heap.size) :
    Calls Try.prog 22 #[.pointer (some ⟨b, 0, none⟩)] w fun e w' => e = .returned (.string ⟨l.toArray⟩) ∧ Below B w w' := Any.Builder_String_any Try.lays169 Try.Builder_Extra_169 B b l w h hBw
def Try.lays165_ren : Go.Shelf.Ren := ⟨fun | 165 => 19 | 240 => 24 | 241 => 25 | 276 => 27 | 277 => 28 | n => n, fun | 70 => 36 | 3 => 3 | 0 => 0 | 4 => 4 | 9 => 9 | 20 => 20 | 72 => 38 | 37 => 35 | 164 => 47 | 5 => 5 | n => n, fun | n => n⟩
theorem Try.lays165 : Go.Proofs.Lays.n165 Try.prog Try.lays165_ren := {
  mixed := by kernel_rfl
  f165 := Try.func19.trans (congrArg some (by kernel_rfl))
  f240 := Try.func24.trans (congrArg some (by kernel_rfl))
  f241 := Try.func25.trans (congrArg some (by kernel_rfl))
  f276 := Try.func27.trans (congrArg some (by kernel_rfl))
  f277 := Try.func28.trans (congrArg some (by kernel_rfl))
  t0 := Try.underlying0
  a0 := Try.isAgg0
  z0 := Try.sizeOf0
  v0 := Try.zeroValue0
  t3 := Try.underlying3
  a3 := Try.isAgg3
  z3 := Try.sizeOf3
  v3 := Try.zeroValue3
  t4 := Try.underlying4
  a4 := Try.isAgg4
  z4 := Try.sizeOf4
  v4 := Try.zeroValue4
  t9 := Try.underlying9
  a9 := Try.isAgg9
  z9 := Try.sizeOf9
  v9 := Try.zeroValue9
  t20 := Try.underlying20
  a20 := Try.isAgg20
  z20 := Try.sizeOf20
  v20 := Try.zeroValue20
  t37 := Try.underlying35
  a37 := Try.isAgg35
  z37 := Try.sizeOf35
  v37 := Try.zeroValue35
  t70 := Try.underlying36
  a70 := Try.isAgg36
  z70 := Try.sizeOf36
  v70 := Try.zeroValue36
  t72 := Try.underlying38
  a72 := Try.isAgg38
  z72 := Try.sizeOf38
  v72 := Try.zeroValue38
  t164 := Try.underlying47
  a164 := Try.isAgg47
  z164 := Try.sizeOf47
  v164 := Try.zeroValue47 }
theorem Try.Builder_Extra_165 : Builder.Extra Try.prog Try.lays165_ren := {
  sizeBuilder := by kernel_rfl
  liesBuilder := by kernel_rfl
  t5 := Try.underlying5
  a5 := Try.isAgg5
  z5 := Try.sizeOf5
  v5 := Try.zeroValue5
  infoByte := by kernel_rfl
  cellsByte := by kernel_rfl
  sizeByte := by kernel_rfl
  neB5 := by decide }
open Go.RowKit in
theorem Try.Builder_Grow_fresh (B b n : Nat) (w : World) (hB : B ≤ b) (hbk : w.heap[b]? = some (.cells #[.pointer none, .slice none 0 0] 38 (0, 0))) (hBw : B ≤ w.heap.size) (hn : n ≤ 281474976710656) :
    Calls Try.prog 19 #[.pointer (some ⟨b, 0, none⟩), .int .i64 n] w fun e w' => e = .returned (.tuple #[]) ∧ (Lib.BuilderAt 38 5 B b (.pointer (some ⟨b, 0, none⟩)) [] w' ∧ Below B w w') := Any.Builder_Grow_fresh Try.lays165 Try.Builder_Extra_165 B b n w hB hbk hBw hn
end Go.Proofs
