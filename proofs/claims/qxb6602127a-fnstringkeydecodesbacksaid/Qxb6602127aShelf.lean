/-
  The shelf's contracts of strings.Builder's Grow and String at this seat's dump, laid by the kit's tools in plain words; each is one application.
-/
import Derived.Shelf.Strings.Builder1
import Derived.Shelf.Strings.Builder2
import Derived.Test.Qxb6602127aProg
namespace Go.Proofs
open Go.Shelf
def Try.lays169_ren : Go.Shelf.Ren := ⟨fun | 169 => 16 | n => n, fun | 70 => 28 | 9 => 9 | 0 => 0 | 72 => 31 | 37 => 29 | 127 => 40 | 3 => 3 | 5 => 5 | n => n, fun | n => n⟩
theorem Try.lays169 : Go.Proofs.Lays.n169 Try.prog Try.lays169_ren := {
  mixed := by kernel_rfl
  f169 := Try.func16.trans (congrArg some (by kernel_rfl))
  t0 := Try.underlying0
  a0 := Try.isAgg0
  z0 := Try.sizeOf0
  v0 := Try.zeroValue0
  t3 := Try.underlying3
  a3 := Try.isAgg3
  z3 := Try.sizeOf3
  v3 := Try.zeroValue3
  t9 := Try.underlying9
  a9 := Try.isAgg9
  z9 := Try.sizeOf9
  v9 := Try.zeroValue9
  t37 := Try.underlying29
  a37 := Try.isAgg29
  z37 := Try.sizeOf29
  v37 := Try.zeroValue29
  t70 := Try.underlying28
  a70 := Try.isAgg28
  z70 := Try.sizeOf28
  v70 := Try.zeroValue28
  t72 := Try.underlying31
  a72 := Try.isAgg31
  z72 := Try.sizeOf31
  v72 := Try.zeroValue31
  t127 := Try.underlying40
  a127 := Try.isAgg40
  z127 := Try.sizeOf40
  v127 := Try.zeroValue40 }
theorem Try.Builder_Extra_169 : Builder.Extra Try.prog Try.lays169_ren := {
  sizeBuilder := by kernel_rfl
  liesBuilder := by kernel_rfl
  t5 := Try.underlying5
  a5 := Try.isAgg5
  z5 := Try.sizeOf5
  v5 := Try.zeroValue5
  infoByte := by kernel_rfl
  cellsByte := by kernel_rfl
  sizeByte := by kernel_rfl
  neB5 := by decide }
open Go.RowKit in
theorem Try.Builder_String_any (B b : Nat) (l : List UInt8) (w : World) (h : Lib.IsBuilder 31 5 B b (Lib.byteCells l) w) (hBw : B ≤ w.heap.size) :
    Calls Try.prog 16 #[.pointer (some ⟨b, 0, none⟩)] w fun e w' => e = .returned (.string ⟨l.toArray⟩) ∧ Below B w w' := Any.Builder_String_any Try.lays169 Try.Builder_Extra_169 B b l w h hBw
def Try.lays165_ren : Go.Shelf.Ren := ⟨fun | 165 => 13 | 240 => 18 | 241 => 19 | 276 => 20 | 277 => 21 | n => n, fun | 70 => 28 | 3 => 3 | 0 => 0 | 4 => 4 | 9 => 9 | 20 => 20 | 72 => 31 | 37 => 29 | 164 => 41 | 5 => 5 | n => n, fun | n => n⟩
theorem Try.lays165 : Go.Proofs.Lays.n165 Try.prog Try.lays165_ren := {
  mixed := by kernel_rfl
  f165 := Try.func13.trans (congrArg some (by kernel_rfl))
  f240 := Try.func18.trans (congrArg some (by kernel_rfl))
  f241 := Try.func19.trans (congrArg some (by kernel_rfl))
  f276 := Try.func20.trans (congrArg some (by kernel_rfl))
  f277 := Try.func21.trans (congrArg some (by kernel_rfl))
  t0 := Try.underlying0
  a0 := Try.isAgg0
  z0 := Try.sizeOf0
  v0 := Try.zeroValue0
  t3 := Try.underlying3
  a3 := Try.isAgg3
  z3 := Try.sizeOf3
  v3 := Try.zeroValue3
  t4 := Try.underlying4
  a4 := Try.isAgg4
  z4 := Try.sizeOf4
  v4 := Try.zeroValue4
  t9 := Try.underlying9
  a9 := Try.isAgg9
  z9 := Try.sizeOf9
  v9 := Try.zeroValue9
  t20 := Try.underlying20
  a20 := Try.isAgg20
  z20 := Try.sizeOf20
  v20 := Try.zeroValue20
  t37 := Try.underlying29
  a37 := Try.isAgg29
  z37 := Try.sizeOf29
  v37 := Try.zeroValue29
  t70 := Try.underlying28
  a70 := Try.isAgg28
  z70 := Try.sizeOf28
  v70 := Try.zeroValue28
  t72 := Try.underlying31
  a72 := Try.isAgg31
  z72 := Try.sizeOf31
  v72 := Try.zeroValue31
  t164 := Try.underlying41
  a164 := Try.isAgg41
  z164 := Try.sizeOf41
  v164 := Try.zeroValue41 }
theorem Try.Builder_Extra_165 : Builder.Extra Try.prog Try.lays165_ren := {
  sizeBuilder := by kernel_rfl
  liesBuilder := by kernel_rfl
  t5 := Try.underlying5
  a5 := Try.isAgg5
  z5 := Try.sizeOf5
  v5 := Try.zeroValue5
  infoByte := by kernel_rfl
  cellsByte := by kernel_rfl
  sizeByte := by kernel_rfl
  neB5 := by decide }
open Go.RowKit in
theorem Try.Builder_Grow_fresh (B b n : Nat) (w : World) (hB : B ≤ b) (hbk : w.heap[b]? = some (.cells #[.pointer none, .slice none 0 0] 31 (0, 0))) (hBw : B ≤ w.heap.size) (hn : n ≤ 281474976710656) :
    Calls Try.prog 13 #[.pointer (some ⟨b, 0, none⟩), .int .i64 n] w fun e w' => e = .returned (.tuple #[]) ∧ (Lib.BuilderAt 31 5 B b (.pointer (some ⟨b, 0, none⟩)) [] w' ∧ Below B w w') := Any.Builder_Grow_fresh Try.lays165 Try.Builder_Extra_165 B b n w hB hbk hBw hn
end Go.Proofs
