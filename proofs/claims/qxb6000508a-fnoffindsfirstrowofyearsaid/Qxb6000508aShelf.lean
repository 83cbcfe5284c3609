/-
  internal/stringslite.Clone's contract, laid at this program in plain words: written by the kit's own tools (lay-shelf.mjs, lay-plain.mjs) for this program; the namespace is this seat's.
-/
import Derived.Shelf.LaysM
import Derived.Shelf.Strconv.Clone
import Derived.Test.Qxb6000508aProg
namespace Go.Proofs.Qxb6000508a
open Go.Shelf
def cloneL_ren : Go.Shelf.Ren := ⟨fun | 316 => 34 | n => n, fun | 9 => 9 | 3 => 3 | 4 => 4 | 37 => 67 | 0 => 0 | 127 => 68 | 5 => 5 | n => n, fun | n => n⟩
theorem cloneL : Go.Proofs.LaysM.n316 Try.prog cloneL_ren := {
  mixed := by kernel_rfl
  f316 := Try.func34.trans (congrArg some (by kernel_rfl))
  t0 := Try.underlying0
  a0 := Try.isAgg0
  z0 := Try.sizeOf0
  v0 := Try.zeroValue0
  t3 := Try.underlying3
  a3 := Try.isAgg3
  z3 := Try.sizeOf3
  v3 := Try.zeroValue3
  t4 := Try.underlying4
  a4 := Try.isAgg4
  z4 := Try.sizeOf4
  v4 := Try.zeroValue4
  t9 := Try.underlying9
  a9 := Try.isAgg9
  z9 := Try.sizeOf9
  v9 := Try.zeroValue9
  t37 := Try.underlying67
  a37 := Try.isAgg67
  z37 := Try.sizeOf67
  v37 := Try.zeroValue67
  t127 := Try.underlying68
  a127 := Try.isAgg68
  z127 := Try.sizeOf68
  v127 := Try.zeroValue68
  t5 := Try.underlying5
  a5 := Try.isAgg5
  z5 := Try.sizeOf5
  v5 := Try.zeroValue5
  i0 := by kernel_rfl
  i3 := by kernel_rfl
  i4 := by kernel_rfl
  i5 := by kernel_rfl
  i9 := by kernel_rfl
  i37 := by kernel_rfl
  i127 := by kernel_rfl }
open Go.RowKit in
/-- internal/stringslite.Clone (what strings.Clone calls): "Clone returns a fresh copy of s.": THE SAME BYTES. Of what was there nothing has turned (a new row is laid, and frozen, where s is not empty). (LAID: no walk: one application.) -/
theorem liteClone (s : ByteArray) (w : World) (hlim : s.size ≤ 281474976710656) :
    Calls Try.prog 34 #[.string s] w fun e w' => e = .returned (.string s) ∧ Below w.heap.size w w' := Any.stringslite_Clone cloneL s w hlim
end Go.Proofs.Qxb6000508a
