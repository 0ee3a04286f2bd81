/- THE CONTRACT OF stringslite.Clone AT THIS DUMP, laid by the kit's tool in plain words; and strings.Clone over it. -/
import Derived.Shelf.LaysM
import Derived.Shelf.Strconv.Clone
import Derived.Test.Qxb6003655aBase
namespace Go.Proofs.Qxb6003655a
open Go.Shelf Go.RowKit
def laysM316_ren : Go.Shelf.Ren := ⟨fun | 316 => 18 | n => n, fun | 9 => 9 | 3 => 3 | 4 => 4 | 37 => 54 | 0 => 0 | 127 => 55 | 5 => 5 | n => n, fun | n => n⟩
theorem laysM316 : Go.Proofs.LaysM.n316 Try.prog laysM316_ren := {
  mixed := by kernel_rfl
  f316 := Try.func18.trans (congrArg some (by kernel_rfl))
  t0 := Try.underlying0
  a0 := Try.isAgg0
  z0 := Try.sizeOf0
  v0 := Try.zeroValue0
  t3 := Try.underlying3
  a3 := Try.isAgg3
  z3 := Try.sizeOf3
  v3 := Try.zeroValue3
  t4 := Try.underlying4
  a4 := Try.isAgg4
  z4 := Try.sizeOf4
  v4 := Try.zeroValue4
  t9 := Try.underlying9
  a9 := Try.isAgg9
  z9 := Try.sizeOf9
  v9 := Try.zeroValue9
  t37 := Try.underlying54
  a37 := Try.isAgg54
  z37 := Try.sizeOf54
  v37 := Try.zeroValue54
  t127 := Try.underlying55
  a127 := Try.isAgg55
  z127 := Try.sizeOf55
  v127 := Try.zeroValue55
  t5 := Try.underlying5
  a5 := Try.isAgg5
  z5 := Try.sizeOf5
  v5 := Try.zeroValue5
  i0 := by kernel_rfl
  i3 := by kernel_rfl
  i4 := by kernel_rfl
  i5 := by kernel_rfl
  i9 := by kernel_rfl
  i37 := by kernel_rfl
  i127 := by kernel_rfl }
/-- internal/stringslite.Clone (what strings.Clone calls): "Clone returns a fresh copy of s.": THE SAME BYTES. Of what was there nothing has turned (a new row is laid, and frozen, where s is not empty). (LAID: no walk: one application.) -/
theorem slClone_any (s : ByteArray) (w : World) (hlim : s.size ≤ 281474976710656) :
    Calls Try.prog 18 #[.string s] w fun e w' => e = .returned (.string s) ∧ Below w.heap.size w w' := Any.stringslite_Clone laysM316 s w hlim

/-- strings.Clone: the same bytes. -/
theorem clone_any (s : ByteArray) (w : World) (hlim : s.size ≤ 281474976710656) :
    Calls Try.prog 17 #[.string s] w fun e w' => e = .returned (.string s) ∧ Below w.heap.size w w' := by
  go_enter Try.func17, Try.ntmps17
  go_wp2_with (go_at_call 18; refine (slClone_any s _ hlim).mono ?_; rintro e w1 ⟨rfl, hb⟩)
  go_ret
  exact ⟨rfl, ‹_›⟩
end Go.Proofs.Qxb6003655a
