import Derived.Test.Qxb6003655aRows
import Derived.WalkKit
import Derived.ProofKit
import Derived.OpenShut
import Derived.ShutString
import Derived.ChangeOld
import Derived.Below
import Derived.SliceStrings
import Derived.WalkLawsBesides
import Derived.WalkSpells
namespace Go.Proofs.Qxb6003655a
open Go.ChangeShapes Go.WideShapes Go.ChangeAt Go.RowKit

/-- A slice of one-cell elements that the walk reads: where there is an element, the address is plain and the cells hold them. -/
structure RowView (w : World) (a : Option Addr) (vs : List Value) : Prop where
  at_ : ∀ k, k < vs.length → ∃ b off, a = some ⟨b, off, none⟩ ∧ b < w.heap.size ∧ ∀ i, i < vs.length → w.cell? ⟨b, off + i, none⟩ = vs[i]?
  nil_ : a = none → vs = []

theorem RowView.below {w w' : World} {a : Option Addr} {vs : List Value} (h : RowView w a vs) (hb : Below w.heap.size w w') : RowView w' a vs :=
  ⟨fun k hk => by
    obtain ⟨b, off, ha, hlt, hc⟩ := h.at_ k hk
    exact ⟨b, off, ha, Nat.lt_of_lt_of_le hlt hb.size, fun i hi => by rw [hb.cell (by exact hlt)]; exact hc i hi⟩, h.nil_⟩

theorem run_index_at (t e : TypeId) (a : Option Addr) (len cap k : Nat) (b off : Nat) (ha : a = some ⟨b, off, none⟩) (hk : k < len)
    (ht : Try.prog.underlying t = some (.slice e)) (hs : (Try.prog.info? e).map (·.size) = some 1) (w : World) :
    (Instr.indexAt t (.slice a len cap) (.int .i64 (k : Int))).run Try.prog w = .ok (.pointer (some ⟨b, off + k, none⟩)) w := by
  subst ha
  obtain ⟨i, hi, hsz⟩ := Option.map_eq_some_iff.1 hs
  simp [Instr.indexAt, run_underlying ht, asIntOf, hk, sizeOf, typeInfo, hi, hsz, Addr.add]
  try (intro h; simp [h])

theorem Try.cell9 : (Try.prog.info? 9).map (·.size) = some 1 := by kernel_rfl
theorem Try.cell35 : (Try.prog.info? 35).map (·.size) = some 1 := by kernel_rfl
theorem Try.cell21 : (Try.prog.info? 21).map (·.size) = some 1 := by kernel_rfl

/-- What the walk needs of a string's place in a row. -/
theorem RowView.str {w : World} {a : Option Addr} {ss : List ByteArray} (h : RowView w a (ss.map Value.string)) {k : Nat} (hk : k < ss.length) (len cap : Nat) (hl : k < len) :
    ∃ b off, (∀ W, (Instr.indexAt 22 (.slice a len cap) (.int .i64 (k : Int))).run Try.prog W = .ok (.pointer (some ⟨b, off + k, none⟩)) W) ∧ b < w.heap.size ∧ w.cell? ⟨b, off + k, none⟩ = some (.string (ss.getD k ByteArray.empty)) := by
  obtain ⟨b, off, ha, hlt, hc⟩ := h.at_ k (by simpa using hk)
  refine ⟨b, off, fun W => run_index_at 22 9 a len cap k b off ha hl Try.underlying22 Try.cell9 W, hlt, ?_⟩
  rw [hc k (by simpa using hk)]
  simp [hk]

end Go.Proofs.Qxb6003655a
