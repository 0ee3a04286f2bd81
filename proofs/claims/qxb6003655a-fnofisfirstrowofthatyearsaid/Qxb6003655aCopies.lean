import Derived.Test.Qxb6003655aBase
namespace Go.Proofs.Qxb6003655a
open Go.ChangeShapes Go.WideShapes Go.ChangeAt Go.RowKit

theorem Try.info9 : (Try.prog.info? 9).map (fun i => (i.zero, i.size, i.bytes)) = some (some (.string ⟨#[]⟩), 1, 16) := by kernel_rfl
theorem Try.info35 : (Try.prog.info? 35).map (fun i => (i.zero, i.size, i.bytes)) = some (some (.int .i16 0), 1, 2) := by kernel_rfl
theorem Try.info21 : (Try.prog.info? 21).map (fun i => (i.zero, i.size, i.bytes)) = some (some (.int .i32 0), 1, 4) := by kernel_rfl

/-- 'make([]T, n)' of one-cell elements. -/
theorem make_row (t e : TypeId) (z : Value) (bytes : Nat) (ht : Try.prog.underlying t = some (.slice e)) (hi : (Try.prog.info? e).map (fun i => (i.zero, i.size, i.bytes)) = some (some z, 1, bytes)) (hz : z.cells = #[z]) (n : Nat) (hb : bytes * n ≤ 281474976710656) (hn : n ≤ 9223372036854775807) :
    ∃ M : Array Value, M.size = n ∧ (∀ j, j < n → M[j]? = some z) ∧ ∀ W : World, (Instr.makeSlice t (.int .i64 (n : Int)) (.int .i64 (n : Int))).run Try.prog W = .ok (.slice (some ⟨W.heap.size, 0, none⟩) n n) (W.alloc (.cells M e)) := by
  obtain ⟨i0, hi0, hz0, hz1, hz2⟩ := info_parts hi
  refine ⟨madeCells z.cells (((n : Nat) : Int).toNat * i0.size), by rw [size_madeCells, hz1]; simp, ?_, fun W => ?_⟩
  · intro j hj
    simp [madeCells, hz1, hj, hz, Nat.mod_one]
  · have h := run_make (P := Try.prog) W t e i0 z ht hi0 hz0 .i64 .i64 (n : Int) (n : Int) (by omega) (by omega) (by rw [hz2]; omega) (by omega)
    simpa using h

/-- Block g holds the row A, nothing frozen. -/
theorem row_lt {w : World} {g : Nat} {o : Obj} (h : w.heap[g]? = some o) : g < w.heap.size := (Array.getElem?_eq_some_iff.1 h).1

theorem view_of_row {w : World} {g : Nat} {A : Array Value} {e : TypeId} {fz : Nat × Nat} {vs : List Value} (h : w.heap[g]? = some (.cells A e fz)) (hA : ∀ i, i < vs.length → A[i]? = vs[i]?) : RowView w (some ⟨g, 0, none⟩) vs :=
  ⟨fun _ _ => ⟨g, 0, rfl, row_lt h, fun i hi => by rw [cell_of_row w g _ A e fz h]; simpa using hA i hi⟩, fun h => by cases h⟩

set_option maxHeartbeats 1000000 in
/-- The copy of a slice of strings: the same elements; of what was there nothing has turned. -/
theorem copyStrings_any (a : Option Addr) (c : Nat) (ss : List ByteArray) (w : World) (h0 : RowView w a (ss.map Value.string)) (b0 : ss.length ≤ 65536) :
    Calls Try.prog 6 #[.slice a ss.length c] w fun e w' => ∃ a' c', e = .returned (.slice a' ss.length c') ∧ RowView w' a' (ss.map Value.string) ∧ Below w.heap.size w w' := by
  have heq : ∀ (w : World) (a : Option Addr) (n c n' c' : Nat), (binOp .eql 22 (.slice a n c) (.slice none n' c')).run Try.prog w = .ok (.bool a.isNone) w := fun w a n c n' c' => Lib.run_eql_slice_nil w _ _ a n c n' c' Try.underlying22
  by_cases ha : a = none
  · have hss : ss = [] := by simpa using h0.nil_ ha
    subst ha
    subst hss
    go_enter Try.func6, Try.ntmps6
    go_wp2
    go_ret
    exact ⟨none, 0, rfl, ⟨fun k hk => by simp at hk, fun _ => rfl⟩, Below.refl _ _⟩
  · have hno : a.isNone = false := by cases a <;> simp_all
    clear ha
    obtain ⟨M, hMs, _, hmk⟩ := make_row 22 9 (.string ⟨#[]⟩) 16 Try.underlying22 Try.info9 rfl ss.length (by omega) (by omega)
    go_enter Try.func6, Try.ntmps6
    go_wp2
    go_loopw [4] (fun i wr => ∃ k : Nat, k ≤ ss.length ∧ i = .int .i64 k ∧ Below w.heap.size w wr ∧ ∃ A : Array Value, wr.heap[w.heap.size]? = some (.cells A 9 (0, 0)) ∧ A.size = ss.length ∧ ∀ j, j < k → A[j]? = (ss.map Value.string)[j]?)
      (fun i _ => ss.length - (intOf i).toNat)
    case atStart => exact ⟨0, Nat.zero_le _, rfl, (Below.refl _ _).alloc (Nat.le_refl _) _, M, heap_alloc_new _ _, hMs, fun j hj => absurd hj (Nat.not_lt_zero _)⟩
    case round =>
      obtain ⟨k, hk, rfl, hbel, A, hA, hAs, hAk⟩ := hrel
      by_cases hlt : k < ss.length
      · obtain ⟨b, off, hix, hb, hc⟩ := h0.str hlt ss.length c hlt
        obtain ⟨s, hs⟩ : ∃ s, s = ss.getD k ByteArray.empty := ⟨_, rfl⟩
        rw [← hs] at hc
        have HS : Hid (s = ss.getD k ByteArray.empty) := hs
        have hcr : wr.cell? ⟨b, off + k, none⟩ = some (.string s) := by rw [hbel.cell (by exact hb)]; exact hc
        have hcw : wr.cell? ⟨w.heap.size, k, none⟩ = some (A[k]'(by omega)) := by rw [cell_of_row wr _ _ A 9 (0, 0) hA, Array.getElem?_eq_getElem]
        have hfw : wr.frozen? ⟨w.heap.size, k, none⟩ = false := frozen_of_row wr _ _ A 9 hA
        have HA : Hid (wr.heap[w.heap.size]? = some (.cells A 9 (0, 0))) := hA
        have HK : Hid (∀ j, j < k → A[j]? = (ss.map Value.string)[j]?) := hAk
        clear hs h0 hA hAk hc
        go_wp2
        go_roundw
        case rel =>
          refine ⟨k + 1, by omega, by go_num, hbel.setCell (Nat.le_refl _) _, _, heap_setCell_same _ _ _ _ _ _ HA.out, by simpa using hAs, ?_⟩
          intro j hj
          by_cases hjk : j = k
          · subst hjk
            rw [HS.out]
            simp [hAs, hlt]
          · rw [Array.getElem?_setIfInBounds_ne (by omega)]
            exact HK.out j (by omega)
        case measure => simp [intOf]; omega
      · clear h0
        go_wp2
        go_ret
        exact ⟨_, _, rfl, view_of_row hA (fun i hi => hAk i (by simp at hi; omega)), hbel⟩
end Go.Proofs.Qxb6003655a
