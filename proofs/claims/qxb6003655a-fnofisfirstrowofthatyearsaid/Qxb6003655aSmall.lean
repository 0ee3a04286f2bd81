import Derived.Test.Qxb6003655aMap
import Derived.Test.Qxb6003655aCopies
namespace Go.Proofs.Qxb6003655a
open Go.ChangeShapes Go.WideShapes Go.ChangeAt Go.RowKit Go.Maps

theorem RowView.i16 {w : World} {a : Option Addr} {zs : List Int} (h : RowView w a (zs.map (Value.int .i16))) {k : Nat} (hk : k < zs.length) (len cap : Nat) (hl : k < len) :
    ∃ b off, (∀ W, (Instr.indexAt 23 (.slice a len cap) (.int .i64 (k : Int))).run Try.prog W = .ok (.pointer (some ⟨b, off + k, none⟩)) W) ∧ b < w.heap.size ∧ w.cell? ⟨b, off + k, none⟩ = some (.int .i16 (zs.getD k 0)) := by
  obtain ⟨b, off, ha, hlt, hc⟩ := h.at_ k (by simpa using hk)
  refine ⟨b, off, fun W => run_index_at 23 35 a len cap k b off ha hl Try.underlying23 Try.cell35 W, hlt, ?_⟩
  rw [hc k (by simpa using hk)]
  simp [hk]

set_option maxHeartbeats 1000000 in
/-- The copy of a slice of int16s. -/
theorem copyInt16s_any (a : Option Addr) (c : Nat) (zs : List Int) (w : World) (h0 : RowView w a (zs.map (Value.int .i16))) (b0 : zs.length ≤ 65536) :
    Calls Try.prog 7 #[.slice a zs.length c] w fun e w' => ∃ a' c', e = .returned (.slice a' zs.length c') ∧ RowView w' a' (zs.map (Value.int .i16)) ∧ Below w.heap.size w w' := by
  have heq : ∀ (w : World) (a : Option Addr) (n c n' c' : Nat), (binOp .eql 23 (.slice a n c) (.slice none n' c')).run Try.prog w = .ok (.bool a.isNone) w := fun w a n c n' c' => Lib.run_eql_slice_nil w _ _ a n c n' c' Try.underlying23
  by_cases ha : a = none
  · have hss : zs = [] := by simpa using h0.nil_ ha
    subst ha
    subst hss
    go_enter Try.func7, Try.ntmps7
    go_wp2
    go_ret
    exact ⟨none, 0, rfl, ⟨fun k hk => by simp at hk, fun _ => rfl⟩, Below.refl _ _⟩
  · have hno : a.isNone = false := by cases a <;> simp_all
    clear ha
    obtain ⟨M, hMs, _, hmk⟩ := make_row 23 35 (.int .i16 0) 2 Try.underlying23 Try.info35 rfl zs.length (by omega) (by omega)
    go_enter Try.func7, Try.ntmps7
    go_wp2
    go_loopw [4] (fun i wr => ∃ k : Nat, k ≤ zs.length ∧ i = .int .i64 k ∧ Below w.heap.size w wr ∧ ∃ A : Array Value, wr.heap[w.heap.size]? = some (.cells A 35 (0, 0)) ∧ A.size = zs.length ∧ ∀ j, j < k → A[j]? = (zs.map (Value.int .i16))[j]?)
      (fun i _ => zs.length - (intOf i).toNat)
    case atStart => exact ⟨0, Nat.zero_le _, rfl, (Below.refl _ _).alloc (Nat.le_refl _) _, M, heap_alloc_new _ _, hMs, fun j hj => absurd hj (Nat.not_lt_zero _)⟩
    case round =>
      obtain ⟨k, hk, rfl, hbel, A, hA, hAs, hAk⟩ := hrel
      by_cases hlt : k < zs.length
      · obtain ⟨b, off, hix, hb, hc⟩ := h0.i16 hlt zs.length c hlt
        obtain ⟨s, hs⟩ : ∃ s, s = zs.getD k 0 := ⟨_, rfl⟩
        rw [← hs] at hc
        have HS : Hid (s = zs.getD k 0) := hs
        have hcr : wr.cell? ⟨b, off + k, none⟩ = some (.int .i16 s) := by rw [hbel.cell (by exact hb)]; exact hc
        have hcw : wr.cell? ⟨w.heap.size, k, none⟩ = some (A[k]'(by omega)) := by rw [cell_of_row wr _ _ A 35 (0, 0) hA, Array.getElem?_eq_getElem]
        have hfw : wr.frozen? ⟨w.heap.size, k, none⟩ = false := frozen_of_row wr _ _ A 35 hA
        have HA : Hid (wr.heap[w.heap.size]? = some (.cells A 35 (0, 0))) := hA
        have HK : Hid (∀ j, j < k → A[j]? = (zs.map (Value.int .i16))[j]?) := hAk
        clear hs h0 hA hAk hc
        go_wp2
        go_roundw
        case rel =>
          refine ⟨k + 1, by omega, by go_num, hbel.setCell (Nat.le_refl _) _, _, heap_setCell_same _ _ _ _ _ _ HA.out, by simpa using hAs, ?_⟩
          intro j hj
          by_cases hjk : j = k
          · subst hjk
            rw [HS.out]
            simp [hAs, hlt]
          · rw [Array.getElem?_setIfInBounds_ne (by omega)]
            exact HK.out j (by omega)
        case measure => simp [intOf]; omega
      · clear h0
        go_wp2
        go_ret
        exact ⟨_, _, rfl, view_of_row hA (fun i hi => hAk i (by simp at hi; omega)), hbel⟩

/-- The empty file's cells. -/
def newCells (bf bt : Nat) : Array Value := #[.map (some bf), .slice none 0 0, .int .i32 0, .slice none 0 0, .map (some bt), .int .i64 0]

/-- ZZNew: two maps and the struct, each in a block of its own. -/
theorem new_any (w : World) :
    Calls Try.prog 8 #[] w fun e w' => e = .returned (.pointer (some ⟨w.heap.size + 2, 0, none⟩)) ∧ w' = ((w.alloc (.map #[] 0)).alloc (.map #[] 0)).alloc (.cells (newCells w.heap.size (w.heap.size + 1)) 44) := by
  have hmm := @run_makeMap Try.prog
  go_enter Try.func8, Try.ntmps8
  go_wp2
  go_ret
  exact ⟨rfl, rfl⟩

/-- ZZSetFirst: the one store into the map. -/
theorem setFirst_any (w : World) (bg bf n : Nat) (f : ByteArray → Option Int) (s : ByteArray) (c : Int) (hc0 : w.cell? ⟨bg, 0, none⟩ = some (.map (some bf))) (hM : MapF w bf n f) (hn : n < maxLen) (hs : s.size ≤ maxLen) (hc : (Lit.int .i32 c).wf = true) :
    Calls Try.prog 9 #[.pointer (some ⟨bg, 0, none⟩), .string s, .int .i32 c] w fun e w' => e = .returned (.tuple #[]) ∧ MapF w' bf (n + 1) (upd f s c) ∧ w.grownBy w' (some bf) := by
  go_enter Try.func9, Try.ntmps9
  go_wp2_with (at_mapUpdate; refine wpList_putF _ rfl _ _ _ rfl bf n f rfl hM hn s rfl hs c rfl hc ?_; intro w1 hM1 hg1)
  go_end0
  exact ⟨rfl, ‹_›, ‹_›⟩
end Go.Proofs.Qxb6003655a
