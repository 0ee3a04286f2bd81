import Derived.Test.Qxb6001364aRows
import Derived.WalkKit
import Derived.ProofKit
import Derived.OpenShut
import Derived.ShutString
import Derived.ChangeOld
import Derived.Below
import Derived.WalkLawsBesides
import Derived.WalkSpells
import Derived.Deep.QuietTactic
import Derived.BigQuiet
import Derived.Deep.DeepMust
import Derived.Deep.RegionHeld3
import Derived.Deep.DrawnRows
import Derived.Deep.RegionLaw
import Derived.Deep.AppendLies
namespace Go.Proofs.Qxb6001364a
open Go.ChangeShapes Go.WideShapes Go.ChangeAt Go.RowKit

/-- A slice of one-cell elements that the walk reads: where there is an element, the address is plain and the cells hold them. -/
structure RowView (w : World) (a : Option Addr) (vs : List Value) : Prop where
  at_ : ∀ k, k < vs.length → ∃ b off, a = some ⟨b, off, none⟩ ∧ b < w.heap.size ∧ ∀ i, i < vs.length → w.cell? ⟨b, off + i, none⟩ = vs[i]?
  nil_ : a = none → vs = []

theorem RowView.below {w w' : World} {a : Option Addr} {vs : List Value} (h : RowView w a vs) (hb : Below w.heap.size w w') : RowView w' a vs :=
  ⟨fun k hk => by
    obtain ⟨b, off, ha, hlt, hc⟩ := h.at_ k hk
    exact ⟨b, off, ha, Nat.lt_of_lt_of_le hlt hb.size, fun i hi => by rw [hb.cell (by exact hlt)]; exact hc i hi⟩, h.nil_⟩

theorem run_index_at (t e : TypeId) (a : Option Addr) (len cap k : Nat) (b off : Nat) (ha : a = some ⟨b, off, none⟩) (hk : k < len)
    (ht : Try.prog.underlying t = some (.slice e)) (hs : (Try.prog.info? e).map (·.size) = some 1) (w : World) :
    (Instr.indexAt t (.slice a len cap) (.int .i64 (k : Int))).run Try.prog w = .ok (.pointer (some ⟨b, off + k, none⟩)) w := by
  subst ha
  obtain ⟨i, hi, hsz⟩ := Option.map_eq_some_iff.1 hs
  simp [Instr.indexAt, run_underlying ht, asIntOf, hk, sizeOf, typeInfo, hi, hsz, Addr.add]
  try (intro h; simp [h])

theorem Try.cell3 : (Try.prog.info? 3).map (·.size) = some 1 := by kernel_rfl
theorem Try.cell4 : (Try.prog.info? 4).map (·.size) = some 1 := by kernel_rfl
theorem Try.info3 : (Try.prog.info? 3).map (fun i => (i.zero, i.size, i.bytes)) = some (some (.int .i64 0), 1, 8) := by kernel_rfl
theorem Try.info4 : (Try.prog.info? 4).map (fun i => (i.zero, i.size, i.bytes)) = some (some (.bool false), 1, 1) := by kernel_rfl
theorem Try.info9 : (Try.prog.info? 9).map (fun i => (i.zero, i.size, i.bytes)) = some (some (.string ⟨#[]⟩), 1, 16) := by kernel_rfl
theorem Try.info22 : (Try.prog.info? 22).map (fun i => (i.zero, i.size, i.bytes)) = some (some (.slice none 0 0), 1, 24) := by kernel_rfl
theorem Try.info23 : (Try.prog.info? 23).map (fun i => (i.zero, i.size, i.bytes)) = some (some (.slice none 0 0), 1, 24) := by kernel_rfl
theorem Try.info61 : (Try.prog.info? 61).map (fun i => (i.zero, i.size, i.bytes)) = some (some (.slice none 0 0), 1, 24) := by kernel_rfl
theorem Try.info63 : (Try.prog.info? 63).map (fun i => (i.zero, i.size, i.bytes)) = some (some (.agg #[.int .i64 0, .int .i64 0]), 2, 16) := by kernel_rfl
theorem Try.info82 : (Try.prog.info? 82).map (fun i => (i.zero, i.size, i.bytes)) = some (some (.agg #[.int .i64 0, .bool false]), 2, 16) := by kernel_rfl

/-- An int of a slice that is read. -/
theorem RowView.int {w : World} {a : Option Addr} {zs : List Int} (h : RowView w a (zs.map (Value.int .i64))) {k : Nat} {z : Int} (hz : zs[k]? = some z) (len cap : Nat) (hl : k < len) :
    ∃ b off, (∀ W, (Instr.indexAt 22 (.slice a len cap) (.int .i64 (k : Int))).run Try.prog W = .ok (.pointer (some ⟨b, off + k, none⟩)) W) ∧ b < w.heap.size ∧ w.cell? ⟨b, off + k, none⟩ = some (.int .i64 z) := by
  have hk := (List.getElem?_eq_some_iff.1 hz).1
  obtain ⟨b, off, ha, hlt, hc⟩ := h.at_ k (by simpa using hk)
  refine ⟨b, off, fun W => run_index_at 22 3 a len cap k b off ha hl Try.underlying22 Try.cell3 W, hlt, ?_⟩
  rw [hc k (by simpa using hk)]
  simp [hz]
/-- A bool of a slice that is read. -/
theorem RowView.bool {w : World} {a : Option Addr} {zs : List Bool} (h : RowView w a (zs.map Value.bool)) {k : Nat} {z : Bool} (hz : zs[k]? = some z) (len cap : Nat) (hl : k < len) :
    ∃ b off, (∀ W, (Instr.indexAt 23 (.slice a len cap) (.int .i64 (k : Int))).run Try.prog W = .ok (.pointer (some ⟨b, off + k, none⟩)) W) ∧ b < w.heap.size ∧ w.cell? ⟨b, off + k, none⟩ = some (.bool z) := by
  have hk := (List.getElem?_eq_some_iff.1 hz).1
  obtain ⟨b, off, ha, hlt, hc⟩ := h.at_ k (by simpa using hk)
  refine ⟨b, off, fun W => run_index_at 23 4 a len cap k b off ha hl Try.underlying23 Try.cell4 W, hlt, ?_⟩
  rw [hc k (by simpa using hk)]
  simp [hz]

/-- 'make([]T, n)' of one-cell elements. -/
theorem make_row (t e : TypeId) (z : Value) (bytes : Nat) (ht : Try.prog.underlying t = some (.slice e)) (hi : (Try.prog.info? e).map (fun i => (i.zero, i.size, i.bytes)) = some (some z, 1, bytes)) (hz : z.cells = #[z]) (n : Nat) (hb : bytes * n ≤ 281474976710656) (hn : n ≤ 9223372036854775807) :
    ∃ M : Array Value, M.size = n ∧ (∀ j, j < n → M[j]? = some z) ∧ ∀ W : World, (Instr.makeSlice t (.int .i64 (n : Int)) (.int .i64 (n : Int))).run Try.prog W = .ok (.slice (some ⟨W.heap.size, 0, none⟩) n n) (W.alloc (.cells M e)) := by
  obtain ⟨i0, hi0, hz0, hz1, hz2⟩ := info_parts hi
  refine ⟨madeCells z.cells (((n : Nat) : Int).toNat * i0.size), by rw [size_madeCells, hz1]; simp, ?_, fun W => ?_⟩
  · intro j hj
    simp [madeCells, hz1, hj, hz, Nat.mod_one]
  · have h := run_make (P := Try.prog) W t e i0 z ht hi0 hz0 .i64 .i64 (n : Int) (n : Int) (by omega) (by omega) (by rw [hz2]; omega) (by omega)
    simpa using h

theorem row_lt {w : World} {g : Nat} {o : Obj} (h : w.heap[g]? = some o) : g < w.heap.size := (Array.getElem?_eq_some_iff.1 h).1
theorem ne_of_obj {w : World} {k g : Nat} {o o' : Obj} (h : w.heap[k]? = some o) (h' : w.heap[g]? = some o') (hne : o ≠ o') : k ≠ g := by
  intro e
  subst e
  rw [h] at h'
  cases h'
  exact hne rfl
theorem view_of_row {w : World} {g : Nat} {A : Array Value} {e : TypeId} {fz : Nat × Nat} {vs : List Value} (h : w.heap[g]? = some (.cells A e fz)) (hA : ∀ i, i < vs.length → A[i]? = vs[i]?) : RowView w (some ⟨g, 0, none⟩) vs :=
  ⟨fun _ _ => ⟨g, 0, rfl, row_lt h, fun i hi => by rw [cell_of_row w g _ A e fz h]; simpa using hA i hi⟩, fun h => by cases h⟩

/-- It hands back some bool; where that is true, P holds. -/
def RetB (P : Prop) (e : Ending) : Prop := ∃ b, e = .returned (.bool b) ∧ (b = true → P)
theorem RetB.no (P : Prop) : RetB P (.returned (.bool false)) := ⟨false, rfl, fun h => by cases h⟩
theorem RetB.yes {P : Prop} (b : Bool) (h : P) : RetB P (.returned (.bool b)) := ⟨b, rfl, fun _ => h⟩

theorem bytes_any (n : Int) (a1 a2 a3 : Option Addr) (n1 n2 n3 c1 c2 c3 : Nat) (w : World) (h1 : n1 ≤ 9223372036854775807) (h2 : n2 ≤ 9223372036854775807) (h3 : n3 ≤ 9223372036854775807) :
    Calls Try.prog 19 #[.int .i64 n, .slice a1 n1 c1, .slice a2 n2 c2, .slice a3 n3 c3] w fun e w' => RetB True e ∧ w' = w := by
  go_enter Try.func19, Try.ntmps19
  go_wp2
  all_goals (go_ret; exact ⟨RetB.yes _ trivial, rfl⟩)

set_option maxHeartbeats 1000000 in
/-- The copy of a slice of ints. -/
theorem cloneInts_any (a : Option Addr) (c : Nat) (zs : List Int) (w : World) (h0 : RowView w a (zs.map (Value.int .i64))) (b0 : zs.length ≤ 65536) :
    Calls Try.prog 10 #[.slice a zs.length c] w fun e w' => ∃ a' c', e = .returned (.slice a' zs.length c') ∧ RowView w' a' (zs.map (Value.int .i64)) ∧ Below w.heap.size w w' := by
  have heq : ∀ (w : World) (a : Option Addr) (n c n' c' : Nat), (binOp .eql 22 (.slice a n c) (.slice none n' c')).run Try.prog w = .ok (.bool a.isNone) w := fun w a n c n' c' => Lib.run_eql_slice_nil w _ _ a n c n' c' Try.underlying22
  by_cases ha : a = none
  · have hss : zs = [] := by simpa using h0.nil_ ha
    subst ha
    subst hss
    go_enter Try.func10, Try.ntmps10
    go_wp2
    go_ret
    exact ⟨none, 0, rfl, ⟨fun k hk => by simp at hk, fun _ => rfl⟩, Below.refl _ _⟩
  · have hno : a.isNone = false := by cases a <;> simp_all
    clear ha
    obtain ⟨M, hMs, _, hmk⟩ := make_row 22 3 (.int .i64 0) 8 Try.underlying22 Try.info3 rfl zs.length (by omega) (by omega)
    go_enter Try.func10, Try.ntmps10
    go_wp2
    go_loopw [4] (fun i wr => ∃ k : Nat, k ≤ zs.length ∧ i = .int .i64 k ∧ Below w.heap.size w wr ∧ ∃ A : Array Value, wr.heap[w.heap.size]? = some (.cells A 3 (0, 0)) ∧ A.size = zs.length ∧ ∀ j, j < k → A[j]? = (zs.map (Value.int .i64))[j]?)
      (fun i _ => zs.length - (intOf i).toNat)
    case atStart => exact ⟨0, Nat.zero_le _, rfl, (Below.refl _ _).alloc (Nat.le_refl _) _, M, heap_alloc_new _ _, hMs, fun j hj => absurd hj (Nat.not_lt_zero _)⟩
    case round =>
      obtain ⟨k, hk, rfl, hbel, A, hA, hAs, hAk⟩ := hrel
      by_cases hlt : k < zs.length
      · obtain ⟨s, hs⟩ : ∃ s, zs[k]? = some s := ⟨_, List.getElem?_eq_getElem hlt⟩
        obtain ⟨b, off, hix, hb, hc⟩ := h0.int hs zs.length c hlt
        have HS : Hid (zs[k]? = some s) := hs
        have hcr : wr.cell? ⟨b, off + k, none⟩ = some (.int .i64 s) := by rw [hbel.cell (by exact hb)]; exact hc
        have hcw : wr.cell? ⟨w.heap.size, k, none⟩ = some (A[k]'(by omega)) := by rw [cell_of_row wr _ _ A 3 (0, 0) hA, Array.getElem?_eq_getElem]
        have hfw : wr.frozen? ⟨w.heap.size, k, none⟩ = false := frozen_of_row wr _ _ A 3 hA
        have HA : Hid (wr.heap[w.heap.size]? = some (.cells A 3 (0, 0))) := hA
        have HK : Hid (∀ j, j < k → A[j]? = (zs.map (Value.int .i64))[j]?) := hAk
        clear hs h0 hA hAk hc
        go_wp2
        go_roundw
        case rel =>
          refine ⟨k + 1, by omega, by go_num, hbel.setCell (Nat.le_refl _) _, _, heap_setCell_same _ _ _ _ _ _ HA.out, by simpa using hAs, ?_⟩
          intro j hj
          by_cases hjk : j = k
          · subst hjk
            rw [List.getElem?_map, HS.out]
            simp [hAs, hlt]
          · rw [Array.getElem?_setIfInBounds_ne (by omega)]
            exact HK.out j (by omega)
        case measure => simp [intOf]; omega
      · clear h0
        go_wp2
        go_ret
        exact ⟨_, _, rfl, view_of_row hA (fun i hi => hAk i (by simp at hi; omega)), hbel⟩

set_option maxHeartbeats 1000000 in
/-- The copy of a slice of bools. -/
theorem cloneBools_any (a : Option Addr) (c : Nat) (zs : List Bool) (w : World) (h0 : RowView w a (zs.map Value.bool)) (b0 : zs.length ≤ 65536) :
    Calls Try.prog 11 #[.slice a zs.length c] w fun e w' => ∃ a' c', e = .returned (.slice a' zs.length c') ∧ RowView w' a' (zs.map Value.bool) ∧ Below w.heap.size w w' := by
  have heq : ∀ (w : World) (a : Option Addr) (n c n' c' : Nat), (binOp .eql 23 (.slice a n c) (.slice none n' c')).run Try.prog w = .ok (.bool a.isNone) w := fun w a n c n' c' => Lib.run_eql_slice_nil w _ _ a n c n' c' Try.underlying23
  by_cases ha : a = none
  · have hss : zs = [] := by simpa using h0.nil_ ha
    subst ha
    subst hss
    go_enter Try.func11, Try.ntmps11
    go_wp2
    go_ret
    exact ⟨none, 0, rfl, ⟨fun k hk => by simp at hk, fun _ => rfl⟩, Below.refl _ _⟩
  · have hno : a.isNone = false := by cases a <;> simp_all
    clear ha
    obtain ⟨M, hMs, _, hmk⟩ := make_row 23 4 (.bool false) 1 Try.underlying23 Try.info4 rfl zs.length (by omega) (by omega)
    go_enter Try.func11, Try.ntmps11
    go_wp2
    go_loopw [4] (fun i wr => ∃ k : Nat, k ≤ zs.length ∧ i = .int .i64 k ∧ Below w.heap.size w wr ∧ ∃ A : Array Value, wr.heap[w.heap.size]? = some (.cells A 4 (0, 0)) ∧ A.size = zs.length ∧ ∀ j, j < k → A[j]? = (zs.map Value.bool)[j]?)
      (fun i _ => zs.length - (intOf i).toNat)
    case atStart => exact ⟨0, Nat.zero_le _, rfl, (Below.refl _ _).alloc (Nat.le_refl _) _, M, heap_alloc_new _ _, hMs, fun j hj => absurd hj (Nat.not_lt_zero _)⟩
    case round =>
      obtain ⟨k, hk, rfl, hbel, A, hA, hAs, hAk⟩ := hrel
      by_cases hlt : k < zs.length
      · obtain ⟨s, hs⟩ : ∃ s, zs[k]? = some s := ⟨_, List.getElem?_eq_getElem hlt⟩
        obtain ⟨b, off, hix, hb, hc⟩ := h0.bool hs zs.length c hlt
        have HS : Hid (zs[k]? = some s) := hs
        have hcr : wr.cell? ⟨b, off + k, none⟩ = some (.bool s) := by rw [hbel.cell (by exact hb)]; exact hc
        have hcw : wr.cell? ⟨w.heap.size, k, none⟩ = some (A[k]'(by omega)) := by rw [cell_of_row wr _ _ A 4 (0, 0) hA, Array.getElem?_eq_getElem]
        have hfw : wr.frozen? ⟨w.heap.size, k, none⟩ = false := frozen_of_row wr _ _ A 4 hA
        have HA : Hid (wr.heap[w.heap.size]? = some (.cells A 4 (0, 0))) := hA
        have HK : Hid (∀ j, j < k → A[j]? = (zs.map Value.bool)[j]?) := hAk
        clear hs h0 hA hAk hc
        go_wp2
        go_roundw
        case rel =>
          refine ⟨k + 1, by omega, by go_num, hbel.setCell (Nat.le_refl _) _, _, heap_setCell_same _ _ _ _ _ _ HA.out, by simpa using hAs, ?_⟩
          intro j hj
          by_cases hjk : j = k
          · subst hjk
            rw [List.getElem?_map, HS.out]
            simp [hAs, hlt]
          · rw [Array.getElem?_setIfInBounds_ne (by omega)]
            exact HK.out j (by omega)
        case measure => simp [intOf]; omega
      · clear h0
        go_wp2
        go_ret
        exact ⟨_, _, rfl, view_of_row hA (fun i hi => hAk i (by simp at hi; omega)), hbel⟩

/-- The columns have one length, every node lies in [0, n). -/
def HistOk (zs : List Int) (n : Int) (n2 n3 : Nat) : Prop := n2 = zs.length ∧ n3 = zs.length ∧ ∀ z ∈ zs, 0 ≤ z ∧ z < n

set_option maxHeartbeats 1000000 in
/-- histShapeB1: where it says yes, the columns have one length and every node lies in [0, n). -/
theorem hist_any (n : Int) (a1 a2 a3 : Option Addr) (c1 c2 c3 n2 n3 : Nat) (zs : List Int) (w : World) (h0 : RowView w a1 (zs.map (Value.int .i64))) (b0 : zs.length ≤ 65536) (b2 : n2 ≤ 65536) (b3 : n3 ≤ 65536) :
    Calls Try.prog 12 #[.int .i64 n, .slice a1 zs.length c1, .slice a2 n2 c2, .slice a3 n3 c3] w fun e w' => RetB (HistOk zs n n2 n3) e ∧ w' = w := by
  by_cases e2 : n2 = zs.length
  · by_cases e3 : n3 = zs.length
    · subst e2 e3
      have f1 : ((zs.length : Int) != (zs.length : Int)) = false := by simp
      go_enter Try.func12, Try.ntmps12
      go_wp2
      go_loop [25] (fun i => ∃ k : Nat, k ≤ zs.length ∧ i = .int .i64 k ∧ ∀ j z, j < k → zs[j]? = some z → 0 ≤ z ∧ z < n) (fun i => zs.length - (intOf i).toNat)
      case atStart => exact ⟨0, Nat.zero_le _, rfl, fun j z hj => absurd hj (Nat.not_lt_zero _)⟩
      case round =>
        obtain ⟨k, hk, rfl, hall⟩ := hrel
        by_cases hlt : k < zs.length
        · obtain ⟨s, hs⟩ : ∃ s, zs[k]? = some s := ⟨_, List.getElem?_eq_getElem hlt⟩
          obtain ⟨b, off, hix, hb, hc⟩ := h0.int hs zs.length c1 hlt
          have HS : Hid (zs[k]? = some s) := hs
          have HA : Hid _ := hall
          clear hs h0 hall
          by_cases s0 : 0 ≤ s
          · by_cases s1 : s < n
            · go_wp2
              go_round
              case rel =>
                refine ⟨k + 1, by omega, by go_num, fun j z hj hz => ?_⟩
                by_cases e : j = k
                · subst e
                  have := HS.out.symm.trans hz
                  cases this
                  exact ⟨s0, s1⟩
                · exact HA.out j z (by omega) hz
              case measure => simp [intOf]; omega
            · go_wp2
              go_ret
              exact ⟨RetB.no _, rfl⟩
          · go_wp2
            go_ret
            exact ⟨RetB.no _, rfl⟩
        · go_wp2
          go_ret
          refine ⟨RetB.yes _ ⟨rfl, rfl, fun z hz => ?_⟩, rfl⟩
          obtain ⟨j, hj⟩ := List.getElem?_of_mem hz
          exact hall j z (by have := (List.getElem?_eq_some_iff.1 hj).1; omega) hj
    · have f1 : ((n2 : Int) != (zs.length : Int)) = false := by simp; omega
      have f2 : ((n3 : Int) != (zs.length : Int)) = true := by simp; omega
      clear e2 e3
      go_enter Try.func12, Try.ntmps12
      go_wp2
      go_ret
      exact ⟨RetB.no _, rfl⟩
  · have f1 : ((n2 : Int) != (zs.length : Int)) = true := by simp; omega
    clear e2
    go_enter Try.func12, Try.ntmps12
    go_wp2
    go_ret
    exact ⟨RetB.no _, rfl⟩
end Go.Proofs.Qxb6001364a
