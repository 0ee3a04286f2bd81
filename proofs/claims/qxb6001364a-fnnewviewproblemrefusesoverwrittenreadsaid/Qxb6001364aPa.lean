import Derived.Test.Qxb6001364aZz2
namespace Go.Proofs.Qxb6001364a
open Go.ChangeShapes Go.WideShapes Go.ChangeAt Go.RowKit Go.Maps

/-! ### One item's accesses out of the history -/
/-- A history: node, write, item. -/
abbrev Hist := List (Nat × Bool × Nat)
def accOf (hs : Hist) (x : Nat) : List (Nat × Bool) := (hs.filter (fun h => h.2.2 == x)).map (fun h => (h.1, h.2.1))

theorem accOf_append (hs hs' : Hist) (x : Nat) : accOf (hs ++ hs') x = accOf hs x ++ accOf hs' x := by
  simp [accOf]
theorem take_succ_get {α : Type} {l : List α} {i : Nat} {a : α} (h : l[i]? = some a) : l.take (i + 1) = l.take i ++ [a] := by
  rw [List.take_add_one, h]
  rfl
theorem accOf_succ {hs : Hist} {i : Nat} {h : Nat × Bool × Nat} (hi : hs[i]? = some h) (x : Nat) : accOf (hs.take (i + 1)) x = if x = h.2.2 then accOf (hs.take i) x ++ [(h.1, h.2.1)] else accOf (hs.take i) x := by
  rw [take_succ_get hi, accOf_append]
  by_cases e : x = h.2.2
  · simp [accOf, e]
  · simp [accOf, e, Ne.symm e]
theorem accOf_take_le (hs : Hist) (i x : Nat) : (accOf (hs.take i) x).length ≤ (accOf hs x).length := by
  have h := accOf_append (hs.take i) (hs.drop i) x
  rw [List.take_append_drop] at h
  rw [h, List.length_append]
  omega
theorem accOf_len (hs : Hist) (x : Nat) : (accOf hs x).length ≤ hs.length := by
  unfold accOf
  rw [List.length_map]
  exact List.length_filter_le _ _
theorem accOf_mem {hs : Hist} {x : Nat} {y : Nat × Bool} (h : y ∈ accOf hs x) : ∃ z ∈ hs, z.1 = y.1 := by
  unfold accOf at h
  rw [List.mem_map] at h
  obtain ⟨z, hz, rfl⟩ := h
  exact ⟨z, (List.mem_filter.1 hz).1, rfl⟩

/-! ### The rows of accNode and accWrite in memory -/
def updL (l : Nat → List (Nat × Bool)) (x : Nat) (e : Nat × Bool) : Nat → List (Nat × Bool) := fun y => if y = x then l y ++ [e] else l y

structure RowsAt (wD w : World) (bn bw base k : Nat) (cap : Nat → Nat) (ln lw : Nat → List (Nat × Bool)) (x : Nat) : Prop where
  an : ∃ A : Array Value, w.heap[bn]? = some (.cells A 22 (0, 0)) ∧ A.size = k ∧ ∀ y, y < x → A[y]? = some (.slice (some ⟨base + 2 * y, 0, none⟩) (ln y).length (cap y))
  aw : ∃ A : Array Value, w.heap[bw]? = some (.cells A 23 (0, 0)) ∧ A.size = k ∧ ∀ y, y < x → A[y]? = some (.slice (some ⟨base + 2 * y + 1, 0, none⟩) (lw y).length (cap y))
  nod : ∀ y, y < x → ∃ A : Array Value, w.heap[base + 2 * y]? = some (.cells A 3 (0, 0)) ∧ A.size = cap y ∧ ∀ (i : Nat) (e : Nat × Bool), (ln y)[i]? = some e → A[i]? = some (.int .i64 (e.1 : Int))
  wri : ∀ y, y < x → ∃ A : Array Value, w.heap[base + 2 * y + 1]? = some (.cells A 4 (0, 0)) ∧ A.size = cap y ∧ ∀ (i : Nat) (e : Nat × Bool), (lw y)[i]? = some e → A[i]? = some (.bool e.2)
  kept : ∀ b, b < base → b ≠ bn → b ≠ bw → w.heap[b]? = wD.heap[b]?
  size : base + 2 * x ≤ w.heap.size
  os : w.os = wD.os
  tape : w.tape = wD.tape
  output : w.output = wD.output

section
variable {wD w w' : World} {bn bw base k : Nat} {cap : Nat → Nat} {ln lw : Nat → List (Nat × Bool)} {x : Nat}
theorem get_put_last {A : Array Value} {l : List (Nat × Bool)} {g : Nat × Bool → Value} {c : Nat} (hs : A.size = c) (hl : l.length < c) (h : ∀ (i : Nat) (e : Nat × Bool), l[i]? = some e → A[i]? = some (g e)) (e0 : Nat × Bool) : ∀ (i : Nat) (e : Nat × Bool), (l ++ [e0])[i]? = some e → (A.setIfInBounds l.length (g e0))[i]? = some (g e) := by
  intro i e hi
  by_cases h1 : i < l.length
  · rw [List.getElem?_append_left h1] at hi
    rw [Array.getElem?_setIfInBounds_ne (by omega)]
    exact h i e hi
  · rw [List.getElem?_append_right (by omega)] at hi
    have h2 : i - l.length = 0 := by
      have := (List.getElem?_eq_some_iff.1 hi).1
      simpa using this
    rw [h2] at hi
    have h3 : e0 = e := by simpa using hi
    have h4 : i = l.length := by omega
    subst h4
    rw [Array.getElem?_setIfInBounds_self_of_lt (by omega), h3]
theorem RowsAt.appN (h : RowsAt wD w bn bw base k cap ln lw k) (hbn : bn < base) (hbw : bw < base) (hnw : bn ≠ bw) {y : Nat} (hy : y < k) (e : Nat × Bool) (hl : (ln y).length < cap y) {A An : Array Value} (hA : w.heap[base + 2 * y]? = some (.cells A 3 (0, 0))) (hAn : w.heap[bn]? = some (.cells An 22 (0, 0)))
    (ha : AppR w w' bn y (base + 2 * y) (ln y).length (cap y) 3 22 (.int .i64 (e.1 : Int)) A An) : RowsAt wD w' bn bw base k cap (updL ln y e) lw k := by
  have hs := h.size
  obtain ⟨An', q1, q2, q3⟩ := h.an
  rw [hAn] at q1
  cases q1
  obtain ⟨Aw, p1, p2, p3⟩ := h.aw
  refine ⟨⟨_, ha.rowN, by simpa using q2, fun z hz => ?_⟩, ⟨Aw, (ha.other _ (row_lt p1) (by omega) (by omega)).trans p1, p2, p3⟩, fun z hz => ?_, fun z hz => ?_, fun b h1 h2 h3 => (ha.other b (by omega) (by omega) h2).trans (h.kept b h1 h2 h3), by rw [ha.size]; omega, ha.os.trans h.os, ha.tape.trans h.tape, ha.output.trans h.output⟩
  · by_cases e' : z = y
    · subst e'
      rw [Array.getElem?_setIfInBounds_self_of_lt (by omega)]
      simp [updL]
    · rw [Array.getElem?_setIfInBounds_ne (by omega), q3 z hz]
      simp [updL, e']
  · by_cases e' : z = y
    · subst e'
      obtain ⟨A', r1, r2, r3⟩ := h.nod z hz
      rw [hA] at r1
      cases r1
      refine ⟨_, ha.rowB, by simpa using r2, ?_⟩
      have := get_put_last (g := fun e => Value.int .i64 (e.1 : Int)) r2 hl r3 e
      simpa [updL] using this
    · obtain ⟨A', r1, r2, r3⟩ := h.nod z hz
      exact ⟨A', (ha.other _ (row_lt r1) (by omega) (by omega)).trans r1, r2, by simpa [updL, e'] using r3⟩
  · obtain ⟨A', r1, r2, r3⟩ := h.wri z hz
    exact ⟨A', (ha.other _ (row_lt r1) (by omega) (by omega)).trans r1, r2, r3⟩
theorem RowsAt.appW (h : RowsAt wD w bn bw base k cap ln lw k) (hbn : bn < base) (hbw : bw < base) (hnw : bn ≠ bw) {y : Nat} (hy : y < k) (e : Nat × Bool) (hl : (lw y).length < cap y) {A An : Array Value} (hA : w.heap[base + 2 * y + 1]? = some (.cells A 4 (0, 0))) (hAn : w.heap[bw]? = some (.cells An 23 (0, 0)))
    (ha : AppR w w' bw y (base + 2 * y + 1) (lw y).length (cap y) 4 23 (.bool e.2) A An) : RowsAt wD w' bn bw base k cap ln (updL lw y e) k := by
  have hs := h.size
  obtain ⟨An', q1, q2, q3⟩ := h.aw
  rw [hAn] at q1
  cases q1
  obtain ⟨Aw, p1, p2, p3⟩ := h.an
  refine ⟨⟨Aw, (ha.other _ (row_lt p1) (by omega) (by omega)).trans p1, p2, p3⟩, ⟨_, ha.rowN, by simpa using q2, fun z hz => ?_⟩, fun z hz => ?_, fun z hz => ?_, fun b h1 h2 h3 => (ha.other b (by omega) (by omega) h3).trans (h.kept b h1 h2 h3), by rw [ha.size]; omega, ha.os.trans h.os, ha.tape.trans h.tape, ha.output.trans h.output⟩
  · by_cases e' : z = y
    · subst e'
      rw [Array.getElem?_setIfInBounds_self_of_lt (by omega)]
      simp [updL]
    · rw [Array.getElem?_setIfInBounds_ne (by omega), q3 z hz]
      simp [updL, e']
  · obtain ⟨A', r1, r2, r3⟩ := h.nod z hz
    exact ⟨A', (ha.other _ (row_lt r1) (by omega) (by omega)).trans r1, r2, r3⟩
  · by_cases e' : z = y
    · subst e'
      obtain ⟨A', r1, r2, r3⟩ := h.wri z hz
      rw [hA] at r1
      cases r1
      refine ⟨_, ha.rowB, by simpa using r2, ?_⟩
      have := get_put_last (g := fun e => Value.bool e.2) r2 hl r3 e
      simpa [updL] using this
    · obtain ⟨A', r1, r2, r3⟩ := h.wri z hz
      exact ⟨A', (ha.other _ (row_lt r1) (by omega) (by omega)).trans r1, r2, by simpa [updL, e'] using r3⟩
theorem RowsAt.below {w0 : World} {B : Nat} (h : RowsAt wD w bn bw base k cap ln lw x) (hb : Below B w0 wD) (h1 : B ≤ bn) (h2 : B ≤ bw) (h3 : B ≤ base) (hs : wD.heap.size ≤ base) : Below B w0 w :=
  ⟨h.os.trans hb.os, h.tape.trans hb.tape, h.output.trans hb.output, by have := h.size; have := hb.size; omega, fun b hB => (h.kept b (by omega) (by omega) (by omega)).trans (hb.block b hB)⟩
/-- The input of ZZNewViewProblemB1. -/
theorem RowsAt.in32 (h : RowsAt wD w bn bw base k cap ln ln k) {y : Nat} (hy : y < k) : In32 w bn bw y (ln y) := by
  obtain ⟨An, q1, _, q3⟩ := h.an
  obtain ⟨Aw, p1, _, p3⟩ := h.aw
  obtain ⟨A, r1, _, r3⟩ := h.nod y hy
  obtain ⟨A', s1, _, s3⟩ := h.wri y hy
  exact ⟨⟨_, _, (cell_of_row w bn y _ _ _ q1).trans (q3 y hy), fun i e he => (cell_of_row w _ i _ _ _ r1).trans (r3 i e he)⟩, ⟨_, _, (cell_of_row w bw y _ _ _ p1).trans (p3 y hy), fun i e he => (cell_of_row w _ i _ _ _ s1).trans (s3 i e he)⟩⟩
end

end Go.Proofs.Qxb6001364a
