import Derived.Test.Qxb6001364aPb
import Derived.Deep.Cut
namespace Go.Proofs.Qxb6001364a
open Go.ChangeShapes Go.WideShapes Go.ChangeAt Go.RowKit Go.Maps

/-- The history in memory. -/
structure HIn (w : World) (a1 a2 a3 : Option Addr) (hs : Hist) : Prop where
  r1 : RowView w a1 ((hs.map fun h => (h.1 : Int)).map (Value.int .i64))
  r2 : RowView w a2 ((hs.map fun h => h.2.1).map Value.bool)
  r3 : RowView w a3 ((hs.map fun h => (h.2.2 : Int)).map (Value.int .i64))
theorem HIn.below {w w' : World} {a1 a2 a3 : Option Addr} {hs : Hist} (h : HIn w a1 a2 a3 hs) (hb : Below w.heap.size w w') : HIn w' a1 a2 a3 hs := ⟨h.r1.below hb, h.r2.below hb, h.r3.below hb⟩
theorem HIn.item {w : World} {a1 a2 a3 : Option Addr} {hs : Hist} (h : HIn w a1 a2 a3 hs) {i : Nat} {e : Nat × Bool × Nat} (he : hs[i]? = some e) (d : Nat) : ∃ b off, (∀ W, (Instr.indexAt 22 (.slice a3 hs.length d) (.int .i64 (i : Int))).run Try.prog W = .ok (.pointer (some ⟨b, off, none⟩)) W) ∧ w.cell? ⟨b, off, none⟩ = some (.int .i64 (e.2.2 : Int)) := by
  obtain ⟨b, o, h1, _, h2⟩ := h.r3.int (k := i) (z := (e.2.2 : Int)) (by simp [he]) hs.length d (List.getElem?_eq_some_iff.1 he).1
  exact ⟨b, o + i, h1, h2⟩
theorem HIn.node {w : World} {a1 a2 a3 : Option Addr} {hs : Hist} (h : HIn w a1 a2 a3 hs) {i : Nat} {e : Nat × Bool × Nat} (he : hs[i]? = some e) (d : Nat) : ∃ b off, (∀ W, (Instr.indexAt 22 (.slice a1 hs.length d) (.int .i64 (i : Int))).run Try.prog W = .ok (.pointer (some ⟨b, off, none⟩)) W) ∧ w.cell? ⟨b, off, none⟩ = some (.int .i64 (e.1 : Int)) := by
  obtain ⟨b, o, h1, _, h2⟩ := h.r1.int (k := i) (z := (e.1 : Int)) (by simp [he]) hs.length d (List.getElem?_eq_some_iff.1 he).1
  exact ⟨b, o + i, h1, h2⟩
theorem HIn.writ {w : World} {a1 a2 a3 : Option Addr} {hs : Hist} (h : HIn w a1 a2 a3 hs) {i : Nat} {e : Nat × Bool × Nat} (he : hs[i]? = some e) (d : Nat) : ∃ b off, (∀ W, (Instr.indexAt 23 (.slice a2 hs.length d) (.int .i64 (i : Int))).run Try.prog W = .ok (.pointer (some ⟨b, off, none⟩)) W) ∧ w.cell? ⟨b, off, none⟩ = some (.bool e.2.1) := by
  obtain ⟨b, o, h1, _, h2⟩ := h.r2.bool (k := i) (z := e.2.1) (by simp [he]) hs.length d (List.getElem?_eq_some_iff.1 he).1
  exact ⟨b, o + i, h1, h2⟩

/-- The counts after i accesses. -/
def Counted (A : Array Value) (hs : Hist) (k i : Nat) : Prop := ∀ y, y < k → A[y]? = some (.int .i64 ((accOf (hs.take i) y).length : Nat))
theorem Counted.put {A : Array Value} {hs : Hist} {k i : Nat} {e : Nat × Bool × Nat} (h : Counted A hs k i) (he : hs[i]? = some e) (hs' : A.size = k) : Counted (A.setIfInBounds e.2.2 (.int .i64 (((accOf (hs.take i) e.2.2).length : Int) + 1))) hs k (i + 1) := fun y hy => by
  rw [accOf_succ he]
  by_cases e' : y = e.2.2
  · rw [e', Array.getElem?_setIfInBounds_self_of_lt (by omega)]
    simp
  · rw [Array.getElem?_setIfInBounds_ne (Ne.symm e'), if_neg e']
    exact h y hy

def Inv16C (wC : World) (bC k : Nat) (hs : Hist) (v52 : Value) (c0 c1 c2 c3 c4 c12 c14 c15 c19 c20 : Value) (a : Act) (w : World) : Prop :=
  ∃ (i : Nat) (A : Array Value), Fr16 a c0 c1 c2 c3 c4 c12 c14 c15 c19 c20 ∧ G a 52 = v52 ∧ G a 53 = .int .i64 (hs.length : Nat) ∧ G a 54 = .int .i64 (i : Int) ∧ i ≤ hs.length ∧ w.heap[bC]? = some (.cells A 3 (0, 0)) ∧ A.size = k ∧ Counted A hs k i ∧ Sb bC wC w

set_option maxHeartbeats 4000000 in
set_option maxRecDepth 100000 in
theorem loop16C (w0 wC : World) (bC k d3 : Nat) (a1 a2 a3 : Option Addr) (hs : Hist) (c0 c1 c2 c12 c14 c19 c20 : Value) (hH : HIn w0 a1 a2 a3 hs) (hb0 : Below w0.heap.size w0 wC) (hbl : w0.heap.size ≤ bC) (hm : hs.length ≤ 65536) (hit : ∀ e ∈ hs, e.2.2 < k)
    (a0 : Act) (hI : Inv16C wC bC k hs (.slice a3 hs.length d3) c0 c1 c2 (.slice a3 hs.length d3) (.int .i64 (k : Int)) c12 c14 (.slice (some ⟨bC, 0, none⟩) k k) c19 c20 a0 wC) (Q : Exit → Act → World → Prop)
    (hexit : ∀ a' w' A, Fr16 a' c0 c1 c2 (.slice a3 hs.length d3) (.int .i64 (k : Int)) c12 c14 (.slice (some ⟨bC, 0, none⟩) k k) c19 c20 → w'.heap[bC]? = some (.cells A 3 (0, 0)) → A.size = k → Counted A hs k hs.length → Sb bC wC w' → Q (.exit 4) a' w') :
    Code.wp Try.prog (Code.loop (bodyOf Try.f16 2)) Q a0 wC := by
  refine wp_loop (Inv16C wC bC k hs (.slice a3 hs.length d3) c0 c1 c2 (.slice a3 hs.length d3) (.int .i64 (k : Int)) c12 c14 (.slice (some ⟨bC, 0, none⟩) k k) c19 c20) (fun a _ => hs.length - (intOf (G a 54)).toNat) hI ?_
  clear hI a0
  rintro a w ⟨i, A, hF, f52, f53, f54, hi, hA, hAs, hcnt, hsb⟩
  obtain ⟨u, rfl, hu⟩ := frame131 a hF.sz hF.df
  have e15 := (hu 15).trans hF.g15
  have e52 := (hu 52).trans f52
  have e53 := (hu 53).trans f53
  have e54 := (hu 54).trans f54
  have HF : Hid (Fr16 _ c0 c1 c2 (.slice a3 hs.length d3) (.int .i64 (k : Int)) c12 c14 (.slice (some ⟨bC, 0, none⟩) k k) c19 c20) := ⟨hF⟩
  clear hu hF f52 f53
  rw [f54]
  clear f54
  conv => arg 2; whnf
  rw [e15, e52, e53, e54]
  clear e15 e52 e53 e54
  have HX : Hid (∀ a' w' A, Fr16 a' c0 c1 c2 (.slice a3 hs.length d3) (.int .i64 (k : Int)) c12 c14 (.slice (some ⟨bC, 0, none⟩) k k) c19 c20 → w'.heap[bC]? = some (.cells A 3 (0, 0)) → A.size = k → Counted A hs k hs.length → Sb bC wC w' → Q (.exit 4) a' w') := ⟨hexit⟩
  have HS : Hid (Sb bC wC w) := ⟨hsb⟩
  have HA : Hid (w.heap[bC]? = some (.cells A 3 (0, 0)) ∧ A.size = k ∧ Counted A hs k i) := ⟨hA, hAs, hcnt⟩
  clear hexit hsb hA hAs hcnt
  by_cases hlt : i < hs.length
  case neg =>
    obtain rfl : i = hs.length := by omega
    clear hlt hH hit
    go_wp2
    exact HX.out _ _ A ⟨rfl, rfl, HF.out.g0, HF.out.g1, HF.out.g2, HF.out.g3, HF.out.g4, HF.out.g12, HF.out.g14, rfl, HF.out.g19, HF.out.g20⟩ HA.out.1 HA.out.2.1 HA.out.2.2 HS.out
  case pos =>
    obtain ⟨e, he⟩ : ∃ e, hs[i]? = some e := ⟨hs[i], by simp [hlt]⟩
    have hxk : e.2.2 < k := hit e (List.mem_of_getElem? he)
    obtain ⟨b3, o3, ix3, hc3⟩ := (hH.below (HS.out.below hb0 hbl)).item he d3
    obtain ⟨l, hl⟩ : ∃ l, l = (accOf (hs.take i) e.2.2).length := ⟨_, rfl⟩
    have hll : l ≤ 65536 := by
      have h1 := accOf_take_le hs i e.2.2
      have h2 := accOf_len hs e.2.2
      omega
    have kc : w.cell? ⟨bC, e.2.2, none⟩ = some (.int .i64 (l : Int)) := by
      rw [cell_of_row w bC _ _ _ _ HA.out.1, hl]
      exact HA.out.2.2 _ hxk
    have fc : w.frozen? ⟨bC, e.2.2, none⟩ = false := frozen_of_row w bC _ _ _ HA.out.1
    have hix := run_ix 22 3 bC k k e.2.2 hxk Try.underlying22 Try.cell3
    have HL : Hid (l = (accOf (hs.take i) e.2.2).length) := ⟨hl⟩
    have HE : Hid (hs[i]? = some e) := ⟨he⟩
    obtain ⟨x, hx⟩ : ∃ x, x = e.2.2 := ⟨_, rfl⟩
    rw [← hx] at hxk hc3 kc fc hix
    have HXE : Hid (x = e.2.2) := ⟨hx⟩
    clear hl he hH hit hx
    go_wp2
    refine ⟨⟨i + 1, A.setIfInBounds x (.int .i64 ((l : Int) + 1)), ⟨rfl, rfl, HF.out.g0, HF.out.g1, HF.out.g2, HF.out.g3, HF.out.g4, HF.out.g12, HF.out.g14, rfl, HF.out.g19, HF.out.g20⟩, rfl, rfl, (by show Value.int .i64 ((i : Int) + 1) = _; simp), hlt, heap_setCell_same _ _ _ _ _ _ HA.out.1, by simp [HA.out.2.1], ?_, HS.out.trans (Sb.set _ _ _ _)⟩, ?_⟩
    · rw [HL.out, HXE.out]
      exact HA.out.2.2.put HE.out HA.out.2.1
    · show hs.length - (intOf (Value.int .i64 ((i : Int) + 1))).toNat < hs.length - (intOf (Value.int .i64 (i : Int))).toNat
      simp [intOf]
      omega

/-! ### The rows are made -/
theorem make_cap (t e : TypeId) (z : Value) (bytes : Nat) (ht : Try.prog.underlying t = some (.slice e)) (hi : (Try.prog.info? e).map (fun i => (i.zero, i.size, i.bytes)) = some (some z, 1, bytes)) (c : Nat) (hb : bytes * c ≤ 281474976710656) (hc : c ≤ 65536) :
    ∃ M : Array Value, M.size = c ∧ ∀ W : World, (Instr.makeSlice t (.int .i64 0) (.int .i64 (c : Int))).run Try.prog W = .ok (.slice (some ⟨W.heap.size, 0, none⟩) 0 c) (W.alloc (.cells M e)) := by
  obtain ⟨i0, hi0, hz0, hz1, hz2⟩ := info_parts hi
  refine ⟨madeCells z.cells (((c : Nat) : Int).toNat * i0.size), by rw [size_madeCells, hz1]; simp, fun W => ?_⟩
  have h := run_make (P := Try.prog) W t e i0 z ht hi0 hz0 .i64 .i64 0 (c : Int) (by omega) (by omega) (by rw [hz2]; omega) (by omega)
  simpa using h

theorem RowsAt.make {wD w : World} {bn bw base k : Nat} {cap : Nat → Nat} {ln lw : Nat → List (Nat × Bool)} {x : Nat} (h : RowsAt wD w bn bw base k cap ln lw x) (hbn : bn < base) (hbw : bw < base) (hnw : bn ≠ bw) (hs : w.heap.size = base + 2 * x) (hx : x < k) (e1 : ln x = []) (e2 : lw x = []) {M M' : Array Value} (hM : M.size = cap x) (hM' : M'.size = cap x) :
    RowsAt wD ((((w.alloc (.cells M 3)).setCell ⟨bn, x, none⟩ (.slice (some ⟨w.heap.size, 0, none⟩) 0 (cap x))).alloc (.cells M' 4)).setCell ⟨bw, x, none⟩ (.slice (some ⟨w.heap.size + 1, 0, none⟩) 0 (cap x))) bn bw base k cap ln lw (x + 1) ∧
      ((((w.alloc (.cells M 3)).setCell ⟨bn, x, none⟩ (.slice (some ⟨w.heap.size, 0, none⟩) 0 (cap x))).alloc (.cells M' 4)).setCell ⟨bw, x, none⟩ (.slice (some ⟨w.heap.size + 1, 0, none⟩) 0 (cap x))).heap.size = base + 2 * (x + 1) := by
  obtain ⟨An, q1, q2, q3⟩ := h.an
  obtain ⟨Aw, p1, p2, p3⟩ := h.aw
  have s1 : ((w.alloc (.cells M 3)).setCell ⟨bn, x, none⟩ (.slice (some ⟨w.heap.size, 0, none⟩) 0 (cap x))).heap.size = w.heap.size + 1 := by simp
  have keep : ∀ b, b < w.heap.size → b ≠ bn → b ≠ bw → ((((w.alloc (.cells M 3)).setCell ⟨bn, x, none⟩ (.slice (some ⟨w.heap.size, 0, none⟩) 0 (cap x))).alloc (.cells M' 4)).setCell ⟨bw, x, none⟩ (.slice (some ⟨w.heap.size + 1, 0, none⟩) 0 (cap x))).heap[b]? = w.heap[b]? := fun b h1 h2 h3 => by
    rw [heap_setCell_other _ _ _ _ h3, Below.heap_alloc _ _ _ (by omega), heap_setCell_other _ _ _ _ h2, Below.heap_alloc _ _ _ h1]
  refine ⟨⟨⟨An.setIfInBounds x (.slice (some ⟨w.heap.size, 0, none⟩) 0 (cap x)), ?_, by simpa using q2, fun y hy => ?_⟩, ⟨Aw.setIfInBounds x (.slice (some ⟨w.heap.size + 1, 0, none⟩) 0 (cap x)), ?_, by simpa using p2, fun y hy => ?_⟩, fun y hy => ?_, fun y hy => ?_, fun b h1 h2 h3 => (keep b (by omega) h2 h3).trans (h.kept b h1 h2 h3), by simp; omega, h.os, h.tape, h.output⟩, by simp; omega⟩
  · rw [heap_setCell_other _ _ _ _ hnw, Below.heap_alloc _ _ _ (by omega)]
    exact heap_setCell_same _ _ _ _ _ _ ((Below.heap_alloc _ _ _ (row_lt q1)).trans q1)
  · by_cases e : y = x
    · subst e
      rw [Array.getElem?_setIfInBounds_self_of_lt (by omega), hs, e1]
      rfl
    · rw [Array.getElem?_setIfInBounds_ne (Ne.symm e)]
      exact q3 y (by omega)
  · refine heap_setCell_same _ _ _ _ _ _ ?_
    rw [Below.heap_alloc _ _ _ (by omega), heap_setCell_other _ _ _ _ (Ne.symm hnw)]
    exact (Below.heap_alloc _ _ _ (row_lt p1)).trans p1
  · by_cases e : y = x
    · subst e
      rw [Array.getElem?_setIfInBounds_self_of_lt (by omega), hs, e2]
      rfl
    · rw [Array.getElem?_setIfInBounds_ne (Ne.symm e)]
      exact p3 y (by omega)
  · by_cases e : y = x
    · subst e
      refine ⟨M, ?_, hM, fun i e he => ?_⟩
      · rw [← hs, heap_setCell_other _ _ _ _ (by show w.heap.size ≠ bw; omega), Below.heap_alloc _ _ _ (by omega), heap_setCell_other _ _ _ _ (by show w.heap.size ≠ bn; omega)]
        exact heap_alloc_new _ _
      · rw [e1] at he
        simp at he
    · obtain ⟨A, r1, r2, r3⟩ := h.nod y (by omega)
      exact ⟨A, (keep _ (row_lt r1) (by omega) (by omega)).trans r1, r2, r3⟩
  · by_cases e : y = x
    · subst e
      refine ⟨M', ?_, hM', fun i e he => ?_⟩
      · rw [← hs, heap_setCell_other _ _ _ _ (by show w.heap.size + 1 ≠ bw; omega), ← s1]
        exact heap_alloc_new _ _
      · rw [e2] at he
        simp at he
    · obtain ⟨A, r1, r2, r3⟩ := h.wri y (by omega)
      exact ⟨A, (keep _ (row_lt r1) (by omega) (by omega)).trans r1, r2, r3⟩

end Go.Proofs.Qxb6001364a
