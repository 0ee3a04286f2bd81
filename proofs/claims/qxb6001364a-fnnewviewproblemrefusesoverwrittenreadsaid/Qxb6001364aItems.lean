import Derived.Test.Qxb6001364aMap
namespace Go.Proofs.Qxb6001364a
open Go.ChangeShapes Go.WideShapes Go.ChangeAt Go.RowKit Go.Maps

theorem list_of {α : Type} {P : Nat → α → Prop} : ∀ n : Nat, (∀ i, i < n → ∃ g, P i g) → ∃ gs : List α, gs.length = n ∧ ∀ i g, gs[i]? = some g → P i g
  | 0, _ => ⟨[], rfl, fun i g h => by simp at h⟩
  | n + 1, h => by
    obtain ⟨gs, hl, hg⟩ := list_of n (fun i hi => h i (by omega))
    obtain ⟨x, hx⟩ := h n (by omega)
    refine ⟨gs ++ [x], by simp [hl], fun i g hi => ?_⟩
    by_cases hin : i < gs.length
    · rw [List.getElem?_append_left hin] at hi
      exact hg i g hi
    · have := (List.getElem?_eq_some_iff.1 hi).1
      simp at this
      have : i = gs.length := by omega
      subst this
      simp at hi
      subst hi
      rw [hl]
      exact hx

/-- The first i cells are numbers below k. -/
def Nums (A : Array Value) (i k : Nat) : Prop := ∀ j, j < i → ∃ t : Nat, A[j]? = some (.int .i64 t) ∧ t < k
/-- The map's elements are numbers below k. -/
def Elems (f : Int → Option Value) (k : Nat) : Prop := ∀ x v, f x = some v → ∃ t : Nat, v = .int .i64 t ∧ t < k

theorem nums_put {A : Array Value} {i k k' t : Nat} (h : Nums A i k) (hk : k ≤ k') (ht : t < k') (hi : i < A.size) : Nums (A.setIfInBounds i (.int .i64 t)) (i + 1) k' := fun j hj => by
  by_cases e : j = i
  · subst e
    exact ⟨t, by rw [Array.getElem?_setIfInBounds_self_of_lt hi], ht⟩
  · obtain ⟨t', h1, h2⟩ := h j (by omega)
    exact ⟨t', by rw [Array.getElem?_setIfInBounds_ne (by omega)]; exact h1, by omega⟩

/-- The items' numbers. -/
structure ItemsOut (w w' : World) (m : Nat) (e : Ending) (its : List Nat) (k : Nat) : Prop where
  ret : e = .returned (.tuple #[.slice (some ⟨w.heap.size + 1, 0, none⟩) m m, .int .i64 k])
  len : its.length = m
  lt : ∀ t ∈ its, t < k
  le : k ≤ m
  view : RowView w' (some ⟨w.heap.size + 1, 0, none⟩) (its.map fun t : Nat => Value.int .i64 (t : Int))
  bel : Below w.heap.size w w'

theorem items_end {w w' : World} {m k : Nat} {A : Array Value} (hA : w'.heap[w.heap.size + 1]? = some (.cells A 3 (0, 0))) (hn : Nums A m k) (hk : k ≤ m) (hb : Below w.heap.size w w') : ∃ its, ItemsOut w w' m (.returned (.tuple #[.slice (some ⟨w.heap.size + 1, 0, none⟩) m m, .int .i64 k])) its k := by
  obtain ⟨its, hl, hi⟩ := list_of m hn
  refine ⟨its, rfl, hl, fun t ht => ?_, hk, view_of_row hA fun j hj => ?_, hb⟩
  · obtain ⟨j, hj⟩ := List.getElem?_of_mem ht
    exact (hi j t hj).2
  · simp at hj
    obtain ⟨t, ht⟩ : ∃ t, its[j]? = some t := ⟨_, List.getElem?_eq_getElem hj⟩
    rw [List.getElem?_map, ht, (hi j t ht).1]
    rfl

set_option maxHeartbeats 1000000 in
theorem items_any (a : Option Addr) (c : Nat) (zs : List Int) (w : World) (h0 : RowView w a (zs.map (Value.int .i64))) (b0 : zs.length ≤ 65536) (hf0 : ∀ z ∈ zs, Fits z) :
    Calls Try.prog 14 #[.slice a zs.length c] w fun e w' => ∃ its k, ItemsOut w w' zs.length e its k := by
  have hmm := @run_makeMap Try.prog
  obtain ⟨M, hMs, _, hmk⟩ := make_row 22 3 (.int .i64 0) 8 Try.underlying22 Try.info3 rfl zs.length (by omega) (by omega)
  go_enter Try.func14, Try.ntmps14
  go_wp2
  go_loopw [6, 17] (fun kv iv wr => ∃ (i k : Nat) (f : Int → Option Value) (A : Array Value), i ≤ zs.length ∧ k ≤ i ∧ kv = .int .i64 k ∧ iv = .int .i64 i ∧ MapG kI 3 wr w.heap.size i f ∧ Elems f k ∧ wr.heap[w.heap.size + 1]? = some (.cells A 3 (0, 0)) ∧ A.size = zs.length ∧ Nums A i k ∧ Below w.heap.size w wr)
    (fun _ iv _ => zs.length - (intOf iv).toNat)
  case atStart =>
    refine ⟨0, 0, fun _ => none, M, Nat.zero_le _, Nat.le_refl _, rfl, rfl, ?_, (fun x v h => by cases h), ?_, hMs, fun j hj => absurd hj (Nat.not_lt_zero _), ?_⟩
    · exact MapG.made (by rw [Below.heap_alloc _ _ _ (by simp)]; exact heap_alloc_new w _)
    · have := heap_alloc_new (w.alloc (.map #[] 0)) (.cells M 3)
      simpa using this
    · exact ((Below.refl _ _).alloc (Nat.le_refl _) _).alloc (by simp) _
  case round =>
    obtain ⟨i, k, f, A, hi, hk, rfl, rfl, hM, hE, hA, hAs, hN, hbel⟩ := hrel
    clear hmm hmk
    by_cases hlt : i < zs.length
    · obtain ⟨s, hs⟩ : ∃ s, zs[i]? = some s := ⟨_, List.getElem?_eq_getElem hlt⟩
      obtain ⟨b, off, hix, hb, hc⟩ := h0.int hs zs.length c hlt
      have hsf := hf0 s (List.mem_of_getElem? hs)
      have hcr : wr.cell? ⟨b, off + i, none⟩ = some (.int .i64 s) := by rw [hbel.cell (by exact hb)]; exact hc
      have hcw : wr.cell? ⟨w.heap.size + 1, i, none⟩ = some (A[i]'(by omega)) := by rw [cell_of_row wr _ _ _ _ _ hA, Array.getElem?_eq_getElem]
      have hfw : wr.frozen? ⟨w.heap.size + 1, i, none⟩ = false := frozen_of_row wr _ _ _ _ hA
      have hlook := (hM.look 50 3 (.int .i64 0) law3 Try.underlying50 zero3 rfl (kI_key hsf)).1
      have HM : Hid (MapG kI 3 wr w.heap.size i f) := hM
      have HE : Hid (Elems f k) := hE
      have HA : Hid (wr.heap[w.heap.size + 1]? = some (.cells A 3 (0, 0))) := hA
      have HN : Hid (Nums A i k) := hN
      have HB : Hid (Below w.heap.size w wr) := hbel
      have Hsf : Hid (Fits s) := hsf
      clear hs h0 hc hM hE hA hN hbel hsf hf0
      cases hfs : f s with
      | some v =>
        obtain ⟨t, rfl, ht⟩ := HE.out s v hfs
        rw [hfs] at hlook
        go_wp2_with (at_lookup; go_must (refine wpList_look_run _ rfl 50 _ _ true rfl _ _ _ rfl rfl hlook ?_))
        go_roundw
        case rel =>
          exact ⟨i + 1, k, f, _, by omega, by omega, rfl, by go_num, (HM.out.same (heap_setCell_other _ _ _ _ (by simp))).mono (by omega), HE.out, heap_setCell_same _ _ _ _ _ _ HA.out, by simpa using hAs, nums_put HN.out (Nat.le_refl _) ht (by omega), HB.out.setCell (by simp) _⟩
        case measure => simp [intOf]; omega
      | none =>
        rw [hfs] at hlook
        obtain ⟨x1, hput, hM1, hg1⟩ := HM.out.put 50 3 law3 Try.underlying50 (by unfold maxLen; omega) kI_inj (kI_key Hsf.out) (v := .int .i64 (k : Int)) rfl
        have kA : Hid (x1.heap[w.heap.size + 1]? = some (.cells A 3 (0, 0))) := (hg1.block _ (row_lt HA.out) (by simp)).trans HA.out
        have k1 : x1.cell? ⟨w.heap.size + 1, i, none⟩ = some (A[i]'(by omega)) := by rw [cell_of_row x1 _ _ _ _ _ kA.out, Array.getElem?_eq_getElem]
        have k2 : x1.frozen? ⟨w.heap.size + 1, i, none⟩ = false := frozen_of_row x1 _ _ _ _ kA.out
        have HM1 : Hid (MapG kI 3 x1 w.heap.size (i + 1) (updG f s (.int .i64 (k : Int)))) := hM1
        have HG1 : Hid (wr.grownBy x1 (some w.heap.size)) := hg1
        clear hM1 hg1
        go_wp2_with (first | (at_lookup; go_must (refine wpList_look_run _ rfl 50 _ _ true rfl _ _ _ rfl rfl hlook ?_)) | (at_mapUpdate; go_must (refine wpList_put_run _ rfl 50 _ _ _ rfl _ _ _ x1 rfl rfl rfl hput ?_)))
        go_roundw
        case rel =>
          refine ⟨i + 1, k + 1, _, _, by omega, by omega, by go_num, by go_num, HM1.out.same (heap_setCell_other _ _ _ _ (by simp)), ?_, heap_setCell_same _ _ _ _ _ _ kA.out, by simpa using hAs, nums_put HN.out (by omega) (Nat.lt_succ_self _) (by omega), (HB.out.grown HG1.out HB.out.size (fun j hj => by cases hj; exact Nat.le_refl _)).setCell (by simp) _⟩
          intro x v hv
          by_cases e : x = s
          · subst e
            simp [updG] at hv
            exact ⟨k, hv.symm, Nat.lt_succ_self _⟩
          · simp [updG, e] at hv
            obtain ⟨t, h1, h2⟩ := HE.out x v hv
            exact ⟨t, h1, by omega⟩
        case measure => simp [intOf]; omega
    · have hii : i = zs.length := by omega
      subst hii
      obtain ⟨its, ho⟩ := items_end hA hN hk hbel
      have HO : Hid _ := ho
      clear ho hE hM hN hA
      go_wp2
      go_ret2
      exact ⟨its, k, HO.out⟩
end Go.Proofs.Qxb6001364a
