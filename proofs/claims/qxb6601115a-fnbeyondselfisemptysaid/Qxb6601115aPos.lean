import Derived.Test.Qxb6601115aBase
namespace Go.Proofs.Qxb6601115a
open Go.ChangeShapes Go.WideShapes Go.ChangeAt Go.RowKit

/-- The first k GTIDs lie in the row A. -/
def Filled (A : Array Value) (gs : List Gt) (k : Nat) : Prop :=
  ∀ i g, i < k → gs[i]? = some g → A[i * 3]? = some (.int .u32 g.d) ∧ A[i * 3 + 1]? = some (.int .u32 g.s) ∧ A[i * 3 + 2]? = some (.int .u64 g.q)

theorem filled_zero (A : Array Value) (gs : List Gt) : Filled A gs 0 := fun _ _ h => absurd h (Nat.not_lt_zero _)

theorem filled_succ {A : Array Value} {gs : List Gt} {k : Nat} {g : Gt} (h : Filled A gs k) (hg : gs[k]? = some g) (hs : A.size = gs.length * 3) :
    Filled (((A.setIfInBounds (k * 3) (.int .u32 g.d)).setIfInBounds (k * 3 + 1) (.int .u32 g.s)).setIfInBounds (k * 3 + 2) (.int .u64 g.q)) gs (k + 1) := by
  have hk := (List.getElem?_eq_some_iff.1 hg).1
  intro i g' hi hg'
  by_cases hik : i = k
  · subst hik
    rw [hg] at hg'
    cases hg'
    refine ⟨?_, ?_, ?_⟩
    · rw [Array.getElem?_setIfInBounds_ne (by omega), Array.getElem?_setIfInBounds_ne (by omega), Array.getElem?_setIfInBounds_self_of_lt (by omega)]
    · rw [Array.getElem?_setIfInBounds_ne (by omega), Array.getElem?_setIfInBounds_self_of_lt (by simp; omega)]
    · rw [Array.getElem?_setIfInBounds_self_of_lt (by simp; omega)]
  · obtain ⟨h1, h2, h3⟩ := h i g' (by omega) hg'
    rw [Array.getElem?_setIfInBounds_ne (by omega), Array.getElem?_setIfInBounds_ne (by omega), Array.getElem?_setIfInBounds_ne (by omega), Array.getElem?_setIfInBounds_ne (by omega), Array.getElem?_setIfInBounds_ne (by omega), Array.getElem?_setIfInBounds_ne (by omega), Array.getElem?_setIfInBounds_ne (by omega), Array.getElem?_setIfInBounds_ne (by omega), Array.getElem?_setIfInBounds_ne (by omega)]
    exact ⟨h1, h2, h3⟩

theorem view_of_filled {w : World} {H : Nat} {A : Array Value} {e : TypeId} {gs : List Gt} (h : w.heap[H]? = some (.cells A e (0, 0))) (hf : Filled A gs gs.length) : GView w (some ⟨H, 0, none⟩) gs :=
  ⟨fun _ _ => ⟨H, 0, rfl, row_lt h, fun i g hg => by
    obtain ⟨h1, h2, h3⟩ := hf i g (List.getElem?_eq_some_iff.1 hg).1 hg
    exact ⟨by rw [cell_of_row w _ _ _ _ _ h]; simpa using h1, by rw [cell_of_row w _ _ _ _ _ h]; simpa using h2, by rw [cell_of_row w _ _ _ _ _ h]; simpa using h3⟩⟩, fun h => by cases h⟩

set_option maxHeartbeats 1000000 in
/-- toPosition: the same GTIDs in new memory; of what was there nothing has turned. -/
theorem toPosition_any (a : Option Addr) (c : Nat) (gs : List Gt) (w : World) (h0 : GView w a gs) (b0 : gs.length ≤ 4096) :
    Calls Try.prog 10 #[.slice a gs.length c] w fun e w' => ∃ a' c', e = .returned (.slice a' gs.length c') ∧ GView w' a' gs ∧ Below w.heap.size w w' := by
  have heq : ∀ (w : World) (a : Option Addr) (n c n' c' : Nat), (binOp .eql 22 (.slice a n c) (.slice none n' c')).run Try.prog w = .ok (.bool a.isNone) w := fun w a n c n' c' => Lib.run_eql_slice_nil w _ _ a n c n' c' Try.underlying22
  by_cases ha : a = none
  · have hss : gs = [] := h0.nil_ ha
    subst ha
    subst hss
    go_enter Try.func10, Try.ntmps10
    go_wp2
    go_ret
    exact ⟨none, 0, rfl, ⟨fun k hk => by simp at hk, fun _ => rfl⟩, Below.refl _ _⟩
  · have hno : a.isNone = false := by cases a <;> simp_all
    clear ha
    obtain ⟨M, hMs, hmk⟩ := make_row gs.length b0
    go_enter Try.func10, Try.ntmps10
    go_wp2
    go_loopw [4] (fun i wr => ∃ k : Nat, k ≤ gs.length ∧ i = .int .i64 k ∧ Below w.heap.size w wr ∧ ∃ A : Array Value, wr.heap[w.heap.size]? = some (.cells A 33 (0, 0)) ∧ A.size = gs.length * 3 ∧ Filled A gs k)
      (fun i _ => gs.length - (intOf i).toNat)
    case atStart => exact ⟨0, Nat.zero_le _, rfl, (Below.refl _ _).alloc (Nat.le_refl _) _, M, heap_alloc_new _ _, hMs, filled_zero _ _⟩
    case round =>
      obtain ⟨k, hk, rfl, hbel, A, hA, hAs, hAk⟩ := hrel
      by_cases hlt : k < gs.length
      · obtain ⟨g, hg⟩ : ∃ g, gs[k]? = some g := ⟨_, List.getElem?_eq_getElem hlt⟩
        obtain ⟨b, off, hix, hb, hc⟩ := h0.get hg 22 47 Try.underlying22 Try.cell47 c
        have hcr := hc.below hbel hb
        have r1 := hcr.d
        have r2 := hcr.s
        have r3 := hcr.q
        have HA : Hid (wr.heap[w.heap.size]? = some (.cells A 33 (0, 0))) := hA
        have HK : Hid (Filled A gs k) := hAk
        have HG : Hid (gs[k]? = some g) := hg
        have HB : Hid (Below w.heap.size w wr) := hbel
        have lw := row_lt hA
        have k0 : (0 : Int) ≤ (k : Int) := by omega
        have k1 : (k : Int) < (gs.length : Int) := by omega
        clear h0 hA hAk hc hg hcr hbel
        go_wp2_with fail
        refine (toGTID_any g wr).mono ?_
        rintro e x ⟨rfl, hbx⟩
        have hX : Hid (x.heap[w.heap.size]? = some (.cells A 33 (0, 0))) := (hbx.block _ lw).trans HA.out
        have s0 : x.cell? ⟨w.heap.size, k * 3, none⟩ = some (A[k * 3]'(by omega)) := by rw [cell_of_row x _ _ _ _ _ hX.out, Array.getElem?_eq_getElem]
        have s1 : x.cell? ⟨w.heap.size, k * 3 + 1, none⟩ = some (A[k * 3 + 1]'(by omega)) := by rw [cell_of_row x _ _ _ _ _ hX.out, Array.getElem?_eq_getElem]
        have s2 : x.cell? ⟨w.heap.size, k * 3 + 2, none⟩ = some (A[k * 3 + 2]'(by omega)) := by rw [cell_of_row x _ _ _ _ _ hX.out, Array.getElem?_eq_getElem]
        have f0 : x.frozen? ⟨w.heap.size, k * 3, none⟩ = false := frozen_of_row x _ _ _ _ hX.out
        have f1 : x.frozen? ⟨w.heap.size, k * 3 + 1, none⟩ = false := frozen_of_row x _ _ _ _ hX.out
        have f2 : x.frozen? ⟨w.heap.size, k * 3 + 2, none⟩ = false := frozen_of_row x _ _ _ _ hX.out
        have HX : Hid (Below w.heap.size w x) := HB.out.trans (hbx.mono HB.out.size)
        clear hbx
        go_wp2
        go_roundw
        case rel =>
          refine ⟨k + 1, by omega, by go_num, ((HX.out.setCell (by exact Nat.le_refl _) _).setCell (by exact Nat.le_refl _) _).setCell (by exact Nat.le_refl _) _, _, heap_setCell_same _ _ _ _ _ _ (heap_setCell_same _ _ _ _ _ _ (heap_setCell_same _ _ _ _ _ _ hX.out)), by simpa using hAs, filled_succ HK.out HG.out hAs⟩
        case measure => simp [intOf]; omega
      · clear h0
        have hkk : k = gs.length := by omega
        subst hkk
        go_wp2
        go_ret
        exact ⟨_, _, rfl, view_of_filled hA hAk, hbel⟩
end Go.Proofs.Qxb6601115a
