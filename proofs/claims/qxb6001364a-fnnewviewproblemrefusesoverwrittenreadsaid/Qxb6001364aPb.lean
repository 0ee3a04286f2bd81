import Derived.Test.Qxb6001364aPa
import Derived.Test.Qxb6001364aItoa
import Derived.Deep.Cut
namespace Go.Proofs.Qxb6001364a
open Go.ChangeShapes Go.WideShapes Go.ChangeAt Go.RowKit Go.Maps

/-- The slots of problemB1 that last. -/
structure Fr16 (a : Act) (c0 c1 c2 c3 c4 c12 c14 c15 c19 c20 : Value) : Prop where
  sz : a.tmps.size = 131
  df : a.defers = []
  g0 : G a 0 = c0
  g1 : G a 1 = c1
  g2 : G a 2 = c2
  g3 : G a 3 = c3
  g4 : G a 4 = c4
  g12 : G a 12 = c12
  g14 : G a 14 = c14
  g15 : G a 15 = c15
  g19 : G a 19 = c19
  g20 : G a 20 = c20

/-- A row of some cells that may be written. -/
theorem row_cell {w : World} {b i : Nat} {A : Array Value} {e : TypeId} (h : w.heap[b]? = some (.cells A e (0, 0))) (hi : i < A.size) : ∃ v, A[i]? = some v ∧ w.cell? ⟨b, i, none⟩ = some v ∧ w.frozen? ⟨b, i, none⟩ = false :=
  ⟨A[i], by simp [hi], (cell_of_row w b i _ _ _ h).trans (by simp [hi]), frozen_of_row w b i _ _ h⟩


def Inv16A (w0 : World) (bN n : Nat) (c0 c1 c2 c3 c4 c12 c14 c15 c19 c20 : Value) (a : Act) (w : World) : Prop :=
  ∃ (v : Nat) (A : Array Value), Fr16 a c0 c1 c2 c3 c4 c12 c14 c15 c19 c20 ∧ G a 13 = .int .i64 (v : Int) ∧ v ≤ n ∧ w.heap[bN]? = some (.cells A 9 (0, 0)) ∧ A.size = n ∧ Below w0.heap.size w0 w

set_option maxHeartbeats 4000000 in
set_option maxRecDepth 100000 in
theorem loop16A (w0 : World) (bN n : Nat) (c1 c2 c3 c4 c14 c15 c19 c20 : Value) (hn : n ≤ 65536) (hbl : w0.heap.size ≤ bN)
    (a0 : Act) (wS : World) (hI : Inv16A w0 bN n (.int .i64 (n : Int)) c1 c2 c3 c4 (.slice (some ⟨bN, 0, none⟩) n n) c14 c15 c19 c20 a0 wS) (Q : Exit → Act → World → Prop)
    (hexit : ∀ a' w' A, Fr16 a' (.int .i64 (n : Int)) c1 c2 c3 c4 (.slice (some ⟨bN, 0, none⟩) n n) c14 c15 c19 c20 → w'.heap[bN]? = some (.cells A 9 (0, 0)) → A.size = n → Below w0.heap.size w0 w' → Q (.exit 0) a' w') :
    Code.wp Try.prog (Code.loop (bodyOf Try.f16 0)) Q a0 wS := by
  refine wp_loop (Inv16A w0 bN n (.int .i64 (n : Int)) c1 c2 c3 c4 (.slice (some ⟨bN, 0, none⟩) n n) c14 c15 c19 c20) (fun a _ => n - (intOf (G a 13)).toNat) hI ?_
  clear hI a0 wS
  rintro a w ⟨v, A, hF, fv, hv, hA, hAs, hbel⟩
  obtain ⟨u, rfl, hu⟩ := frame131 a hF.sz hF.df
  have e0 := (hu 0).trans hF.g0
  have e12 := (hu 12).trans hF.g12
  have e13 := (hu 13).trans fv
  have HF : Hid (Fr16 _ (.int .i64 (n : Int)) c1 c2 c3 c4 (.slice (some ⟨bN, 0, none⟩) n n) c14 c15 c19 c20) := ⟨hF⟩
  clear hu hF
  rw [fv]
  clear fv
  conv => arg 2; whnf
  rw [e0, e12, e13]
  clear e0 e12 e13
  have HX : Hid (∀ a' w' A, Fr16 a' (.int .i64 (n : Int)) c1 c2 c3 c4 (.slice (some ⟨bN, 0, none⟩) n n) c14 c15 c19 c20 → w'.heap[bN]? = some (.cells A 9 (0, 0)) → A.size = n → Below w0.heap.size w0 w' → Q (.exit 0) a' w') := ⟨hexit⟩
  have HB : Hid (Below w0.heap.size w0 w) := ⟨hbel⟩
  have HA : Hid (w.heap[bN]? = some (.cells A 9 (0, 0)) ∧ A.size = n) := ⟨hA, hAs⟩

  clear hexit hbel hA hAs
  by_cases hlt : v < n
  case neg =>
    obtain rfl : v = n := by omega
    clear hlt
    go_wp2
    exact HX.out _ _ A ⟨rfl, rfl, rfl, HF.out.g1, HF.out.g2, HF.out.g3, HF.out.g4, rfl, HF.out.g14, HF.out.g15, HF.out.g19, HF.out.g20⟩ HA.out.1 HA.out.2 HB.out
  case pos =>
    have hix := run_ix 52 9 bN n n v hlt Try.underlying52 Try.cell9
    go_wp2_with (go_at_call 31; refine (itoa_any v w (by omega)).mono ?_; rintro e w' ⟨s, rfl, hs, hb⟩; have hA' : w'.heap[bN]? = some (.cells A 9 (0, 0)) := (hb.block _ (row_lt HA.out.1)).trans HA.out.1; obtain ⟨old, _, k1, k2⟩ := row_cell hA' (i := v) (by rw [HA.out.2]; exact hlt); have HA' : Hid (w'.heap[bN]? = some (.cells A 9 (0, 0))) := ⟨hA'⟩; have HB' : Hid (Below w0.heap.size w0 w') := ⟨HB.out.trans (hb.mono HB.out.size)⟩; have HS : Hid (IsDec s v) := ⟨hs⟩; have hsz : s.size ≤ 24 := isDec_size hs; clear hA' hb hs)
    trace_state
    refine ⟨⟨v + 1, A.setIfInBounds v (.string (⟨#[84]⟩ ++ s)), ⟨rfl, rfl, rfl, HF.out.g1, HF.out.g2, HF.out.g3, HF.out.g4, rfl, HF.out.g14, HF.out.g15, HF.out.g19, HF.out.g20⟩, (by show Value.int .i64 ((v : Int) + 1) = _; simp), hlt, heap_setCell_same _ _ _ _ _ _ HA'.out, by simp [HA.out.2], HB'.out.setCell hbl _⟩, ?_⟩
    · show n - (intOf (Value.int .i64 ((v : Int) + 1))).toNat < n - (intOf (Value.int .i64 (v : Int))).toNat
      simp [intOf]
      omega

def Inv16B (w0 : World) (bI k : Nat) (bC : Nat) (oC : Obj) (c0 c1 c2 c3 c4 c12 c14 c15 c19 c20 : Value) (a : Act) (w : World) : Prop :=
  ∃ (v : Nat) (A : Array Value), Fr16 a c0 c1 c2 c3 c4 c12 c14 c15 c19 c20 ∧ G a 16 = .int .i64 (v : Int) ∧ v ≤ k ∧ w.heap[bI]? = some (.cells A 9 (0, 0)) ∧ A.size = k ∧ Below w0.heap.size w0 w ∧ (∀ y, y < v → ∃ s : ByteArray, A[y]? = some (.string (⟨#[120]⟩ ++ s)) ∧ IsDec s y) ∧ w.heap[bC]? = some oC

set_option maxHeartbeats 4000000 in
set_option maxRecDepth 100000 in
theorem loop16B (w0 : World) (bI k : Nat) (bC : Nat) (oC : Obj) (c0 c1 c2 c3 c12 c15 c19 c20 : Value) (hn : k ≤ 65536) (hbl : w0.heap.size ≤ bI) (hne : bC ≠ bI)
    (a0 : Act) (wS : World) (hI : Inv16B w0 bI k bC oC c0 c1 c2 c3 (.int .i64 (k : Int)) c12 (.slice (some ⟨bI, 0, none⟩) k k) c15 c19 c20 a0 wS) (Q : Exit → Act → World → Prop)
    (hexit : ∀ a' w' A, Fr16 a' c0 c1 c2 c3 (.int .i64 (k : Int)) c12 (.slice (some ⟨bI, 0, none⟩) k k) c15 c19 c20 → w'.heap[bI]? = some (.cells A 9 (0, 0)) → A.size = k → Below w0.heap.size w0 w' → (∀ y, y < k → ∃ s : ByteArray, A[y]? = some (.string (⟨#[120]⟩ ++ s)) ∧ IsDec s y) → w'.heap[bC]? = some oC → Q (.exit 2) a' w') :
    Code.wp Try.prog (Code.loop (bodyOf Try.f16 1)) Q a0 wS := by
  refine wp_loop (Inv16B w0 bI k bC oC c0 c1 c2 c3 (.int .i64 (k : Int)) c12 (.slice (some ⟨bI, 0, none⟩) k k) c15 c19 c20) (fun a _ => k - (intOf (G a 16)).toNat) hI ?_
  clear hI a0 wS
  rintro a w ⟨v, A, hF, fv, hv, hA, hAs, hbel, hd, hC⟩
  obtain ⟨u, rfl, hu⟩ := frame131 a hF.sz hF.df
  have e4 := (hu 4).trans hF.g4
  have e14 := (hu 14).trans hF.g14
  have e16 := (hu 16).trans fv
  have HF : Hid (Fr16 _ c0 c1 c2 c3 (.int .i64 (k : Int)) c12 (.slice (some ⟨bI, 0, none⟩) k k) c15 c19 c20) := ⟨hF⟩
  clear hu hF
  rw [fv]
  clear fv
  conv => arg 2; whnf
  rw [e4, e14, e16]
  clear e4 e14 e16
  have HX : Hid (∀ a' w' A, Fr16 a' c0 c1 c2 c3 (.int .i64 (k : Int)) c12 (.slice (some ⟨bI, 0, none⟩) k k) c15 c19 c20 → w'.heap[bI]? = some (.cells A 9 (0, 0)) → A.size = k → Below w0.heap.size w0 w' → (∀ y, y < k → ∃ s : ByteArray, A[y]? = some (.string (⟨#[120]⟩ ++ s)) ∧ IsDec s y) → w'.heap[bC]? = some oC → Q (.exit 2) a' w') := ⟨hexit⟩
  have HB : Hid (Below w0.heap.size w0 w) := ⟨hbel⟩
  have HA : Hid (w.heap[bI]? = some (.cells A 9 (0, 0)) ∧ A.size = k) := ⟨hA, hAs⟩
  have HD : Hid ((∀ y, y < v → ∃ s : ByteArray, A[y]? = some (.string (⟨#[120]⟩ ++ s)) ∧ IsDec s y) ∧ w.heap[bC]? = some oC) := ⟨hd, hC⟩
  clear hexit hbel hA hAs hd hC
  by_cases hlt : v < k
  case neg =>
    obtain rfl : v = k := by omega
    clear hlt
    go_wp2
    exact HX.out _ _ A ⟨rfl, rfl, HF.out.g0, HF.out.g1, HF.out.g2, HF.out.g3, rfl, HF.out.g12, rfl, HF.out.g15, HF.out.g19, HF.out.g20⟩ HA.out.1 HA.out.2 HB.out HD.out.1 HD.out.2
  case pos =>
    have hix := run_ix 52 9 bI k k v hlt Try.underlying52 Try.cell9
    go_wp2_with (go_at_call 31; refine (itoa_any v w (by omega)).mono ?_; rintro e w' ⟨s, rfl, hs, hb⟩; have hA' : w'.heap[bI]? = some (.cells A 9 (0, 0)) := (hb.block _ (row_lt HA.out.1)).trans HA.out.1; obtain ⟨old, _, k1, k2⟩ := row_cell hA' (i := v) (by rw [HA.out.2]; exact hlt); have HA' : Hid (w'.heap[bI]? = some (.cells A 9 (0, 0))) := ⟨hA'⟩; have HB' : Hid (Below w0.heap.size w0 w') := ⟨HB.out.trans (hb.mono HB.out.size)⟩; have HS : Hid (IsDec s v) := ⟨hs⟩; have hsz : s.size ≤ 24 := isDec_size hs; have HC' : Hid (w'.heap[bC]? = some oC) := ⟨(hb.block _ (row_lt HD.out.2)).trans HD.out.2⟩; clear hA' hb hs)
    trace_state
    refine ⟨⟨v + 1, A.setIfInBounds v (.string (⟨#[120]⟩ ++ s)), ⟨rfl, rfl, HF.out.g0, HF.out.g1, HF.out.g2, HF.out.g3, rfl, HF.out.g12, rfl, HF.out.g15, HF.out.g19, HF.out.g20⟩, (by show Value.int .i64 ((v : Int) + 1) = _; simp), hlt, heap_setCell_same _ _ _ _ _ _ HA'.out, by simp [HA.out.2], HB'.out.setCell hbl _, ?_, ?_⟩, ?_⟩
    · intro y hy
      by_cases e : y = v
      · subst e
        exact ⟨s, by rw [Array.getElem?_setIfInBounds_self_of_lt (by rw [HA.out.2]; exact hlt)], HS.out⟩
      · rw [Array.getElem?_setIfInBounds_ne (by omega)]
        exact HD.out.1 y (by omega)
    · exact (heap_setCell_other _ _ _ _ hne).trans HC'.out
    · show k - (intOf (Value.int .i64 ((v : Int) + 1))).toNat < k - (intOf (Value.int .i64 (v : Int))).toNat
      simp [intOf]
      omega

end Go.Proofs.Qxb6001364a
