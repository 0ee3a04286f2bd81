import Derived.Test.Qxb6001364aScan
namespace Go.Proofs.Qxb6001364a
open Go.ChangeShapes Go.WideShapes Go.ChangeAt Go.RowKit Go.Maps

/-- The state of the scan: the problem, the three maps, the slice of those that read. -/
structure S2 (C : PC) (w0 : World) (bm1 bm2 bm3 : Nat) (v4 v5 : Value) (w : World) (τ : Tags) (L : Nat) (rv : Value) (cm : Nat) (F1 F2 F3 : Int → Option Value) : Prop where
  P : PSt C w0 w τ L v4 v5
  m1 : MIn w τ bm1 cm F1 (-1) C.n
  m2 : MBo w τ bm2 cm F2
  m3 : MBo w τ bm3 cm F3
  rv : SlTo τ L 1 rv
  n12 : bm1 ≠ bm2
  n13 : bm1 ≠ bm3
  n23 : bm2 ≠ bm3
  l1 : w0.heap.size ≤ bm1
  l2 : w0.heap.size ≤ bm2
  l3 : w0.heap.size ≤ bm3

section
variable {C : PC} {w0 w w' : World} {bm1 bm2 bm3 : Nat} {rv rv' : Value} {τ τ' : Tags} {L L' : Nat} {v4 v5 : Value} {cm : Nat} {F1 F2 F3 : Int → Option Value}
theorem S2.step (h : S2 C w0 bm1 bm2 bm3 v4 v5 w τ L rv cm F1 F2 F3) (hs : Stp τ w τ' w') (hp : PSt C w0 w' τ' L' v4 v5) (hL : L ≤ L') : S2 C w0 bm1 bm2 bm3 v4 v5 w' τ' L' rv cm F1 F2 F3 :=
  ⟨hp, h.m1.step hs, h.m2.step hs, h.m3.step hs, h.rv.mono hs.ext hL, h.n12, h.n13, h.n23, h.l1, h.l2, h.l3⟩
theorem S2.more (h : S2 C w0 bm1 bm2 bm3 v4 v5 w τ L rv cm F1 F2 F3) {cm' : Nat} (hL : L ≤ L') (hc : cm ≤ cm') : S2 C w0 bm1 bm2 bm3 v4 v5 w τ L' rv cm' F1 F2 F3 :=
  ⟨h.P.step (Stp.refl _ _) (h.P.ht.more hL) hL, ⟨h.m1.map.mono hc, h.m1.no, h.m1.val⟩, ⟨h.m2.map.mono hc, h.m2.no, h.m2.val⟩, ⟨h.m3.map.mono hc, h.m3.no, h.m3.val⟩, h.rv.mono (fun _ _ h => h) hL, h.n12, h.n13, h.n23, h.l1, h.l2, h.l3⟩
theorem S2.setRv (h : S2 C w0 bm1 bm2 bm3 v4 v5 w τ L rv cm F1 F2 F3) (hr : SlTo τ L 1 rv') : S2 C w0 bm1 bm2 bm3 v4 v5 w τ L rv' cm F1 F2 F3 :=
  ⟨h.P, h.m1, h.m2, h.m3, hr, h.n12, h.n13, h.n23, h.l1, h.l2, h.l3⟩
theorem S2.put1 (h : S2 C w0 bm1 bm2 bm3 v4 v5 w τ L rv cm F1 F2 F3) (x z : Int) (hz : -1 ≤ z ∧ z < C.n) (hM : MapG kI 3 w' bm1 (cm + 1) (updG F1 x (.int .i64 z))) (hg : w.grownBy w' (some bm1)) : S2 C w0 bm1 bm2 bm3 v4 v5 w' τ L rv (cm + 1) (updG F1 x (.int .i64 z)) F2 F3 where
  P := h.P.mapPut h.m1.no h.m1.map.isMap h.l1 hg
  m1 := ⟨hM, h.m1.no, fun y v hv => by
    unfold updG at hv
    split at hv
    · cases hv
      exact ⟨_, rfl, hz⟩
    · exact h.m1.val y v hv⟩
  m2 := ⟨(h.m2.map.same (hg.block _ h.m2.map.lt (by simpa using Ne.symm h.n12))).mono (Nat.le_succ _), h.m2.no, h.m2.val⟩
  m3 := ⟨(h.m3.map.same (hg.block _ h.m3.map.lt (by simpa using Ne.symm h.n13))).mono (Nat.le_succ _), h.m3.no, h.m3.val⟩
  rv := h.rv
  n12 := h.n12
  n13 := h.n13
  n23 := h.n23
  l1 := h.l1
  l2 := h.l2
  l3 := h.l3
theorem S2.put2 (h : S2 C w0 bm1 bm2 bm3 v4 v5 w τ L rv cm F1 F2 F3) (x : Int) (b : Bool) (hM : MapG kI 3 w' bm2 (cm + 1) (updG F2 x (.bool b))) (hg : w.grownBy w' (some bm2)) : S2 C w0 bm1 bm2 bm3 v4 v5 w' τ L rv (cm + 1) F1 (updG F2 x (.bool b)) F3 where
  P := h.P.mapPut h.m2.no h.m2.map.isMap h.l2 hg
  m1 := ⟨(h.m1.map.same (hg.block _ h.m1.map.lt (by simpa using h.n12))).mono (Nat.le_succ _), h.m1.no, h.m1.val⟩
  m2 := ⟨hM, h.m2.no, fun y v hv => by
    unfold updG at hv
    split at hv
    · cases hv
      exact ⟨_, rfl⟩
    · exact h.m2.val y v hv⟩
  m3 := ⟨(h.m3.map.same (hg.block _ h.m3.map.lt (by simpa using Ne.symm h.n23))).mono (Nat.le_succ _), h.m3.no, h.m3.val⟩
  rv := h.rv
  n12 := h.n12
  n13 := h.n13
  n23 := h.n23
  l1 := h.l1
  l2 := h.l2
  l3 := h.l3
theorem S2.put3 (h : S2 C w0 bm1 bm2 bm3 v4 v5 w τ L rv cm F1 F2 F3) (x : Int) (b : Bool) (hM : MapG kI 3 w' bm3 (cm + 1) (updG F3 x (.bool b))) (hg : w.grownBy w' (some bm3)) : S2 C w0 bm1 bm2 bm3 v4 v5 w' τ L rv (cm + 1) F1 F2 (updG F3 x (.bool b)) where
  P := h.P.mapPut h.m3.no h.m3.map.isMap h.l3 hg
  m1 := ⟨(h.m1.map.same (hg.block _ h.m1.map.lt (by simpa using h.n13))).mono (Nat.le_succ _), h.m1.no, h.m1.val⟩
  m2 := ⟨(h.m2.map.same (hg.block _ h.m2.map.lt (by simpa using h.n23))).mono (Nat.le_succ _), h.m2.no, h.m2.val⟩
  m3 := ⟨hM, h.m3.no, fun y v hv => by
    unfold updG at hv
    split at hv
    · cases hv
      exact ⟨_, rfl⟩
    · exact h.m3.val y v hv⟩
  rv := h.rv
  n12 := h.n12
  n13 := h.n13
  n23 := h.n23
  l1 := h.l1
  l2 := h.l2
  l3 := h.l3
end

/-- A list of accesses in memory. -/
structure ListAt (w : World) (bl : Nat) (acc : List (Nat × Bool)) : Prop where
  row : ∃ A : Array Value, w.heap[bl]? = some (.cells A 82 (0, 0)) ∧ A.size = 2 * acc.length ∧ ∀ j x, acc[j]? = some x → A[2 * j]? = some (.int .i64 (x.1 : Int)) ∧ A[2 * j + 1]? = some (.bool x.2)
theorem ListAt.lt {w : World} {bl : Nat} {acc : List (Nat × Bool)} (h : ListAt w bl acc) : bl < w.heap.size := by
  obtain ⟨A, hA, _⟩ := h.row
  exact row_lt hA
theorem ListAt.below {w w' : World} {bl B : Nat} {acc : List (Nat × Bool)} (h : ListAt w bl acc) (hb : Below B w w') (hB : bl < B) : ListAt w' bl acc := by
  obtain ⟨A, hA, r⟩ := h.row
  exact ⟨A, (hb.block _ hB).trans hA, r⟩
theorem ListAt.cell {w : World} {bl j : Nat} {acc : List (Nat × Bool)} {x : Nat × Bool} (h : ListAt w bl acc) (hx : acc[j]? = some x) : w.cell? ⟨bl, j * 2, none⟩ = some (.int .i64 (x.1 : Int)) ∧ w.cell? ⟨bl, j * 2 + 1, none⟩ = some (.bool x.2) := by
  obtain ⟨A, hA, _, r⟩ := h.row
  rw [cell_of_row w bl _ A _ _ hA, cell_of_row w bl _ A _ _ hA, Nat.mul_comm j 2]
  exact r j x hx

end Go.Proofs.Qxb6001364a
