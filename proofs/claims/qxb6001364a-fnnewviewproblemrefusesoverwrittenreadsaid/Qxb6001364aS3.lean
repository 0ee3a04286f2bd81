import Derived.Test.Qxb6001364aRegC
namespace Go.Proofs.Qxb6001364a
open Go.ChangeShapes Go.WideShapes Go.ChangeAt Go.RowKit Go.Maps

/-- A map of no kind, int to bool. -/
structure MBo (w : World) (τ : Tags) (bm cm : Nat) (F : Int → Option Value) : Prop where
  map : MapG kI 3 w bm cm F
  no : τ bm = none
  val : ∀ x v, F x = some v → ∃ b : Bool, v = .bool b
theorem MBo.step {w w' : World} {τ τ' : Tags} {bm cm : Nat} {F : Int → Option Value} (h : MBo w τ bm cm F) (hs : Stp τ w τ' w') : MBo w' τ' bm cm F :=
  ⟨h.map.same (hs.keep _ h.no h.map.lt), hs.new _ h.no h.map.lt, h.val⟩
theorem MBo.get {w : World} {τ : Tags} {bm cm : Nat} {F : Int → Option Value} (h : MBo w τ bm cm F) (x : Int) : ∃ b : Bool, (F x).getD (.bool false) = .bool b := by
  cases hf : F x with
  | none => exact ⟨false, rfl⟩
  | some v =>
    obtain ⟨b, rfl⟩ := h.val x v hf
    exact ⟨b, rfl⟩

section
variable {C : PC} {w0 w w' : World} {τ τ' : Tags} {L L' : Nat} {v4 v5 : Value}
theorem heap_pb {A : Array Value} {i : Nat} {v : Value} {e : TypeId} (h : w.heap[C.pb]? = some (.cells A e (0, 0))) : (w.setCell ⟨C.pb, i, none⟩ v).heap[C.pb]? = some (.cells (A.setIfInBounds i v) e (0, 0)) := heap_setCell_same _ _ _ _ _ _ h
theorem PSt.pbSet (h : PSt C w0 w τ L v4 v5) (i : Nat) (v : Value) : HT (w.setCell ⟨C.pb, i, none⟩ v) τ L C.n ∧ Below w0.heap.size w0 (w.setCell ⟨C.pb, i, none⟩ v) :=
  ⟨h.ht.same fun b x hb => heap_setCell_other _ _ _ _ (fun e => by
      have e' : b = C.pb := e
      rw [e', h.pbn] at hb
      cases hb), h.bel.setCell h.pbl _⟩
theorem PSt.set4 (h : PSt C w0 w τ L v4 v5) {v : Value} (hv : SlTo τ L 2 v) : PSt C w0 (w.setCell ⟨C.pb, 4, none⟩ v) τ L v v5 where
  ht := (h.pbSet 4 v).1
  bel := (h.pbSet 4 v).2
  low := h.low
  pbl := h.pbl
  pbn := h.pbn
  row := heap_pb h.row
  s4 := hv
  s5 := h.s5
  t0 := h.t0
  t1 := h.t1
  t2 := h.t2
  t3 := h.t3
  t6 := h.t6
  t7 := h.t7
theorem PSt.set5 (h : PSt C w0 w τ L v4 v5) {v : Value} (hv : SlTo τ L 0 v) : PSt C w0 (w.setCell ⟨C.pb, 5, none⟩ v) τ L v4 v where
  ht := (h.pbSet 5 v).1
  bel := (h.pbSet 5 v).2
  low := h.low
  pbl := h.pbl
  pbn := h.pbn
  row := heap_pb h.row
  s4 := h.s4
  s5 := hv
  t0 := h.t0
  t1 := h.t1
  t2 := h.t2
  t3 := h.t3
  t6 := h.t6
  t7 := h.t7
end

/-- The state of the third loop. -/
structure S3 (C : PC) (w0 : World) (r2 : Option Obj) (bm1 cm1 : Nat) (F1 : Int → Option Value) (bm2 cm2 : Nat) (F2 : Int → Option Value) (bm4 bc : Nat) (rv : Value) (w : World) (τ : Tags) (L : Nat) (v4 v5 : Value) (cm4 : Nat) (F4 : Int → Option Value) (hi : Nat) : Prop where
  P : PSt C w0 w τ L v4 v5
  m1 : MIn w τ bm1 cm1 F1 (-1) C.n
  m2 : MBo w τ bm2 cm2 F2
  m4 : MIn w τ bm4 cm4 F4 0 hi
  bcr : w.heap[bc]? = some (.cells #[.map (some bm4)] 50 (0, 0))
  nbc : τ bc = none
  rv : SlTo τ L 1 rv
  n14 : bm1 ≠ bm4
  n24 : bm2 ≠ bm4
  l4 : w0.heap.size ≤ bm4
  row2 : w.heap[C.b2]? = r2

section
variable {C : PC} {w0 w w' : World} {r2 : Option Obj} {bm1 cm1 : Nat} {F1 : Int → Option Value} {bm2 cm2 : Nat} {F2 : Int → Option Value} {bm4 bc : Nat} {rv : Value} {τ τ' : Tags} {L L' : Nat} {v4 v5 : Value} {cm4 : Nat} {F4 : Int → Option Value} {hi : Nat}
theorem S3.step (h : S3 C w0 r2 bm1 cm1 F1 bm2 cm2 F2 bm4 bc rv w τ L v4 v5 cm4 F4 hi) (hs : Stp τ w τ' w') (hk : K3 τ w w') (hp : PSt C w0 w' τ' L' v4 v5) (hL : L ≤ L') : S3 C w0 r2 bm1 cm1 F1 bm2 cm2 F2 bm4 bc rv w' τ' L' v4 v5 cm4 F4 hi :=
  ⟨hp, h.m1.step hs, h.m2.step hs, h.m4.step hs, (hs.keep _ h.nbc (row_lt h.bcr)).trans h.bcr, hs.new _ h.nbc (row_lt h.bcr), h.rv.mono hs.ext hL, h.n14, h.n24, h.l4, (hk _ _ h.P.t2 (h.P.ht.lt h.P.t2)).trans h.row2⟩
theorem S3.put (h : S3 C w0 r2 bm1 cm1 F1 bm2 cm2 F2 bm4 bc rv w τ L v4 v5 cm4 F4 hi) (x : Int) (d : Nat) (hd : d < hi + 1) (hM : MapG kI 3 w' bm4 (cm4 + 1) (updG F4 x (.int .i64 (d : Int)))) (hg : w.grownBy w' (some bm4)) : S3 C w0 r2 bm1 cm1 F1 bm2 cm2 F2 bm4 bc rv w' τ L v4 v5 (cm4 + 1) (updG F4 x (.int .i64 (d : Int))) (hi + 1) where
  P := h.P.mapPut h.m4.no h.m4.map.isMap h.l4 hg
  m1 := ⟨h.m1.map.same (hg.block _ h.m1.map.lt (by simpa using h.n14)), h.m1.no, h.m1.val⟩
  m2 := ⟨h.m2.map.same (hg.block _ h.m2.map.lt (by simpa using h.n24)), h.m2.no, h.m2.val⟩
  m4 := ⟨hM, h.m4.no, fun y v hv => by
    unfold updG at hv
    split at hv
    · cases hv
      exact ⟨_, rfl, by omega, by omega⟩
    · obtain ⟨z, rfl, h1, h2⟩ := h.m4.val y v hv
      exact ⟨z, rfl, h1, by omega⟩⟩
  bcr := by
    obtain ⟨es, c, hm⟩ := h.m4.map.isMap
    exact (hg.block _ (row_lt h.bcr) (by simpa using ne_of_obj h.bcr hm (by simp))).trans h.bcr
  nbc := h.nbc
  rv := h.rv
  n14 := h.n14
  n24 := h.n24
  l4 := h.l4
  row2 := by
    obtain ⟨es, c, hm⟩ := h.m4.map.isMap
    obtain ⟨A, hA, _⟩ := h.P.ht.blk _ _ _ h.P.t2
    exact (hg.block _ (row_lt hA) (by simpa using ne_of_obj hA hm (by simp))).trans h.row2
theorem S3.pbAway (h : S3 C w0 r2 bm1 cm1 F1 bm2 cm2 F2 bm4 bc rv w τ L v4 v5 cm4 F4 hi) (i : Nat) (v : Value) (va vb : Value) (hp : PSt C w0 (w.setCell ⟨C.pb, i, none⟩ v) τ L va vb) : S3 C w0 r2 bm1 cm1 F1 bm2 cm2 F2 bm4 bc rv (w.setCell ⟨C.pb, i, none⟩ v) τ L va vb cm4 F4 hi := by
  have hne : ∀ (b : Nat) (o : Obj), w.heap[b]? = some o → o ≠ .cells #[.slice (some ⟨C.b0, 0, none⟩) C.n C.n, .slice (some ⟨C.b1, 0, none⟩) C.n C.n, .slice (some ⟨C.b2, 0, none⟩) C.k C.k, .slice (some ⟨C.b3, 0, none⟩) C.k C.k, v4, v5, .slice (some ⟨C.b6, 0, none⟩) C.n C.n, .slice (some ⟨C.b7, 0, none⟩) C.n C.n] 58 (0, 0) → (w.setCell ⟨C.pb, i, none⟩ v).heap[b]? = w.heap[b]? := fun b o hb hn =>
    heap_setCell_other _ _ _ _ (ne_of_obj hb h.P.row hn)
  refine ⟨hp, ⟨h.m1.map.same ?_, h.m1.no, h.m1.val⟩, ⟨h.m2.map.same ?_, h.m2.no, h.m2.val⟩, ⟨h.m4.map.same ?_, h.m4.no, h.m4.val⟩, ?_, h.nbc, h.rv, h.n14, h.n24, h.l4, ?_⟩
  · obtain ⟨es, c, hm⟩ := h.m1.map.isMap
    exact hne _ _ hm (by simp)
  · obtain ⟨es, c, hm⟩ := h.m2.map.isMap
    exact hne _ _ hm (by simp)
  · obtain ⟨es, c, hm⟩ := h.m4.map.isMap
    exact hne _ _ hm (by simp)
  · exact (hne _ _ h.bcr (by simp)).trans h.bcr
  · refine (heap_setCell_other _ _ _ _ (fun e => ?_)).trans h.row2
    have e' : C.b2 = C.pb := e
    have := h.P.t2
    rw [e', h.P.pbn] at this
    cases this
end

end Go.Proofs.Qxb6001364a
