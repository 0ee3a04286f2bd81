import Derived.Test.Qxb6001364aNew
import Derived.ArgAppend
namespace Go.Proofs.Qxb6001364a
open Go.ChangeShapes Go.WideShapes Go.ChangeAt Go.RowKit Go.Maps

set_option maxRecDepth 100000 in
theorem frame68 (a : Act) (hs : a.tmps.size = 68) (hd : a.defers = []) : ∃ u : Nat → Value, a = ⟨List.toArray (u 0 :: u 1 :: u 2 :: u 3 :: u 4 :: u 5 :: u 6 :: u 7 :: u 8 :: u 9 :: u 10 :: u 11 :: u 12 :: u 13 :: u 14 :: u 15 :: u 16 :: u 17 :: u 18 :: u 19 :: u 20 :: u 21 :: u 22 :: u 23 :: u 24 :: u 25 :: u 26 :: u 27 :: u 28 :: u 29 :: u 30 :: u 31 :: u 32 :: u 33 :: u 34 :: u 35 :: u 36 :: u 37 :: u 38 :: u 39 :: u 40 :: u 41 :: u 42 :: u 43 :: u 44 :: u 45 :: u 46 :: u 47 :: u 48 :: u 49 :: u 50 :: u 51 :: u 52 :: u 53 :: u 54 :: u 55 :: u 56 :: u 57 :: u 58 :: u 59 :: u 60 :: u 61 :: u 62 :: u 63 :: u 64 :: u 65 :: u 66 :: u 67 :: []), []⟩ ∧ ∀ i, u i = G a i := by
  refine ⟨fun i => a.tmps.toList.getD i undef, ?_, fun i => by simp [G]⟩
  obtain ⟨⟨t⟩, d⟩ := a
  have h := list_any 68 t hs
  have hd' : d = [] := hd
  rw [hd']
  have e : ∀ u : Nat → Value, (List.range 68).map u = u 0 :: u 1 :: u 2 :: u 3 :: u 4 :: u 5 :: u 6 :: u 7 :: u 8 :: u 9 :: u 10 :: u 11 :: u 12 :: u 13 :: u 14 :: u 15 :: u 16 :: u 17 :: u 18 :: u 19 :: u 20 :: u 21 :: u 22 :: u 23 :: u 24 :: u 25 :: u 26 :: u 27 :: u 28 :: u 29 :: u 30 :: u 31 :: u 32 :: u 33 :: u 34 :: u 35 :: u 36 :: u 37 :: u 38 :: u 39 :: u 40 :: u 41 :: u 42 :: u 43 :: u 44 :: u 45 :: u 46 :: u 47 :: u 48 :: u 49 :: u 50 :: u 51 :: u 52 :: u 53 :: u 54 :: u 55 :: u 56 :: u 57 :: u 58 :: u 59 :: u 60 :: u 61 :: u 62 :: u 63 :: u 64 :: u 65 :: u 66 :: u 67 :: [] := fun u => rfl
  rw [e] at h
  exact congrArg (fun l : List Value => (⟨List.toArray l, []⟩ : Act)) h

set_option maxRecDepth 100000 in
theorem frame131 (a : Act) (hs : a.tmps.size = 131) (hd : a.defers = []) : ∃ u : Nat → Value, a = ⟨List.toArray (u 0 :: u 1 :: u 2 :: u 3 :: u 4 :: u 5 :: u 6 :: u 7 :: u 8 :: u 9 :: u 10 :: u 11 :: u 12 :: u 13 :: u 14 :: u 15 :: u 16 :: u 17 :: u 18 :: u 19 :: u 20 :: u 21 :: u 22 :: u 23 :: u 24 :: u 25 :: u 26 :: u 27 :: u 28 :: u 29 :: u 30 :: u 31 :: u 32 :: u 33 :: u 34 :: u 35 :: u 36 :: u 37 :: u 38 :: u 39 :: u 40 :: u 41 :: u 42 :: u 43 :: u 44 :: u 45 :: u 46 :: u 47 :: u 48 :: u 49 :: u 50 :: u 51 :: u 52 :: u 53 :: u 54 :: u 55 :: u 56 :: u 57 :: u 58 :: u 59 :: u 60 :: u 61 :: u 62 :: u 63 :: u 64 :: u 65 :: u 66 :: u 67 :: u 68 :: u 69 :: u 70 :: u 71 :: u 72 :: u 73 :: u 74 :: u 75 :: u 76 :: u 77 :: u 78 :: u 79 :: u 80 :: u 81 :: u 82 :: u 83 :: u 84 :: u 85 :: u 86 :: u 87 :: u 88 :: u 89 :: u 90 :: u 91 :: u 92 :: u 93 :: u 94 :: u 95 :: u 96 :: u 97 :: u 98 :: u 99 :: u 100 :: u 101 :: u 102 :: u 103 :: u 104 :: u 105 :: u 106 :: u 107 :: u 108 :: u 109 :: u 110 :: u 111 :: u 112 :: u 113 :: u 114 :: u 115 :: u 116 :: u 117 :: u 118 :: u 119 :: u 120 :: u 121 :: u 122 :: u 123 :: u 124 :: u 125 :: u 126 :: u 127 :: u 128 :: u 129 :: u 130 :: []), []⟩ ∧ ∀ i, u i = G a i := by
  refine ⟨fun i => a.tmps.toList.getD i undef, ?_, fun i => by simp [G]⟩
  obtain ⟨⟨t⟩, d⟩ := a
  have h := list_any 131 t hs
  have hd' : d = [] := hd
  rw [hd']
  have e : ∀ u : Nat → Value, (List.range 131).map u = u 0 :: u 1 :: u 2 :: u 3 :: u 4 :: u 5 :: u 6 :: u 7 :: u 8 :: u 9 :: u 10 :: u 11 :: u 12 :: u 13 :: u 14 :: u 15 :: u 16 :: u 17 :: u 18 :: u 19 :: u 20 :: u 21 :: u 22 :: u 23 :: u 24 :: u 25 :: u 26 :: u 27 :: u 28 :: u 29 :: u 30 :: u 31 :: u 32 :: u 33 :: u 34 :: u 35 :: u 36 :: u 37 :: u 38 :: u 39 :: u 40 :: u 41 :: u 42 :: u 43 :: u 44 :: u 45 :: u 46 :: u 47 :: u 48 :: u 49 :: u 50 :: u 51 :: u 52 :: u 53 :: u 54 :: u 55 :: u 56 :: u 57 :: u 58 :: u 59 :: u 60 :: u 61 :: u 62 :: u 63 :: u 64 :: u 65 :: u 66 :: u 67 :: u 68 :: u 69 :: u 70 :: u 71 :: u 72 :: u 73 :: u 74 :: u 75 :: u 76 :: u 77 :: u 78 :: u 79 :: u 80 :: u 81 :: u 82 :: u 83 :: u 84 :: u 85 :: u 86 :: u 87 :: u 88 :: u 89 :: u 90 :: u 91 :: u 92 :: u 93 :: u 94 :: u 95 :: u 96 :: u 97 :: u 98 :: u 99 :: u 100 :: u 101 :: u 102 :: u 103 :: u 104 :: u 105 :: u 106 :: u 107 :: u 108 :: u 109 :: u 110 :: u 111 :: u 112 :: u 113 :: u 114 :: u 115 :: u 116 :: u 117 :: u 118 :: u 119 :: u 120 :: u 121 :: u 122 :: u 123 :: u 124 :: u 125 :: u 126 :: u 127 :: u 128 :: u 129 :: u 130 :: [] := fun u => rfl
  rw [e] at h
  exact congrArg (fun l : List Value => (⟨List.toArray l, []⟩ : Act)) h

section
variable {ev : Operand → Value} {o : Oper} {w : World}
theorem ex_build23 (x : Operand) (ho : o.op = .buildSlice 23 1 #[(0, x)]) {z : Bool} (h : ev x = .bool z) : (execOp ev o).run Try.prog w = .ok (.value (.slice (some ⟨w.heap.size, 0, none⟩) 1 1)) (w.alloc (.cells #[.bool z] 4)) := by
  simp [execOp, ho, h, go_sem]
theorem ex_build82 (x y : Operand) (ho : o.op = .build 82 #[(0, x), (1, y)]) {z1 : Int} {z2 : Bool} (h : ev x = .int .i64 z1) (h2 : ev y = .bool z2) : (execOp ev o).run Try.prog w = .ok (.value (.agg #[.int .i64 z1, .bool z2])) w := by
  simp [execOp, ho, h, h2, go_sem]
theorem ex_store82 (x y : Operand) (ho : o.op = .store 82 x y) {b i : Nat} {z1 : Int} {z2 : Bool} (h : ev x = .pointer (some ⟨b, i, none⟩)) (h2 : ev y = .agg #[.int .i64 z1, .bool z2]) (ht : w.there b i 2) : (execOp ev o).run Try.prog w = .ok .skip (w.setCells b i [.int .i64 z1, .bool z2]) := by
  have := run_storeAt_mid (P := Try.prog) w b i 82 #[.int .i64 z1, .bool z2] ht Try.size82 (by simp [Value.oneCell'])
  simp [execOp, ho, h, h2, this, Result.andThen]
end

/-- A region that makes a slice of one, appends it in place and stores the row: all of it told. -/
theorem region_room {id : Nat} {ops : Array Oper} {Q : Exit → Act → World → Prop} (x1 x3 x4 : World) (ob : Obj) (a : Act) (d0 m jb ja : Nat) (V : Nat → Value) (hin : d0 + m ≤ a.tmps.size) (hd : dstB ops d0 m = true) (hgd : ops.toList.all (fun o => o.guard.isNone) = true) (hso : sortedB ops = true)
    (hjb : jb < ja) (hja : ja < m) (wa : waits ops ja jb = true) (ws : waits ops m ja = true)
    (pure : ∀ j o, ops[j]? = some o → j < m → j ≠ jb → j ≠ ja → ∀ (L : Nat → Bool) (a' : Act) (w : World), Slots a d0 m V m L a' → (∀ k, waits ops j k = true → L k = true) → (waits ops ja j = true → w = x1.drew ∨ w = x1.drew.alloc ob) → (waits ops jb j = true → w = x1.drew) → ∀ K : Act → World → Prop, K (a'.put o.dst (V j)) w → o.wp Try.prog a' w K Q)
    (bld : ∀ o, ops[jb]? = some o → ∀ (L : Nat → Bool) (a' : Act), Slots a d0 m V m L a' → (∀ k, waits ops jb k = true → L k = true) → (execOp a'.eval o).run Try.prog x1.drew = .ok (.value (V jb)) (x1.drew.alloc ob))
    (app : ∀ o, ops[ja]? = some o → ∀ (L : Nat → Bool) (a' : Act), Slots a d0 m V m L a' → (∀ k, waits ops ja k = true → L k = true) → (execOp a'.eval o).run Try.prog (x1.drew.alloc ob) = .ok (.value (V ja)) x3)
    (sto : ∀ o, ops[m]? = some o → ∀ (L : Nat → Bool) (a' : Act), Slots a d0 m V m L a' → (∀ k, waits ops m k = true → L k = true) → (execOp a'.eval o).run Try.prog x3 = .ok .skip x4)
    (hK : ∀ a', a'.tmps.size = a.tmps.size → a'.defers = a.defers → (∀ s, s < d0 ∨ d0 + m ≤ s → G a' s = G a s) → Q .normal a' x4) :
    Code.wp Try.prog (.region id ops true) Q a x1 := by
  obtain ⟨hsz, hdst⟩ := dst_of hd
  refine wp_region_inv (by kernel_rfl) (fun L a' w => Slots a d0 m V m L a' ∧ (L jb = false → w = x1.drew) ∧ (L jb = true → L ja = false → w = x1.drew.alloc ob) ∧ (L ja = true → L m = false → w = x3) ∧ (L m = true → w = x4)) (hg_of hgd) (hlt_of hso)
    ⟨Slots.start, fun _ => rfl, (fun h => by cases h), (fun h => by cases h), (fun h => by cases h)⟩ ?_ ?_
  · rintro L a' w k o ho hk hdp hcl ⟨hS, h1, h2, h3, h4⟩
    have hdeps : ∀ j, waits ops k j = true → L j = true := fun j hj => dep_of_waits ho hdp hj
    have hklt : k < m + 1 := by have := (Array.getElem?_eq_some_iff.1 ho).1; omega
    have hmja : L m = true → L ja = true := fun h => hcl.of_waits ws h
    have hjajb : L ja = true → L jb = true := fun h => hcl.of_waits wa h
    by_cases kb : k = jb
    · subst kb
      have e := h1 hk
      subst e
      refine wp_val (bld o ho L a' hS hdeps) ?_
      rw [(hdst k o ho).1 (by omega)]
      have nja : L ja = false := by
        cases e : L ja with
        | false => rfl
        | true => rw [hjajb e] at hk; cases hk
      have nm : L m = false := by
        cases e : L m with
        | false => rfl
        | true => rw [hmja e] at nja; cases nja
      refine ⟨hS.put hin (by omega) (fun _ => rfl), (fun h => by rw [up_self] at h; cases h), fun _ _ => rfl, fun h => ?_, fun h => ?_⟩
      · rw [up_ne _ (by omega), nja] at h
        cases h
      · rw [up_ne _ (by omega), nm] at h
        cases h
    · by_cases ka : k = ja
      · subst ka
        have ljb : L jb = true := hdeps jb wa
        have e := h2 ljb hk
        subst e
        refine wp_val (app o ho L a' hS hdeps) ?_
        rw [(hdst k o ho).1 (by omega)]
        have nm : L m = false := by
          cases e : L m with
          | false => rfl
          | true => rw [hmja e] at hk; cases hk
        refine ⟨hS.put hin (by omega) (fun _ => rfl), fun h => ?_, fun _ h => ?_, fun _ _ => rfl, fun h => ?_⟩
        · rw [up_ne _ (by omega), ljb] at h
          cases h
        · rw [up_self] at h
          cases h
        · rw [up_ne _ (by omega), nm] at h
          cases h
      · by_cases km : k = m
        · subst km
          have lja : L ja = true := hdeps ja ws
          have e := h3 lja hk
          subst e
          refine wp_skip (sto o ho L a' hS hdeps) ?_
          rw [(hdst k o ho).2 (Nat.le_refl _)]
          refine ⟨hS.past (Nat.le_refl _) _, fun h => ?_, fun _ h => ?_, fun _ h => ?_, fun _ => rfl⟩
          · rw [up_ne _ (by omega), hjajb lja] at h
            cases h
          · rw [up_ne _ (by omega), lja] at h
            cases h
          · rw [up_self] at h
            cases h
        · refine pure k o ho (by omega) kb ka L a' w hS hdeps (fun hw => ?_) (fun hw => ?_) _ ?_
          · have nja : L ja = false := by
              cases e : L ja with
              | false => rfl
              | true => rw [hcl.of_waits hw e] at hk; cases hk
            cases e : L jb with
            | false => exact .inl (h1 e)
            | true => exact .inr (h2 e nja)
          · have njb : L jb = false := by
              cases e : L jb with
              | false => rfl
              | true => rw [hcl.of_waits hw e] at hk; cases hk
            exact h1 njb
          · rw [(hdst k o ho).1 (by omega)]
            refine ⟨hS.put hin (by omega) (fun _ => rfl), fun h => ?_, fun h h' => ?_, fun h h' => ?_, fun h => ?_⟩
            · rw [up_ne _ (Ne.symm kb)] at h
              exact h1 h
            · rw [up_ne _ (Ne.symm kb)] at h
              rw [up_ne _ (Ne.symm ka)] at h'
              exact h2 h h'
            · rw [up_ne _ (Ne.symm ka)] at h
              rw [up_ne _ (Ne.symm km)] at h'
              exact h3 h h'
            · rw [up_ne _ (Ne.symm km)] at h
              exact h4 h
  · rintro L a' w hal ⟨hS, -, -, -, h4⟩
    rw [h4 (hal m (by omega))]
    exact hK a' hS.sz hS.df hS.out

/-- What such a region turns. -/
structure AppR (x1 x2 : World) (bn x B l c : Nat) (e eN : TypeId) (v : Value) (A An : Array Value) : Prop where
  os : x2.os = x1.os
  tape : x2.tape = x1.tape
  output : x2.output = x1.output
  size : x2.heap.size = x1.heap.size + 1
  rowB : x2.heap[B]? = some (.cells (A.setIfInBounds l v) e (0, 0))
  rowN : x2.heap[bn]? = some (.cells (An.setIfInBounds x (.slice (some ⟨B, 0, none⟩) (l + 1) c)) eN (0, 0))
  other : ∀ b, b < x1.heap.size → b ≠ B → b ≠ bn → x2.heap[b]? = x1.heap[b]?

theorem AppR.of {x1 : World} {bn x B l c : Nat} {e eN : TypeId} {v : Value} {A An : Array Value} (ob : Obj) (hB : x1.heap[B]? = some (.cells A e (0, 0))) (hN : x1.heap[bn]? = some (.cells An eN (0, 0))) (hne : B ≠ bn) :
    AppR x1 (((x1.drew.alloc ob).setCell ⟨B, l, none⟩ v).setCell ⟨bn, x, none⟩ (.slice (some ⟨B, 0, none⟩) (l + 1) c)) bn x B l c e eN v A An where
  os := rfl
  tape := rfl
  output := rfl
  size := by simp
  rowB := by
    rw [heap_setCell_other _ _ _ _ hne]
    exact heap_setCell_same _ _ _ _ _ _ ((Below.heap_alloc x1.drew ob B (row_lt hB)).trans hB)
  rowN := by
    refine heap_setCell_same _ _ _ _ _ _ ?_
    rw [heap_setCell_other _ _ _ _ (Ne.symm hne)]
    exact (Below.heap_alloc x1.drew ob bn (row_lt hN)).trans hN
  other := fun b hb h1 h2 => by
    rw [heap_setCell_other _ _ _ _ h2, heap_setCell_other _ _ _ _ h1]
    exact Below.heap_alloc x1.drew ob b hb

theorem Try.cell23 : (Try.prog.info? 23).map (·.size) = some 1 := by kernel_rfl

set_option maxRecDepth 100000 in
theorem reg16_27 (x1 : World) (bn k kc x B l c m1 c1 i hb ho : Nat) (a1 : Option Addr) (z : Int) (A An : Array Value) (hB : x1.heap[B]? = some (.cells A 3 (0, 0))) (hN : x1.heap[bn]? = some (.cells An 22 (0, 0))) (hA : A.size = c) (hx : x < k) (hrow : An[x]? = some (.slice (some ⟨B, 0, none⟩) l c)) (hl : l < c)
    (hix : ∀ W, (Instr.indexAt 22 (.slice a1 m1 c1) (.int .i64 (i : Int))).run Try.prog W = .ok (.pointer (some ⟨hb, ho, none⟩)) W) (hval : x1.cell? ⟨hb, ho, none⟩ = some (.int .i64 z))
    (a : Act) (hsz : a.tmps.size = 131) (gN : G a 19 = .slice (some ⟨bn, 0, none⟩) k kc) (gx : G a 23 = .int .i64 (x : Int)) (gh : G a 1 = .slice a1 m1 c1) (gi : G a 22 = .int .i64 (i : Int)) (Q : Exit → Act → World → Prop)
    (hK : ∀ a' x2, a'.tmps.size = a.tmps.size → a'.defers = a.defers → (∀ s, s < 97 ∨ 110 ≤ s → G a' s = G a s) → AppR x1 x2 bn x B l c 3 22 (.int .i64 z) A An → Q .normal a' x2) : Code.wp Try.prog (regOf Try.f16 27) Q a x1 := by
  have hne : B ≠ bn := ne_of_obj hB hN (by simp)
  have hixN := run_ix 37 22 bn k kc x hx Try.underlying37 Try.cell22
  have kr : x1.cell? ⟨bn, x, none⟩ = some (.slice (some ⟨B, 0, none⟩) l c) := (cell_of_row x1 bn x _ _ _ hN).trans hrow
  obtain ⟨i0, hi0, hz0, hz1, hz2⟩ := info_parts Try.info3
  have kB : (x1.drew.alloc (.cells #[.int .i64 z] 3)).cell? ⟨B, l, none⟩ = A[l]? := cell_of_row _ B l _ _ _ ((Below.heap_alloc x1.drew _ B (row_lt hB)).trans hB)
  have fB : (x1.drew.alloc (.cells #[.int .i64 z] 3)).frozen? ⟨B, l, none⟩ = false := frozen_of_row _ B l _ _ ((Below.heap_alloc x1.drew _ B (row_lt hB)).trans hB)
  have happ : (Builtin.append_ #[22, 22] 22 #[.slice (some ⟨B, 0, none⟩) l c, .slice (some ⟨x1.heap.size, 0, none⟩) 1 1]).run Try.prog (x1.drew.alloc (.cells #[.int .i64 z] 3)) = .ok (.slice (some ⟨B, 0, none⟩) (l + 1) c) ((x1.drew.alloc (.cells #[.int .i64 z] 3)).setCell ⟨B, l, none⟩ (.int .i64 z)) := by
    have h := run_append_room_cells (P := Try.prog) (w := x1.drew.alloc (.cells #[.int .i64 z] 3)) 22 22 3 i0 Try.underlying22 hi0 B 0 l c ⟨x1.heap.size, 0, none⟩ 1 1 [.int .i64 z] (by rw [hz1]; rfl) (World.news_of_block (heap_alloc_new x1.drew _)) (by simp [Value.oneCell']) (by omega) (fun j hj => by
      have : j = 0 := by simpa using hj
      subst this
      rw [hz1, Nat.zero_add, Nat.mul_one, Nat.add_zero, kB]
      simp [hA, hl]) (fun j hj => by
      have : j = 0 := by simpa using hj
      subst this
      rw [hz1, Nat.zero_add, Nat.mul_one, Nat.add_zero]
      exact fB)
    rw [hz1, Nat.zero_add, Nat.mul_one] at h
    exact h
  have kr' : ((x1.drew.alloc (.cells #[.int .i64 z] 3)).setCell ⟨B, l, none⟩ (.int .i64 z)).cell? ⟨bn, x, none⟩ = some (.slice (some ⟨B, 0, none⟩) l c) := by
    rw [cell_of_row _ bn x An _ _ ((heap_setCell_other _ _ _ _ (Ne.symm hne)).trans ((Below.heap_alloc x1.drew _ bn (row_lt hN)).trans hN))]
    exact hrow
  have fr' : ((x1.drew.alloc (.cells #[.int .i64 z] 3)).setCell ⟨B, l, none⟩ (.int .i64 z)).frozen? ⟨bn, x, none⟩ = false := frozen_of_row _ bn x An _ ((heap_setCell_other _ _ _ _ (Ne.symm hne)).trans ((Below.heap_alloc x1.drew _ bn (row_lt hN)).trans hN))
  conv => arg 2; whnf
  refine region_room x1 ((x1.drew.alloc (.cells #[.int .i64 z] 3)).setCell ⟨B, l, none⟩ (.int .i64 z)) (((x1.drew.alloc (.cells #[.int .i64 z] 3)).setCell ⟨B, l, none⟩ (.int .i64 z)).setCell ⟨bn, x, none⟩ (.slice (some ⟨B, 0, none⟩) (l + 1) c)) (.cells #[.int .i64 z] 3) a 97 13 10 11 (fun j => [(.slice (some ⟨bn, 0, none⟩) k kc : Value), .int .i64 (x : Int), .slice (some ⟨bn, 0, none⟩) k kc, .int .i64 (x : Int), .pointer (some ⟨bn, x, none⟩), .slice (some ⟨B, 0, none⟩) l c, .slice a1 m1 c1, .int .i64 (i : Int), .pointer (some ⟨hb, ho, none⟩), .int .i64 z, .slice (some ⟨x1.heap.size, 0, none⟩) 1 1, .slice (some ⟨B, 0, none⟩) (l + 1) c, .pointer (some ⟨bn, x, none⟩)].getD j undef) (by omega) (by kernel_rfl) (by kernel_rfl) (by kernel_rfl) (by decide) (by decide) (by kernel_rfl) (by kernel_rfl) ?_ ?_ ?_ ?_ (fun a' h1 h2 h3 => hK a' _ h1 h2 h3 (AppR.of (.cells #[.int .i64 z] 3) hB hN hne))
  · intro j o ho' hj nb na L a' w hS hdep hpre hpre2 K hK
    have e : ∀ q, q < 13 → q ≠ 13 → waits _ j q = true → a'.eval (.tmp (97 + q)) = _ := fun q hq hn hw => hS.ins q hq hn (hdep q hw)
    have eo : ∀ s, (s < 97 ∨ 97 + 13 ≤ s) → a'.eval (.tmp s) = G a s := hS.out
    obtain rfl | rfl | rfl | rfl | rfl | rfl | rfl | rfl | rfl | rfl | rfl : j = 0 ∨ j = 1 ∨ j = 2 ∨ j = 3 ∨ j = 4 ∨ j = 5 ∨ j = 6 ∨ j = 7 ∨ j = 8 ∨ j = 9 ∨ j = 12 := by omega
    all_goals obtain rfl := Option.some.inj ho'
    · exact wp_val (ex_move (.tmp 19) rfl ((eo 19 (Or.inl (by decide))).trans gN)) hK
    · exact wp_val (ex_move (.tmp 23) rfl ((eo 23 (Or.inl (by decide))).trans gx)) hK
    · exact wp_val (ex_move (.tmp 19) rfl ((eo 19 (Or.inl (by decide))).trans gN)) hK
    · exact wp_val (ex_move (.tmp 23) rfl ((eo 23 (Or.inl (by decide))).trans gx)) hK
    · exact wp_val (ex_index 37 (.tmp 99) (.tmp 100) rfl (e 2 (by decide) (by decide) (by kernel_rfl)) (e 3 (by decide) (by decide) (by kernel_rfl)) (hixN w)) hK
    · refine wp_val (ex_load 22 (.tmp 101) rfl agg22 (e 4 (by decide) (by decide) (by kernel_rfl)) ?_) hK
      rcases hpre (by kernel_rfl) with h | h
      · rw [h]; exact kr
      · rw [h]; exact (World.cell?_of_block (w := x1.drew) (Below.heap_alloc x1.drew _ _ (row_lt hN))).trans kr
    · exact wp_val (ex_move (.tmp 1) rfl ((eo 1 (Or.inl (by decide))).trans gh)) hK
    · exact wp_val (ex_move (.tmp 22) rfl ((eo 22 (Or.inl (by decide))).trans gi)) hK
    · exact wp_val (ex_index 22 (.tmp 103) (.tmp 104) rfl (e 6 (by decide) (by decide) (by kernel_rfl)) (e 7 (by decide) (by decide) (by kernel_rfl)) (hix w)) hK
    · refine wp_val (ex_load 3 (.tmp 105) rfl agg3 (e 8 (by decide) (by decide) (by kernel_rfl)) ?_) hK
      rw [hpre2 (by kernel_rfl)]
      exact hval
    · exact wp_val (ex_index 37 (.tmp 97) (.tmp 98) rfl (e 0 (by decide) (by decide) (by kernel_rfl)) (e 1 (by decide) (by decide) (by kernel_rfl)) (hixN w)) hK
  · intro o ho' L a' hS hdep
    obtain rfl := Option.some.inj ho'
    exact ex_build22 (.tmp 106) rfl (hS.ins 9 (by decide) (by decide) (hdep 9 (by kernel_rfl)))
  · intro o ho' L a' hS hdep
    obtain rfl := Option.some.inj ho'
    exact ex_append (.tmp 102) (.tmp 107) 22 rfl (hS.ins 5 (by decide) (by decide) (hdep 5 (by kernel_rfl))) (hS.ins 10 (by decide) (by decide) (hdep 10 (by kernel_rfl))) happ
  · intro o ho' L a' hS hdep
    obtain rfl := Option.some.inj ho'
    exact ex_storeS 22 (.tmp 109) (.tmp 108) rfl Try.cell22 (hS.ins 12 (by decide) (by decide) (hdep 12 (by kernel_rfl))) (hS.ins 11 (by decide) (by decide) (hdep 11 (by kernel_rfl))) kr' fr'

set_option maxRecDepth 100000 in
theorem reg16_28 (x1 : World) (bn k kc x B l c m1 c1 i hb ho : Nat) (a1 : Option Addr) (z : Bool) (A An : Array Value) (hB : x1.heap[B]? = some (.cells A 4 (0, 0))) (hN : x1.heap[bn]? = some (.cells An 23 (0, 0))) (hA : A.size = c) (hx : x < k) (hrow : An[x]? = some (.slice (some ⟨B, 0, none⟩) l c)) (hl : l < c)
    (hix : ∀ W, (Instr.indexAt 23 (.slice a1 m1 c1) (.int .i64 (i : Int))).run Try.prog W = .ok (.pointer (some ⟨hb, ho, none⟩)) W) (hval : x1.cell? ⟨hb, ho, none⟩ = some (.bool z))
    (a : Act) (hsz : a.tmps.size = 131) (gN : G a 20 = .slice (some ⟨bn, 0, none⟩) k kc) (gx : G a 23 = .int .i64 (x : Int)) (gh : G a 2 = .slice a1 m1 c1) (gi : G a 22 = .int .i64 (i : Int)) (Q : Exit → Act → World → Prop)
    (hK : ∀ a' x2, a'.tmps.size = a.tmps.size → a'.defers = a.defers → (∀ s, s < 110 ∨ 123 ≤ s → G a' s = G a s) → AppR x1 x2 bn x B l c 4 23 (.bool z) A An → Q .normal a' x2) : Code.wp Try.prog (regOf Try.f16 28) Q a x1 := by
  have hne : B ≠ bn := ne_of_obj hB hN (by simp)
  have hixN := run_ix 54 23 bn k kc x hx Try.underlying54 Try.cell23
  have kr : x1.cell? ⟨bn, x, none⟩ = some (.slice (some ⟨B, 0, none⟩) l c) := (cell_of_row x1 bn x _ _ _ hN).trans hrow
  obtain ⟨i0, hi0, hz0, hz1, hz2⟩ := info_parts Try.info4
  have kB : (x1.drew.alloc (.cells #[.bool z] 4)).cell? ⟨B, l, none⟩ = A[l]? := cell_of_row _ B l _ _ _ ((Below.heap_alloc x1.drew _ B (row_lt hB)).trans hB)
  have fB : (x1.drew.alloc (.cells #[.bool z] 4)).frozen? ⟨B, l, none⟩ = false := frozen_of_row _ B l _ _ ((Below.heap_alloc x1.drew _ B (row_lt hB)).trans hB)
  have happ : (Builtin.append_ #[23, 23] 23 #[.slice (some ⟨B, 0, none⟩) l c, .slice (some ⟨x1.heap.size, 0, none⟩) 1 1]).run Try.prog (x1.drew.alloc (.cells #[.bool z] 4)) = .ok (.slice (some ⟨B, 0, none⟩) (l + 1) c) ((x1.drew.alloc (.cells #[.bool z] 4)).setCell ⟨B, l, none⟩ (.bool z)) := by
    have h := run_append_room_cells (P := Try.prog) (w := x1.drew.alloc (.cells #[.bool z] 4)) 23 23 4 i0 Try.underlying23 hi0 B 0 l c ⟨x1.heap.size, 0, none⟩ 1 1 [.bool z] (by rw [hz1]; rfl) (World.news_of_block (heap_alloc_new x1.drew _)) (by simp [Value.oneCell']) (by omega) (fun j hj => by
      have : j = 0 := by simpa using hj
      subst this
      rw [hz1, Nat.zero_add, Nat.mul_one, Nat.add_zero, kB]
      simp [hA, hl]) (fun j hj => by
      have : j = 0 := by simpa using hj
      subst this
      rw [hz1, Nat.zero_add, Nat.mul_one, Nat.add_zero]
      exact fB)
    rw [hz1, Nat.zero_add, Nat.mul_one] at h
    exact h
  have kr' : ((x1.drew.alloc (.cells #[.bool z] 4)).setCell ⟨B, l, none⟩ (.bool z)).cell? ⟨bn, x, none⟩ = some (.slice (some ⟨B, 0, none⟩) l c) := by
    rw [cell_of_row _ bn x An _ _ ((heap_setCell_other _ _ _ _ (Ne.symm hne)).trans ((Below.heap_alloc x1.drew _ bn (row_lt hN)).trans hN))]
    exact hrow
  have fr' : ((x1.drew.alloc (.cells #[.bool z] 4)).setCell ⟨B, l, none⟩ (.bool z)).frozen? ⟨bn, x, none⟩ = false := frozen_of_row _ bn x An _ ((heap_setCell_other _ _ _ _ (Ne.symm hne)).trans ((Below.heap_alloc x1.drew _ bn (row_lt hN)).trans hN))
  conv => arg 2; whnf
  refine region_room x1 ((x1.drew.alloc (.cells #[.bool z] 4)).setCell ⟨B, l, none⟩ (.bool z)) (((x1.drew.alloc (.cells #[.bool z] 4)).setCell ⟨B, l, none⟩ (.bool z)).setCell ⟨bn, x, none⟩ (.slice (some ⟨B, 0, none⟩) (l + 1) c)) (.cells #[.bool z] 4) a 110 13 10 11 (fun j => [(.slice (some ⟨bn, 0, none⟩) k kc : Value), .int .i64 (x : Int), .slice (some ⟨bn, 0, none⟩) k kc, .int .i64 (x : Int), .pointer (some ⟨bn, x, none⟩), .slice (some ⟨B, 0, none⟩) l c, .slice a1 m1 c1, .int .i64 (i : Int), .pointer (some ⟨hb, ho, none⟩), .bool z, .slice (some ⟨x1.heap.size, 0, none⟩) 1 1, .slice (some ⟨B, 0, none⟩) (l + 1) c, .pointer (some ⟨bn, x, none⟩)].getD j undef) (by omega) (by kernel_rfl) (by kernel_rfl) (by kernel_rfl) (by decide) (by decide) (by kernel_rfl) (by kernel_rfl) ?_ ?_ ?_ ?_ (fun a' h1 h2 h3 => hK a' _ h1 h2 h3 (AppR.of (.cells #[.bool z] 4) hB hN hne))
  · intro j o ho' hj nb na L a' w hS hdep hpre hpre2 K hK
    have e : ∀ q, q < 13 → q ≠ 13 → waits _ j q = true → a'.eval (.tmp (110 + q)) = _ := fun q hq hn hw => hS.ins q hq hn (hdep q hw)
    have eo : ∀ s, (s < 110 ∨ 110 + 13 ≤ s) → a'.eval (.tmp s) = G a s := hS.out
    obtain rfl | rfl | rfl | rfl | rfl | rfl | rfl | rfl | rfl | rfl | rfl : j = 0 ∨ j = 1 ∨ j = 2 ∨ j = 3 ∨ j = 4 ∨ j = 5 ∨ j = 6 ∨ j = 7 ∨ j = 8 ∨ j = 9 ∨ j = 12 := by omega
    all_goals obtain rfl := Option.some.inj ho'
    · exact wp_val (ex_move (.tmp 20) rfl ((eo 20 (Or.inl (by decide))).trans gN)) hK
    · exact wp_val (ex_move (.tmp 23) rfl ((eo 23 (Or.inl (by decide))).trans gx)) hK
    · exact wp_val (ex_move (.tmp 20) rfl ((eo 20 (Or.inl (by decide))).trans gN)) hK
    · exact wp_val (ex_move (.tmp 23) rfl ((eo 23 (Or.inl (by decide))).trans gx)) hK
    · exact wp_val (ex_index 54 (.tmp 112) (.tmp 113) rfl (e 2 (by decide) (by decide) (by kernel_rfl)) (e 3 (by decide) (by decide) (by kernel_rfl)) (hixN w)) hK
    · refine wp_val (ex_load 23 (.tmp 114) rfl agg23 (e 4 (by decide) (by decide) (by kernel_rfl)) ?_) hK
      rcases hpre (by kernel_rfl) with h | h
      · rw [h]; exact kr
      · rw [h]; exact (World.cell?_of_block (w := x1.drew) (Below.heap_alloc x1.drew _ _ (row_lt hN))).trans kr
    · exact wp_val (ex_move (.tmp 2) rfl ((eo 2 (Or.inl (by decide))).trans gh)) hK
    · exact wp_val (ex_move (.tmp 22) rfl ((eo 22 (Or.inl (by decide))).trans gi)) hK
    · exact wp_val (ex_index 23 (.tmp 116) (.tmp 117) rfl (e 6 (by decide) (by decide) (by kernel_rfl)) (e 7 (by decide) (by decide) (by kernel_rfl)) (hix w)) hK
    · refine wp_val (ex_load 4 (.tmp 118) rfl agg4 (e 8 (by decide) (by decide) (by kernel_rfl)) ?_) hK
      rw [hpre2 (by kernel_rfl)]
      exact hval
    · exact wp_val (ex_index 54 (.tmp 110) (.tmp 111) rfl (e 0 (by decide) (by decide) (by kernel_rfl)) (e 1 (by decide) (by decide) (by kernel_rfl)) (hixN w)) hK
  · intro o ho' L a' hS hdep
    obtain rfl := Option.some.inj ho'
    exact ex_build23 (.tmp 119) rfl (hS.ins 9 (by decide) (by decide) (hdep 9 (by kernel_rfl)))
  · intro o ho' L a' hS hdep
    obtain rfl := Option.some.inj ho'
    exact ex_append (.tmp 115) (.tmp 120) 23 rfl (hS.ins 5 (by decide) (by decide) (hdep 5 (by kernel_rfl))) (hS.ins 10 (by decide) (by decide) (hdep 10 (by kernel_rfl))) happ
  · intro o ho' L a' hS hdep
    obtain rfl := Option.some.inj ho'
    exact ex_storeS 23 (.tmp 122) (.tmp 121) rfl Try.cell23 (hS.ins 12 (by decide) (by decide) (hdep 12 (by kernel_rfl))) (hS.ins 11 (by decide) (by decide) (hdep 11 (by kernel_rfl))) kr' fr'

end Go.Proofs.Qxb6001364a
