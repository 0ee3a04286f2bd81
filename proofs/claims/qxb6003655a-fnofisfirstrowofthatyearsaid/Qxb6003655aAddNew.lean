import Derived.Test.Qxb6003655aAdd
namespace Go.Proofs.Qxb6003655a
open Go.ChangeShapes Go.WideShapes Go.ChangeAt Go.RowKit Go.Maps
attribute [local go_sem ↓] Go.wp_at_zero Go.wp_at_succ

/-- 'make([]mark, 0, 4096)'. -/
theorem make_chunk : ∃ M : Array Value, M.size = 16384 ∧ ∀ W : World, (Instr.makeSlice 52 (.int .i64 0) (.int .i64 4096)).run Try.prog W = .ok (.slice (some ⟨W.heap.size, 0, none⟩) 0 4096) (W.alloc (.cells M 48)) := by
  obtain ⟨i0, hi0, hz0, hz1, hz2⟩ := info_parts Try.info48
  refine ⟨madeCells (Value.agg #[.int .i32 0, .int .i16 0, .int .i32 0, .int .i32 0]).cells ((4096 : Int).toNat * i0.size), by rw [size_madeCells, hz1]; rfl, fun W => ?_⟩
  have h := run_make (P := Try.prog) W 52 48 i0 _ Try.underlying52 hi0 hz0 .i64 .i64 0 4096 (by omega) (by omega) (by rw [hz2]; decide) (by omega)
  simpa using h

/-- What opening a new chunk does to memory. -/
structure Opened (w W : World) (base bg mb cap g L : Nat) (mv : Value) (xs : List Value) (A cur : Array Value) : Prop where
  os : W.os = w.os
  tape : W.tape = w.tape
  output : W.output = w.output
  size : w.heap.size ≤ W.heap.size
  bgr : W.heap[bg]? = some (.cells (A.setIfInBounds 1 (.slice (some ⟨mb, 0, none⟩) (L + 1) cap)) 44 (0, 0))
  own : W.ownsRow base 52 1 (.slice (some ⟨mb, 0, none⟩) (L + 1) cap) (L + 1) (xs ++ [.slice (some ⟨g, 0, none⟩) 0 4096])
  gr : W.heap[g]? = some (.cells cur 48 (0, 0))
  gsz : cur.size = 16384
  gnew : w.heap.size ≤ g
  other : ∀ k, k < w.heap.size → k ≠ bg → some k ≠ mv.ownBlock → W.heap[k]? = w.heap[k]?

theorem look2_new (W : World) (o o' : Obj) : ((W.alloc o).alloc o').drew.heap[W.heap.size + 1]? = some o' := by
  show ((W.alloc o).alloc o').heap[W.heap.size + 1]? = _
  have := heap_alloc_new (W.alloc o) o'
  simpa using this
theorem look2_old (W : World) (o o' : Obj) (k : Nat) (h : k < W.heap.size) : ((W.alloc o).alloc o').drew.heap[k]? = W.heap[k]? := by
  show ((W.alloc o).alloc o').heap[k]? = _
  rw [Below.heap_alloc _ _ _ (by simp; omega), Below.heap_alloc _ _ _ h]
theorem look2_mid (W : World) (o o' : Obj) : ((W.alloc o).alloc o').drew.heap[W.heap.size]? = some o := by
  show ((W.alloc o).alloc o').heap[W.heap.size]? = _
  rw [Below.heap_alloc _ _ _ (by simp)]
  exact heap_alloc_new W o
theorem size2 (W : World) (o o' : Obj) : ((W.alloc o).alloc o').drew.heap.size = W.heap.size + 2 := by
  show ((W.alloc o).alloc o').heap.size = _
  simp

theorem opened_of {w W w1 : World} {o o2 : Obj} {base bg mb cap L cap0 : Nat} {ao : Option Addr} {xs : List Value} {A M : Array Value} (hW : w.alloc o = W) (hMs : M.size = 16384)
    (hown : W.ownsRow base 52 1 (.slice ao L cap0) L xs) (lbg : bg < w.heap.size)
    (hown1 : w1.ownsRow base 52 1 (.slice (some ⟨mb, 0, none⟩) (L + 1) cap) (L + 1) (xs ++ [.slice (some ⟨W.heap.size, 0, none⟩) 0 4096]))
    (hgrow : ((W.alloc (.cells M 48)).alloc o2).drew.grownBy w1 (Value.slice ao L cap0).ownBlock) (he : w1.heap[bg]? = some (.cells A 44 (0, 0))) (hbx : o = .cells #[] 0 (0, 0) ∨ ∃ X, o = .cells X 48 (0, 0)) :
    Opened w (w1.setCell ⟨bg, 1, none⟩ (.slice (some ⟨mb, 0, none⟩) (L + 1) cap)) base bg mb cap W.heap.size L (.slice ao L cap0) xs A M ∧
      (w1.setCell ⟨bg, 1, none⟩ (.slice (some ⟨mb, 0, none⟩) (L + 1) cap)).heap[w.heap.size]? = some o := by
  have hs0 : W.heap.size = w.heap.size + 1 := by rw [← hW]; simp
  have hs1 := hgrow.size
  rw [size2] at hs1
  have hlt : ∀ k, (Value.slice ao L cap0).ownBlock = some k → k < W.heap.size := fun k hk => (hown.lt k hk).2
  have hwn : W.heap[w.heap.size]? = some o := by rw [← hW]; exact heap_alloc_new w o
  have hne0 : some w.heap.size ≠ (Value.slice ao L cap0).ownBlock := by
    intro e
    obtain ⟨cur, hc⟩ := owns_block hown e.symm
    rw [hwn] at hc
    rcases hbx with h | ⟨X, h⟩ <;> rw [h] at hc <;> simp at hc
  refine ⟨⟨?_, ?_, ?_, ?_, ?_, ?_, ?_, hMs, by omega, ?_⟩, ?_⟩
  · show w1.os = _
    rw [hgrow.os, ← hW]; exact rfl
  · show w1.tape = _
    rw [hgrow.tape, ← hW]; exact rfl
  · show w1.output = _
    rw [hgrow.output, ← hW]; exact rfl
  · simp [World.setCell]; omega
  · exact heap_setCell_same _ _ _ _ _ _ he
  · refine owns_same hown1 fun k hk => ?_
    obtain ⟨cur, hc⟩ := owns_block hown1 hk
    exact heap_setCell_other _ _ _ _ (ne_of_obj hc he (by simp))
  · rw [heap_setCell_other _ _ _ _ (by show W.heap.size ≠ bg; omega), hgrow.block _ (by rw [size2]; omega) (fun e => by have := hlt _ e.symm; omega), look2_mid]
  · intro k hk h1 h2
    rw [heap_setCell_other _ _ _ _ h1, hgrow.block k (by rw [size2]; omega) h2, look2_old _ _ _ _ (by omega), ← hW]
    exact Below.heap_alloc w o k hk
  · rw [heap_setCell_other _ _ _ _ (by show w.heap.size ≠ bg; omega), hgrow.block _ (by rw [size2]; omega) hne0, look2_old _ _ _ _ (by omega)]
    exact hwn

theorem Added.drawn {V U w' : World} {q : Nat} {bg mb g L r n : Nat} {m : Mk} {A curM cur : Array Value} (h : Added U w' bg mb g L r n m A curM cur) (hU : V.drewN q = U) : Added V w' bg mb g L r n m A curM cur := by
  have e1 : U.heap = V.heap := by rw [← hU]; rfl
  refine ⟨by rw [h.os, ← hU]; rfl, by rw [h.tape, ← hU]; rfl, by rw [h.output, ← hU]; rfl, by rw [← e1]; exact h.size, h.bgr, h.mbr, h.gr, fun k hk h1 h2 h3 => ?_⟩
  rw [h.other k (by rw [e1]; exact hk) h1 h2 h3, e1]

/-- The last cell of an owned row. -/
theorem owns_last {w : World} {base : Nat} {e : TypeId} {g n cap : Nat} {xs : List Value} {v : Value} {cur : Array Value} (h : w.ownsRow base e 1 (.slice (some ⟨g, 0, none⟩) (n + 1) cap) (n + 1) (xs ++ [v])) (hc : w.heap[g]? = some (.cells cur e (0, 0))) : cur[n]? = some v := by
  have hl := h.1
  simp at hl
  have := h.cells (g := g) rfl n v (by rw [List.getElem?_append_right (by omega), hl]; simp)
  have hadd : (⟨g, 0, none⟩ : Addr).add n = ⟨g, n, none⟩ := by unfold Addr.add; split <;> simp_all
  rw [hadd, cell_of_row w _ _ _ _ _ hc] at this
  exact this

set_option maxRecDepth 100000 in
set_option maxHeartbeats 4000000 in
theorem add_new (w : World) (base bg L : Nat) (n : Nat) (m : Mk) (A : Array Value) (mv : Value) (xs : List Value)
    (hb : w.heap[bg]? = some (.cells A 44 (0, 0))) (hA1 : A[1]? = some mv) (hA2 : A[2]? = some (.int .i32 n))
    (hmv : w.ownsRow base 52 1 mv L xs) (hLb : L ≤ 65536) (hn : n < 65536) (hbase : base ≤ w.heap.size) (hmod : ((n : Int) % 4096 == 0) = true) :
    Calls Try.prog 15 #[.pointer (some ⟨bg, 0, none⟩), .agg #[.int .i32 m.line, .int .i16 m.year, .int .i32 m.text, .int .i32 m.next]] w fun e w' => e = .returned (.tuple #[]) ∧
      ∃ W mb cap g cur curM, Opened w W base bg mb cap g L mv xs A cur ∧ W.heap[mb]? = some (.cells curM 52 (0, 0)) ∧ Added W w' bg mb g (L + 1) 0 n m (A.setIfInBounds 1 (.slice (some ⟨mb, 0, none⟩) (L + 1) cap)) curM cur := by
  obtain ⟨M, hMs, hmk⟩ := make_chunk
  obtain ⟨i0, hi0, hz0, hz1, hz2⟩ := info_parts Try.info52
  obtain ⟨ao, cap0, hmv'⟩ : ∃ ao cap, mv = .slice ao L cap := by
    rcases hmv.2 with ⟨rfl, h0⟩ | ⟨g, cap, _, rfl, _⟩
    · exact ⟨none, 0, by rw [h0]⟩
    · exact ⟨_, _, rfl⟩
  subst hmv'
  have c1 : w.cell? ⟨bg, 1, none⟩ = some (.slice ao L cap0) := by rw [cell_of_row w _ _ _ _ _ hb]; exact hA1
  have c2 : w.cell? ⟨bg, 2, none⟩ = some (.int .i32 n) := by rw [cell_of_row w _ _ _ _ _ hb]; exact hA2
  have lbg := row_lt hb
  have f1 := frozen_of_row w bg 1 A 44 hb
  have H1 : Hid (w.heap[bg]? = _) := hb
  have HA1 : Hid _ := hA1
  have HA2 : Hid _ := hA2
  clear hb hA1 hA2
  go_enter Try.func15, Try.ntmps15
  go_wp2
  generalize hW : w.alloc (.cells #[.int .i32 m.line, .int .i16 m.year, .int .i32 m.text, .int .i32 m.next] 48) = W
  have hWh : Hid (W.heap = (w.alloc (.cells #[.int .i32 m.line, .int .i16 m.year, .int .i32 m.text, .int .i32 m.next] 48)).heap) := by rw [← hW]; exact rfl
  have HW : Hid _ := hW
  have hWs : W.heap.size = w.heap.size + 1 := by rw [hWh.out]; simp
  have hWb : W.heap[bg]? = some (.cells A 44 (0, 0)) := by rw [hWh.out, Below.heap_alloc _ _ _ lbg]; exact H1.out
  have hB : W.heap[w.heap.size]? = some (.cells #[.int .i32 m.line, .int .i16 m.year, .int .i32 m.text, .int .i32 m.next] 48 (0, 0)) := by rw [hWh.out]; exact heap_alloc_new w _
  have hown : W.ownsRow base 52 1 (.slice ao L cap0) L xs := by rw [← hW]; exact hmv.alloc _
  have d1 : W.cell? ⟨bg, 1, none⟩ = some (.slice ao L cap0) := by rw [cell_of_row W _ _ _ _ _ hWb]; exact HA1.out
  have nb : some bg ≠ (Value.slice ao L cap0).ownBlock := ne_owned hown hWb (by decide)
  have lbW : bg < W.heap.size := by omega
  have GB : Hid (W.heap[w.heap.size]? = _) := hB
  have Gb : Hid (W.heap[bg]? = _) := hWb
  have Gs : Hid (W.heap.size = w.heap.size + 1) := hWs
  have hsz : base ≤ W.heap.size := by omega
  clear hB hWb hWs hW c1 c2 f1
  go_region_law
    ((refine step_append_lies _ (by rfl) _ _ _ (by rfl) base 52 i0 _ 1 24 Try.underlying42 hi0 hz0 hz1 hz2 rfl (by omega) (.slice ao L cap0) L xs (by rfl) (((hown.alloc _).alloc _).drew) ⟨W.heap.size + 1, 0, none⟩ 1 1 [.slice (some ⟨W.heap.size, 0, none⟩) 0 4096] (by rfl) (by rfl) (World.news_of_block (cs := #[.slice (some ⟨W.heap.size, 0, none⟩) 0 4096]) (t := 52) (fr := (0, 0)) (look2_new W _ _)) (by simp [Value.oneCell']) (by omega) (by unfold maxLen; omega) (by omega) (by rw [size2]; omega) (W.heap.size + 2) (size2 _ _ _) ?_; intro mb cap w1 hown1 hgrow hat hlt; have e1 : w1.heap[bg]? = some (.cells A 44 (0, 0)) := (by rw [hgrow.block bg (by rw [size2]; omega) nb, look2_old _ _ _ _ lbW]; exact Gb.out); have k1 : w1.cell? ⟨bg, 1, none⟩ = some (.slice ao L cap0) := (by rw [cell_of_row w1 _ _ _ _ _ e1]; exact HA1.out); have k2 : w1.frozen? ⟨bg, 1, none⟩ = false := frozen_of_row w1 _ _ _ _ e1; have E1 : Hid (w1.heap[bg]? = _) := e1; clear e1))
  all_goals go_wp2
  all_goals
    have O := opened_of HW.out hMs hown lbg hown1 hgrow E1.out (.inr ⟨_, rfl⟩)
    generalize hW2 : w1.setCell ⟨bg, 1, none⟩ (.slice (some ⟨mb, 0, none⟩) (L + 1) cap) = V at O ⊢
    have HV : Hid _ := O
    clear hW2 O k1 k2 hown1 hgrow hat hlt d1 nb hmk hown hmv E1
    obtain ⟨g, hg0⟩ : ∃ g, g = W.heap.size := ⟨_, rfl⟩
    rw [← hg0] at HV
    clear hg0
    have lwV : w.heap.size < V.heap.size := row_lt HV.out.2
    have lbV := row_lt HV.out.1.bgr
    have lgV := row_lt HV.out.1.gr
    obtain ⟨curM, hcm⟩ := owns_block HV.out.1.own rfl
    have hVm : Hid (V.heap[mb]? = _) := hcm
    have lmV := row_lt hcm
    clear hcm
    have d1 : V.cell? ⟨bg, 1, none⟩ = some (.slice (some ⟨mb, 0, none⟩) (L + 1) cap) := by
      rw [cell_of_row V _ _ _ _ _ HV.out.1.bgr]
      have : (A[1]?).isSome := by rw [HA1.out]; rfl
      simp at this
      simp [this]
    have hL1 : ((L + 1 : Nat) : Int) - 1 < ((L + 1 : Nat) : Int) := by omega
    go_quiet (fail)
    go_wp2
    generalize hU : V.drewN nq = U
    have hUh : U.heap = V.heap := by rw [← hU]; exact rfl
    have hUb : U.heap[bg]? = _ := (congrArg (fun h : Array Obj => h[bg]?) hUh).trans HV.out.1.bgr
    have hUm : U.heap[mb]? = _ := (congrArg (fun h : Array Obj => h[mb]?) hUh).trans hVm.out
    have hUg : U.heap[g]? = _ := (congrArg (fun h : Array Obj => h[g]?) hUh).trans HV.out.1.gr
    have hUB : U.heap[w.heap.size]? = _ := (congrArg (fun h : Array Obj => h[w.heap.size]?) hUh).trans HV.out.2
    have hUs : U.heap.size = V.heap.size := congrArg (fun h : Array Obj => h.size) hUh
    have k0 : U.cell? ⟨w.heap.size, 0, none⟩ = some (.int .i32 m.line) := by rw [cell_of_row U _ _ _ _ _ hUB]; rfl
    have k1 : U.cell? ⟨w.heap.size, 1, none⟩ = some (.int .i16 m.year) := by rw [cell_of_row U _ _ _ _ _ hUB]; rfl
    have k2 : U.cell? ⟨w.heap.size, 2, none⟩ = some (.int .i32 m.text) := by rw [cell_of_row U _ _ _ _ _ hUB]; rfl
    have k3 : U.cell? ⟨w.heap.size, 3, none⟩ = some (.int .i32 m.next) := by rw [cell_of_row U _ _ _ _ _ hUB]; rfl
    have km : U.cell? ⟨mb, L, none⟩ = some (.slice (some ⟨g, 0, none⟩) 0 4096) := by rw [cell_of_row U _ _ _ _ _ hUm]; exact owns_last HV.out.1.own hVm.out
    have kf : U.frozen? ⟨mb, L, none⟩ = false := frozen_of_row U _ _ _ _ hUm
    have kb : U.cell? ⟨bg, 2, none⟩ = some (.int .i32 n) := by
      rw [cell_of_row U _ _ _ _ _ hUb, Array.getElem?_setIfInBounds_ne (by omega)]
      exact HA2.out
    have kfb : U.frozen? ⟨bg, 2, none⟩ = false := frozen_of_row U _ _ _ _ hUb
    have nbg : bg ≠ g := ne_of_obj hUb hUg (by simp)
    have nbm : bg ≠ mb := ne_of_obj hUb hUm (by simp)
    have nmg : mb ≠ g := ne_of_obj hUm hUg (by simp)
    have lbU : bg < U.heap.size := by omega
    have lmU : mb < U.heap.size := by omega
    have lgU : g < U.heap.size := by omega
    have GUb : Hid (U.heap[bg]? = _) := hUb
    have GUm : Hid (U.heap[mb]? = _) := hUm
    have GUg : Hid (U.heap[g]? = _) := hUg
    have GU : Hid _ := hU
    clear hUb hUm hUg hUB hUs hUh hU d1 hL1
    go_region_law
      ((refine step_chunk (by rfl) _ _ (by rfl) g 0 U.heap.size M m (by rfl) (by rfl) ((look_old U _ g lgU).trans GUg.out) hMs (look_new U _) (by omega) ?_; intro w2 hg2 hgrow2; have f1 : w2.frozen? ⟨mb, L, none⟩ = false := (by rw [hgrow2.frozen_far _ (by simp; omega) (by simp; omega)]; rw [frozen_old _ _ _ lmU]; exact kf); have g1 : w2.cell? ⟨mb, L, none⟩ = some (.slice (some ⟨g, 0, none⟩) 0 4096) := (by rw [hgrow2.cell_far _ (by simp; omega) (by simp; omega)]; rw [cell_old _ _ _ lmU]; exact km); have f2 : w2.frozen? ⟨bg, 2, none⟩ = false := (by rw [hgrow2.frozen_far _ (by simp; omega) (by simp; omega)]; rw [frozen_old _ _ _ lbU]; exact kfb); have g2 : w2.cell? ⟨bg, 2, none⟩ = some (.int .i32 n) := (by rw [hgrow2.cell_far _ (by simp; omega) (by simp; omega)]; rw [cell_old _ _ _ lbU]; exact kb)))
    all_goals go_wp2
    all_goals
      go_end0
      refine ⟨rfl, V, mb, cap, g, M, curM, HV.out.1, hVm.out, ?_⟩
      have R := added_of (L := L + 1) (n := n) GUb.out GUm.out GUg.out hg2 hgrow2
      exact R.drawn GU.out
end Go.Proofs.Qxb6003655a
