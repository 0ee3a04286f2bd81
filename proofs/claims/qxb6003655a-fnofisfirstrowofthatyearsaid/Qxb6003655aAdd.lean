import Derived.Test.Qxb6003655aIntern
import Derived.Deep.RegionHeld3
import Derived.Deep.DrawnRows
import Derived.Deep.QuietTactic
import Derived.BigQuiet
import Derived.Deep.RegionLaw
import Derived.Deep.DeepAppendRoom
namespace Go.Proofs.Qxb6003655a
open Go.ChangeShapes Go.WideShapes Go.ChangeAt Go.RowKit Go.Maps
attribute [local go_sem ↓] Go.wp_at_zero Go.wp_at_succ

theorem Try.info48 : (Try.prog.info? 48).map (fun i => (i.zero, i.size, i.bytes)) = some (some (.agg #[.int .i32 0, .int .i16 0, .int .i32 0, .int .i32 0]), 4, 16) := by kernel_rfl

/-- A mark's four cells. -/
def Mk.vals (m : Mk) : List Value := [.int .i32 m.line, .int .i16 m.year, .int .i32 m.text, .int .i32 m.next]

/-- A chunk with the mark m laid at place r. -/
def putMk (cur : Array Value) (r : Nat) (m : Mk) : Array Value := (cur.toList.take (r * 4) ++ m.vals ++ cur.toList.drop (r * 4 + 4)).toArray

/-- 'append' onto a chunk that has room, as a step of a region that draws its order. -/
theorem step_chunk {ops : Array Oper} {o : Oper} {a : Act} {w : World} {K : Act → World → Prop} {Q : Exit → Act → World → Prop} {E : Prop} (hgd : o.guard = none) (s x : Operand)
    (ho : o.op = .call { callee := .builtin .append, args := #[s, x], argTypes := #[52, 52] }) (g r Hn : Nat) (cur : Array Value) (m : Mk)
    (hs : a.eval s = .slice (some ⟨g, 0, none⟩) r 4096) (hx : a.eval x = .slice (some ⟨Hn, 0, none⟩) 1 1) (hg : w.heap[g]? = some (.cells cur 48 (0, 0))) (hsz : cur.size = 16384)
    (hH : w.heap[Hn]? = some (.cells #[.int .i32 m.line, .int .i16 m.year, .int .i32 m.text, .int .i32 m.next] 48 (0, 0))) (hr : r < 4096)
    (hK : ∀ w', w'.heap[g]? = some (.cells (putMk cur r m) 48 (0, 0)) → w.grownBy w' (some g) → K (a.put o.dst (.slice (some ⟨g, 0, none⟩) (r + 1) 4096)) w') :
    if Region.wanted o (yielded ops a.tmps) = true then Oper.wp Try.prog o a w K Q else E := by
  have hw : Region.wanted o (yielded ops a.tmps) = true := by simp [Region.wanted, hgd]
  rw [if_pos hw]
  obtain ⟨i0, hi0, hz0, hz1, hz2⟩ := info_parts Try.info48
  have hrun := run_append_room (P := Try.prog) w 52 o.type 48 i0 Try.underlying52 hi0 g r 4096 cur hg ⟨Hn, 0, none⟩ 1 1 m.vals (by rw [hz1]; rfl) (World.news_of_block hH) (by simp [Mk.vals, Value.oneCell']) (by omega) (by rw [hz1, hsz]; simp [Mk.vals]; omega)
  unfold Oper.wp execOp
  simp only [ho, resolve, invoke, builtin, Sem.run_bind, Sem.run_pure, Result.andThen_ok, List.map_toArray, List.map_cons, List.map_nil, hs, hx, hrun]
  refine hK _ ?_ ⟨rfl, rfl, rfl, by simp, fun k hk hne => setRow_other _ _ _ _ (by simpa using hne)⟩
  rw [setRow_heap _ _ _ _ _ _ hg, hz1]
  rfl

theorem look_old (W : World) (o : Obj) (k : Nat) (h : k < W.heap.size) : (W.alloc o).drew.heap[k]? = W.heap[k]? := Below.heap_alloc W o k h
theorem look_new (W : World) (o : Obj) : (W.alloc o).drew.heap[W.heap.size]? = some o := heap_alloc_new W o
theorem cell_old (W : World) (o : Obj) (a : Addr) (h : a.block < W.heap.size) : (W.alloc o).drew.cell? a = W.cell? a := World.cell?_of_block (Below.heap_alloc W o a.block h)
theorem frozen_old (W : World) (o : Obj) (a : Addr) (h : a.block < W.heap.size) : (W.alloc o).drew.frozen? a = W.frozen? a := World.frozen?_of_block (Below.heap_alloc W o a.block h)

/-- What laying a mark into a chunk that has room does to memory. -/
structure Added (w w' : World) (bg mb g L r n : Nat) (m : Mk) (A curM cur : Array Value) : Prop where
  os : w'.os = w.os
  tape : w'.tape = w.tape
  output : w'.output = w.output
  size : w.heap.size ≤ w'.heap.size
  bgr : w'.heap[bg]? = some (.cells (A.setIfInBounds 2 (.int .i32 ((n : Int) + 1))) 44 (0, 0))
  mbr : w'.heap[mb]? = some (.cells (curM.setIfInBounds (L - 1) (.slice (some ⟨g, 0, none⟩) (r + 1) 4096)) 52 (0, 0))
  gr : w'.heap[g]? = some (.cells (putMk cur r m) 48 (0, 0))
  other : ∀ k, k < w.heap.size → k ≠ bg → k ≠ mb → k ≠ g → w'.heap[k]? = w.heap[k]?

theorem added_of {W w1 : World} {o : Obj} {bg mb g L r n : Nat} {m : Mk} {A curM cur : Array Value} (hb : W.heap[bg]? = some (.cells A 44 (0, 0))) (hm : W.heap[mb]? = some (.cells curM 52 (0, 0))) (hg : W.heap[g]? = some (.cells cur 48 (0, 0)))
    (hg1 : w1.heap[g]? = some (.cells (putMk cur r m) 48 (0, 0))) (hgrow : (W.alloc o).drew.grownBy w1 (some g)) :
    Added W ((w1.setCell ⟨mb, L - 1, none⟩ (.slice (some ⟨g, 0, none⟩) (r + 1) 4096)).setCell ⟨bg, 2, none⟩ (.int .i32 ((n : Int) + 1))) bg mb g L r n m A curM cur := by
  have nbm : bg ≠ mb := ne_of_obj hb hm (by simp)
  have nbg : bg ≠ g := ne_of_obj hb hg (by simp)
  have nmg : mb ≠ g := ne_of_obj hm hg (by simp)
  have ho : ∀ k, k < W.heap.size → k ≠ g → w1.heap[k]? = W.heap[k]? := fun k hk hn => by
    rw [hgrow.block k (by show k < (W.alloc o).heap.size; simp; omega) (by simpa using hn)]; exact Below.heap_alloc W o k hk
  have hs : W.heap.size ≤ w1.heap.size := by have h1 := hgrow.size; have : (W.alloc o).drew.heap.size = W.heap.size + 1 := by show (W.alloc o).heap.size = _; simp
                                             omega
  have h1b : w1.heap[bg]? = some (.cells A 44 (0, 0)) := (ho bg (row_lt hb) nbg).trans hb
  have h1m : w1.heap[mb]? = some (.cells curM 52 (0, 0)) := (ho mb (row_lt hm) nmg).trans hm
  refine ⟨hgrow.os, hgrow.tape, hgrow.output, by simpa [World.setCell] using hs, ?_, ?_, ?_, ?_⟩
  · exact heap_setCell_same _ _ _ _ _ _ (by rw [heap_setCell_other _ _ _ _ nbm]; exact h1b)
  · rw [heap_setCell_other _ _ _ _ (Ne.symm nbm)]
    exact heap_setCell_same _ _ _ _ _ _ h1m
  · rw [heap_setCell_other _ _ _ _ (Ne.symm nbg), heap_setCell_other _ _ _ _ (Ne.symm nmg)]
    exact hg1
  · intro k hk h1 h2 h3
    rw [heap_setCell_other _ _ _ _ h1, heap_setCell_other _ _ _ _ h2]
    exact ho k hk h3

theorem Added.before {w W w' : World} {o : Obj} {q : Nat} {bg mb g L r n : Nat} {m : Mk} {A curM cur : Array Value} (h : Added W w' bg mb g L r n m A curM cur) (hW : (w.alloc o).drewN q = W) : Added w w' bg mb g L r n m A curM cur := by
  have e1 : W.heap = (w.alloc o).heap := by rw [← hW]; rfl
  have e2 : W.heap.size = w.heap.size + 1 := by rw [e1]; simp
  refine ⟨by rw [h.os, ← hW]; rfl, by rw [h.tape, ← hW]; rfl, by rw [h.output, ← hW]; rfl, by have := h.size; omega, h.bgr, h.mbr, h.gr, fun k hk h1 h2 h3 => ?_⟩
  rw [h.other k (by omega) h1 h2 h3, e1]
  exact Below.heap_alloc w o k hk

set_option maxRecDepth 100000 in
set_option maxHeartbeats 2000000 in
theorem add_room (w : World) (bg mb g L cap r : Nat) (n : Nat) (m : Mk) (A curM cur : Array Value)
    (hb : w.heap[bg]? = some (.cells A 44 (0, 0))) (hA1 : A[1]? = some (.slice (some ⟨mb, 0, none⟩) L cap)) (hA2 : A[2]? = some (.int .i32 n))
    (hm : w.heap[mb]? = some (.cells curM 52 (0, 0))) (hcM : curM[L - 1]? = some (.slice (some ⟨g, 0, none⟩) r 4096)) (hL : 1 ≤ L) (hLb : L ≤ 65536) (hr : r < 4096) (hn : n < 65536)
    (hg : w.heap[g]? = some (.cells cur 48 (0, 0))) (hgs : cur.size = 16384) (hmod : ((n : Int) % 4096 == 0) = false) :
    Calls Try.prog 15 #[.pointer (some ⟨bg, 0, none⟩), .agg #[.int .i32 m.line, .int .i16 m.year, .int .i32 m.text, .int .i32 m.next]] w fun e w' => e = .returned (.tuple #[]) ∧ Added w w' bg mb g L r n m A curM cur := by
  have c1 : w.cell? ⟨bg, 1, none⟩ = some (.slice (some ⟨mb, 0, none⟩) L cap) := by rw [cell_of_row w _ _ _ _ _ hb]; exact hA1
  have c2 : w.cell? ⟨bg, 2, none⟩ = some (.int .i32 n) := by rw [cell_of_row w _ _ _ _ _ hb]; exact hA2
  have cm : w.cell? ⟨mb, L - 1, none⟩ = some (.slice (some ⟨g, 0, none⟩) r 4096) := by rw [cell_of_row w _ _ _ _ _ hm]; exact hcM
  have lbg := row_lt hb
  have lmb := row_lt hm
  have lg := row_lt hg
  have H1 : Hid (w.heap[bg]? = _) := hb
  have H2 : Hid (w.heap[mb]? = _) := hm
  have H3 : Hid (w.heap[g]? = _) := hg
  have HA1 : Hid _ := hA1
  have HA2 : Hid _ := hA2
  have HcM : Hid _ := hcM
  have hL0 : (0 : Int) ≤ (L : Int) - 1 := by omega
  have hL1 : (L : Int) - 1 < (L : Int) := by omega
  clear hb hm hg hA1 hA2 hcM
  go_enter Try.func15, Try.ntmps15
  go_wp2
  go_quiet (fail)
  go_wp2
  generalize hW : (w.alloc _).drewN nq = W
  have hWh : Hid (W.heap = (w.alloc (.cells #[.int .i32 m.line, .int .i16 m.year, .int .i32 m.text, .int .i32 m.next] 48)).heap) := by rw [← hW]; rfl
  have hB : W.heap[w.heap.size]? = some (.cells #[.int .i32 m.line, .int .i16 m.year, .int .i32 m.text, .int .i32 m.next] 48 (0, 0)) := by rw [hWh.out]; exact heap_alloc_new w _
  have hWb : W.heap[bg]? = some (.cells A 44 (0, 0)) := by rw [hWh.out, Below.heap_alloc _ _ _ lbg]; exact H1.out
  have hWm : W.heap[mb]? = some (.cells curM 52 (0, 0)) := by rw [hWh.out, Below.heap_alloc _ _ _ lmb]; exact H2.out
  have hWg : W.heap[g]? = some (.cells cur 48 (0, 0)) := by rw [hWh.out, Below.heap_alloc _ _ _ lg]; exact H3.out
  have hWs : W.heap.size = w.heap.size + 1 := by rw [hWh.out]; simp
  have k0 : W.cell? ⟨w.heap.size, 0, none⟩ = some (.int .i32 m.line) := by rw [cell_of_row W _ _ _ _ _ hB]; rfl
  have k1 : W.cell? ⟨w.heap.size, 1, none⟩ = some (.int .i16 m.year) := by rw [cell_of_row W _ _ _ _ _ hB]; rfl
  have k2 : W.cell? ⟨w.heap.size, 2, none⟩ = some (.int .i32 m.text) := by rw [cell_of_row W _ _ _ _ _ hB]; rfl
  have k3 : W.cell? ⟨w.heap.size, 3, none⟩ = some (.int .i32 m.next) := by rw [cell_of_row W _ _ _ _ _ hB]; rfl
  have km : W.cell? ⟨mb, L - 1, none⟩ = some (.slice (some ⟨g, 0, none⟩) r 4096) := by rw [cell_of_row W _ _ _ _ _ hWm]; exact HcM.out
  have kf : W.frozen? ⟨mb, L - 1, none⟩ = false := frozen_of_row W _ _ _ _ hWm
  have kb : W.cell? ⟨bg, 2, none⟩ = some (.int .i32 n) := by rw [cell_of_row W _ _ _ _ _ hWb]; exact HA2.out
  have kfb : W.frozen? ⟨bg, 2, none⟩ = false := frozen_of_row W _ _ _ _ hWb
  have lbW : bg < W.heap.size := by omega
  have nbg : bg ≠ g := ne_of_obj hWb hWg (by simp)
  have nbm : bg ≠ mb := ne_of_obj hWb hWm (by simp)
  have nmg : mb ≠ g := ne_of_obj hWm hWg (by simp)
  have GB : Hid (W.heap[w.heap.size]? = _) := hB
  have Gb : Hid (W.heap[bg]? = _) := hWb
  have Gm : Hid (W.heap[mb]? = _) := hWm
  have Gg : Hid (W.heap[g]? = _) := hWg
  have Gs : Hid (W.heap.size = w.heap.size + 1) := hWs
  have lgW : g < W.heap.size := by omega
  have lmW : mb < W.heap.size := by omega
  have lwW : w.heap.size < W.heap.size := by omega
  have ngH : g ≠ w.heap.size := by omega
  have HW : Hid _ := hW
  clear hB hWb hWm hWg hWs c1 c2 cm hW
  go_region_law
    ((refine step_chunk (by rfl) _ _ (by rfl) g r W.heap.size cur m (by rfl) (by rfl) ((look_old W _ g lgW).trans Gg.out) hgs (look_new W _) hr ?_; intro w1 hg1 hgrow; have f1 : w1.frozen? ⟨mb, L - 1, none⟩ = false := (by rw [hgrow.frozen_far _ (by simp; omega) (by simp; omega)]; rw [frozen_old _ _ _ lmW]; exact kf); have g1 : w1.cell? ⟨mb, L - 1, none⟩ = some (.slice (some ⟨g, 0, none⟩) r 4096) := (by rw [hgrow.cell_far _ (by simp; omega) (by simp; omega)]; rw [cell_old _ _ _ lmW]; exact km); have f2 : w1.frozen? ⟨bg, 2, none⟩ = false := (by rw [hgrow.frozen_far _ (by simp; omega) (by simp; omega)]; rw [frozen_old _ _ _ lbW]; exact kfb); have g2 : w1.cell? ⟨bg, 2, none⟩ = some (.int .i32 n) := (by rw [hgrow.cell_far _ (by simp; omega) (by simp; omega)]; rw [cell_old _ _ _ lbW]; exact kb)))
  all_goals go_wp2
  all_goals
    go_end0
    exact ⟨rfl, (added_of Gb.out Gm.out Gg.out hg1 hgrow).before HW.out⟩
end Go.Proofs.Qxb6003655a
