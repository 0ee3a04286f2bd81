import Derived.Test.Qxb6003655aSmall
import Derived.Deep.AppendLies
namespace Go.Proofs.Qxb6003655a
open Go.ChangeShapes Go.WideShapes Go.ChangeAt Go.RowKit Go.Maps

/-- One row of the file. -/
structure Mk where
  line : Int
  year : Int
  text : Int
  next : Int

/-- The chunks' slices: chunk c lies in block gs[c] and holds the marks from 4096 c on. -/
def chunkVals (gs : List Nat) (n : Nat) : List Value := gs.zipIdx.map fun p => .slice (some ⟨p.1, 0, none⟩) (min 4096 (n - 4096 * p.2)) 4096

theorem chunkVals_at {gs : List Nat} {n c g : Nat} (h : gs[c]? = some g) : (chunkVals gs n)[c]? = some (.slice (some ⟨g, 0, none⟩) (min 4096 (n - 4096 * c)) 4096) := by
  simp [chunkVals, h]
theorem chunkVals_length (gs : List Nat) (n : Nat) : (chunkVals gs n).length = gs.length := by simp [chunkVals]

/-- The chunks' blocks. -/
structure Chunks (w : World) (base : Nat) (gs : List Nat) (ms : List Mk) : Prop where
  len : gs.length = (ms.length + 4095) / 4096
  nodup : gs.Nodup
  low : ∀ g ∈ gs, base ≤ g
  row : ∀ c g, gs[c]? = some g → ∃ cur : Array Value, w.heap[g]? = some (.cells cur 48 (0, 0)) ∧ cur.size = 16384 ∧
    ∀ r m, r < 4096 → ms[4096 * c + r]? = some m → cur[4 * r]? = some (.int .i32 m.line) ∧ cur[4 * r + 1]? = some (.int .i16 m.year) ∧ cur[4 * r + 2]? = some (.int .i32 m.text) ∧ cur[4 * r + 3]? = some (.int .i32 m.next)

/-- The file in memory: the struct at bg, its maps at bf and bt, its rows from base on. -/
structure Gr (w : World) (base bg bf bt : Nat) (ms : List Mk) (ts : List ByteArray) : Prop where
  ltg : bg < base
  ltf : bf < base
  ltt : bt < base
  neq : bf ≠ bt
  big : base ≤ w.heap.size
  body : ∃ mv tv gs, w.heap[bg]? = some (.cells #[.map (some bf), mv, .int .i32 ms.length, tv, .map (some bt), .int .i64 0] 44 (0, 0)) ∧
    w.ownsRow base 52 1 mv gs.length (chunkVals gs ms.length) ∧ w.ownsRow base 9 1 tv ts.length (ts.map Value.string) ∧ Chunks w base gs ms
  textOf : ∃ f, MapF w bt ts.length f ∧ ∀ s c, f s = some c → ∃ i : Nat, c = i ∧ ts[i]? = some s

/-- What a mark's reader needs. -/
structure MarkAt (w : World) (bg i : Nat) (m : Mk) (mb cap n g L : Nat) : Prop where
  field : w.cell? ⟨bg, 1, none⟩ = some (.slice (some ⟨mb, 0, none⟩) n cap)
  chunk : w.cell? ⟨mb, i / 4096, none⟩ = some (.slice (some ⟨g, 0, none⟩) L 4096)
  lt1 : i / 4096 < n
  lt2 : i % 4096 < L
  line : w.cell? ⟨g, i % 4096 * 4, none⟩ = some (.int .i32 m.line)
  year : w.cell? ⟨g, i % 4096 * 4 + 1, none⟩ = some (.int .i16 m.year)
  text : w.cell? ⟨g, i % 4096 * 4 + 2, none⟩ = some (.int .i32 m.text)
  next : w.cell? ⟨g, i % 4096 * 4 + 3, none⟩ = some (.int .i32 m.next)
  blk : g < w.heap.size

theorem Gr.markAt {w : World} {base bg bf bt : Nat} {ms : List Mk} {ts : List ByteArray} (h : Gr w base bg bf bt ms ts) {i : Nat} {m : Mk} (hi : ms[i]? = some m) : ∃ mb cap n g L, MarkAt w bg i m mb cap n g L := by
  obtain ⟨mv, tv, gs, hb, hmv, _, hC⟩ := h.body
  have hil : i < ms.length := (List.getElem?_eq_some_iff.1 hi).1
  have hlen := hC.len
  have hc : i / 4096 < gs.length := by omega
  obtain ⟨g, hg⟩ : ∃ g, gs[i / 4096]? = some g := ⟨_, List.getElem?_eq_getElem hc⟩
  obtain ⟨mb, cap, hmv', _, _⟩ := hmv.form (by omega)
  obtain ⟨cur, hcur, _, hr⟩ := hC.row _ _ hg
  obtain ⟨r0, r1, r2, r3⟩ := hr (i % 4096) m (Nat.mod_lt _ (by omega)) (by rw [Nat.div_add_mod]; exact hi)
  refine ⟨mb, cap, gs.length, g, min 4096 (ms.length - 4096 * (i / 4096)), ?_, ?_, hc, by omega, ?_, ?_, ?_, ?_, row_lt hcur⟩
  · rw [cell_of_row w _ _ _ _ _ hb, ← hmv']; rfl
  · have := hmv.cells (g := mb) (by rw [hmv']; rfl) (i / 4096) _ (chunkVals_at hg)
    have hadd : (⟨mb, 0, none⟩ : Addr).add (i / 4096) = ⟨mb, i / 4096, none⟩ := by unfold Addr.add; split <;> simp_all
    rwa [hadd] at this
  · rw [cell_of_row w _ _ _ _ _ hcur, Nat.mul_comm]; exact r0
  · rw [cell_of_row w _ _ _ _ _ hcur, Nat.mul_comm]; exact r1
  · rw [cell_of_row w _ _ _ _ _ hcur, Nat.mul_comm]; exact r2
  · rw [cell_of_row w _ _ _ _ _ hcur, Nat.mul_comm]; exact r3

set_option maxHeartbeats 1000000 in
/-- 'g.mark(i)': the address of the i-th mark. -/
theorem mark_any (w : World) (bg i : Nat) (m : Mk) (mb cap n g L : Nat) (h : MarkAt w bg i m mb cap n g L) (hi : i < 65536) :
    Calls Try.prog 16 #[.pointer (some ⟨bg, 0, none⟩), .int .i32 i] w fun e w' => e = .returned (.pointer (some ⟨g, i % 4096 * 4, none⟩)) ∧ w' = w := by
  obtain ⟨h1, h2, h3, h4, _, _, _, _, _⟩ := h
  go_enter Try.func16, Try.ntmps16
  go_wp2
  go_goals
  go_ret
  exact ⟨rfl, rfl⟩
end Go.Proofs.Qxb6003655a
