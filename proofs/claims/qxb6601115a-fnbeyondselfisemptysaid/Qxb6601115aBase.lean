import Derived.Test.Qxb6601115aRows
import Derived.WalkKit
import Derived.ProofKit
import Derived.OpenShut
import Derived.ShutString
import Derived.ChangeOld
import Derived.Below
import Derived.WalkLawsBesides
import Derived.WalkSpells
import Derived.Deep.QuietTactic
import Derived.BigQuiet
import Derived.Deep.DeepMust
namespace Go.Proofs.Qxb6601115a
open Go.ChangeShapes Go.WideShapes Go.ChangeAt Go.RowKit

/-- A GTID's three numbers. -/
structure Gt where
  d : Int
  s : Int
  q : Int

/-- .. as a value. -/
def Gt.val (g : Gt) : Value := .agg #[.int .u32 g.d, .int .u32 g.s, .int .u64 g.q]
/-- each number fits its kind. -/
def Gt.fits (g : Gt) : Prop := (0 ≤ g.d ∧ g.d < 4294967296) ∧ (0 ≤ g.s ∧ g.s < 4294967296) ∧ (0 ≤ g.q ∧ g.q < 18446744073709551616)

/-- The three cells of place i in a row that begins at ⟨b, off⟩. -/
structure GAt (w : World) (b off i : Nat) (g : Gt) : Prop where
  d : w.cell? ⟨b, off + i * 3, none⟩ = some (.int .u32 g.d)
  s : w.cell? ⟨b, off + i * 3 + 1, none⟩ = some (.int .u32 g.s)
  q : w.cell? ⟨b, off + i * 3 + 2, none⟩ = some (.int .u64 g.q)

/-- A slice of GTIDs that the walk reads. -/
structure GView (w : World) (a : Option Addr) (gs : List Gt) : Prop where
  at_ : ∀ k, k < gs.length → ∃ b off, a = some ⟨b, off, none⟩ ∧ b < w.heap.size ∧ ∀ i g, gs[i]? = some g → GAt w b off i g
  nil_ : a = none → gs = []

theorem GAt.below {w w' : World} {b off i : Nat} {g : Gt} (h : GAt w b off i g) {B : Nat} (hb : Below B w w') (hB : b < B) : GAt w' b off i g :=
  ⟨by rw [hb.cell (by exact hB)]; exact h.d, by rw [hb.cell (by exact hB)]; exact h.s, by rw [hb.cell (by exact hB)]; exact h.q⟩

theorem GView.below {w w' : World} {a : Option Addr} {gs : List Gt} (h : GView w a gs) (hb : Below w.heap.size w w') : GView w' a gs :=
  ⟨fun k hk => by
    obtain ⟨b, off, ha, hlt, hc⟩ := h.at_ k hk
    exact ⟨b, off, ha, Nat.lt_of_lt_of_le hlt hb.size, fun i g hg => (hc i g hg).below hb hlt⟩, h.nil_⟩

theorem row_lt {w : World} {g : Nat} {o : Obj} (h : w.heap[g]? = some o) : g < w.heap.size := (Array.getElem?_eq_some_iff.1 h).1

theorem run_index_at (t e : TypeId) (a : Option Addr) (len cap k : Nat) (b off : Nat) (ha : a = some ⟨b, off, none⟩) (hk : k < len)
    (ht : Try.prog.underlying t = some (.slice e)) (hs : (Try.prog.info? e).map (·.size) = some 3) (w : World) :
    (Instr.indexAt t (.slice a len cap) (.int .i64 (k : Int))).run Try.prog w = .ok (.pointer (some ⟨b, off + k * 3, none⟩)) w := by
  subst ha
  obtain ⟨i, hi, hsz⟩ := Option.map_eq_some_iff.1 hs
  simp [Instr.indexAt, run_underlying ht, asIntOf, hk, sizeOf, typeInfo, hi, hsz, Addr.add]
  try (intro h; simp [h])

theorem Try.cell47 : (Try.prog.info? 47).map (·.size) = some 3 := by kernel_rfl
theorem Try.cell33 : (Try.prog.info? 33).map (·.size) = some 3 := by kernel_rfl
theorem Try.info33 : (Try.prog.info? 33).map (fun i => (i.zero, i.size, i.bytes)) = some (some (.agg #[.int .u32 0, .int .u32 0, .int .u64 0]), 3, 16) := by kernel_rfl

theorem GView.get {w : World} {a : Option Addr} {gs : List Gt} (h : GView w a gs) {k : Nat} {g : Gt} (hg : gs[k]? = some g) (t e : TypeId) (ht : Try.prog.underlying t = some (.slice e)) (hs : (Try.prog.info? e).map (·.size) = some 3) (cap : Nat) :
    ∃ b off, (∀ W, (Instr.indexAt t (.slice a gs.length cap) (.int .i64 (k : Int))).run Try.prog W = .ok (.pointer (some ⟨b, off + k * 3, none⟩)) W) ∧ b < w.heap.size ∧ GAt w b off k g := by
  have hk := (List.getElem?_eq_some_iff.1 hg).1
  obtain ⟨b, off, ha, hlt, hc⟩ := h.at_ k hk
  exact ⟨b, off, fun W => run_index_at t e a gs.length cap k b off ha hk ht hs W, hlt, hc k g hg⟩

/-- 'make(gtid.Position, n)'. -/
theorem make_row (n : Nat) (hn : n ≤ 4096) :
    ∃ M : Array Value, M.size = n * 3 ∧ ∀ W : World, (Instr.makeSlice 25 (.int .i64 (n : Int)) (.int .i64 (n : Int))).run Try.prog W = .ok (.slice (some ⟨W.heap.size, 0, none⟩) n n) (W.alloc (.cells M 33)) := by
  obtain ⟨i0, hi0, hz0, hz1, hz2⟩ := info_parts Try.info33
  refine ⟨madeCells (Value.agg #[.int .u32 0, .int .u32 0, .int .u64 0]).cells (((n : Nat) : Int).toNat * i0.size), by rw [size_madeCells, hz1]; simp, fun W => ?_⟩
  have h := run_make (P := Try.prog) W 25 33 i0 _ Try.underlying25 hi0 hz0 .i64 .i64 (n : Int) (n : Int) (by omega) (by omega) (by rw [hz2]; omega) (by omega)
  simpa using h

/-- It hands back some bool; where that is true, P holds. -/
def RetB (P : Prop) (e : Ending) : Prop := ∃ b, e = .returned (.bool b) ∧ (b = true → P)
theorem RetB.no (P : Prop) : RetB P (.returned (.bool false)) := ⟨false, rfl, fun h => by cases h⟩
theorem RetB.yes {P : Prop} (b : Bool) (h : P) : RetB P (.returned (.bool b)) := ⟨b, rfl, fun _ => h⟩

theorem bytes_any (a : Option Addr) (n c : Nat) (w : World) (hn : n ≤ 9223372036854775807) :
    Calls Try.prog 18 #[.slice a n c] w fun e w' => RetB True e ∧ w' = w := by
  go_enter Try.func18, Try.ntmps18
  go_wp2
  all_goals (go_ret; exact ⟨RetB.yes _ trivial, rfl⟩)

theorem toGTID_any (g : Gt) (w : World) :
    Calls Try.prog 22 #[.agg #[.int .u32 g.d, .int .u32 g.s, .int .u64 g.q]] w fun e w' => e = .returned (.agg #[.int .u32 g.d, .int .u32 g.s, .int .u64 g.q]) ∧ Below w.heap.size w w' := by
  go_enter Try.func22, Try.ntmps22
  go_wp2
  exact bodyPost_ret (v := .agg #[.int .u32 g.d, .int .u32 g.s, .int .u64 g.q]) (by simp [results, Try.results22, go_sem]) rfl ⟨rfl, ((Below.refl _ _).alloc (Nat.le_refl _) _).alloc (by simp) _⟩
end Go.Proofs.Qxb6601115a
