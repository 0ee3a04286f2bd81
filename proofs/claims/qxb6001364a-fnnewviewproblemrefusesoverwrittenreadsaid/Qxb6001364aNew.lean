import Derived.Test.Qxb6001364aL1
import Derived.Deep.Cut
namespace Go.Proofs.Qxb6001364a
open Go.ChangeShapes Go.WideShapes Go.ChangeAt Go.RowKit Go.Maps

set_option maxHeartbeats 8000000 in
set_option maxRecDepth 100000 in
/-- newViewProblem refuses where some item's accesses are bad. -/
theorem new_any (w0 : World) (gb n k bi ck gm : Nat) (accs : List (List (Nat × Bool))) (hG : GraphAt w0 gb n k bi ck gm accs) (hn : n ≤ 65536) (hk : k ≤ 65536) (hbad : ∃ x, x < k ∧ Bad (accs.getD x [])) :
    Calls Try.prog 38 #[.pointer (some ⟨gb, 0, none⟩)] w0 fun e w' => e = .returned (.tuple #[.pointer none, .bool false]) ∧ Below w0.heap.size w0 w' := by
  obtain ⟨an, cn, m3, m4, hrow⟩ := hG.row
  have HG : Hid (GraphAt w0 gb n k bi ck gm accs) := ⟨hG⟩
  have HB : Hid (∃ x, x < k ∧ Bad (accs.getD x [])) := ⟨hbad⟩
  clear hG hbad
  go_enter Try.func38, Try.ntmps38
  go_upto_region 1 with (fail)
  refine reg1 w0 gb n k cn ck an (some ⟨bi, 0, none⟩) (.map (some gm)) m3 m4 hrow hn hk _ rfl rfl _ ?_
  intro a' w' τ C hCn hCk hsz hdf hout h4 hP hnil
  have f0 : G a' 0 = .pointer (some ⟨gb, 0, none⟩) := hout 0 (by decide) (by decide)
  have kg : w'.cell? ⟨gb, 1, none⟩ = some (.slice (some ⟨bi, 0, none⟩) k ck) := by
    rw [cell_of_row w' gb 1 _ _ _ ((hP.bel.block _ (row_lt hrow)).trans hrow)]
    rfl
  have HP : Hid (PSt C w0 w' τ 0 (.slice none 0 0) (.slice none 0 0)) := ⟨hP⟩
  have HN : Hid (∀ y, y < k → w'.cell? ⟨C.b2, y, none⟩ = some (.slice none 0 0)) := ⟨hnil⟩
  have HC : Hid (C.n = n ∧ C.k = k) := ⟨hCn, hCk⟩
  clear hP hnil hCn hCk hout hrow
  obtain ⟨u, rfl, hu⟩ := frame_any a' hsz hdf
  have e0 := (hu 0).trans f0
  have e4 := (hu 4).trans h4
  clear hu hsz hdf f0 h4
  rw [e0, e4]
  clear e0 e4
  go_wp2
  refine loop1 C w0 gb bi ck gm accs (by rw [HC.out.1, HC.out.2]; exact HG.out) (by rw [HC.out.1]; exact hn) (by rw [HC.out.2]; exact hk) _ _ ?_ _ ?_ ?_
  · refine ⟨0, τ, 0, _, _, _, _, _, _, _, _, ⟨rfl, rfl, rfl, rfl, rfl, rfl, rfl, rfl, rfl, rfl, ?_, ?_, rfl⟩, Nat.zero_le _, HP.out, rfl, Nat.le_refl _, fun y _ hy => HN.out y (by rw [← HC.out.2]; exact hy), fun i hi => absurd hi (Nat.not_lt_zero _)⟩
    · rw [HC.out.2]
      rfl
    · rw [HC.out.2]
      rfl
  · intro a'' w'' hno
    obtain ⟨x, hx, hb⟩ := HB.out
    exact absurd hb (hno x (by rw [HC.out.2]; exact hx))
  · intro a'' w'' hsz hdf h2 h3 hbel
    obtain ⟨u', rfl, hu⟩ := frame_any a'' hsz hdf
    have e2 := (hu 2).trans h2
    have e3 := (hu 3).trans h3
    clear hu
    rw [e2, e3]
    go_ret2
    exact ⟨rfl, hbel⟩
end Go.Proofs.Qxb6001364a
