import Derived.Test.Qxb6001364aS3
import Derived.Test.Qxb6001364aL4
namespace Go.Proofs.Qxb6001364a
open Go.ChangeShapes Go.WideShapes Go.ChangeAt Go.RowKit Go.Maps

/-! ### The scan of one item's accesses, in plain words -/
/-- The last node that writes, or -1. -/
def lastW (l : List (Nat × Bool)) : Int := l.foldl (fun r x => if x.2 then (x.1 : Int) else r) (-1)
/-- Among the first p accesses another node reads a's latest write. -/
def RO (acc : List (Nat × Bool)) (p : Nat) (a : Int) : Prop := ∃ j b, j < p ∧ acc[j]? = some (b, false) ∧ lastW (acc.take j) = a ∧ (b : Int) ≠ a
/-- A write that another node has read is overwritten by the same node. -/
def Bad (acc : List (Nat × Bool)) : Prop := ∃ (l a : Nat), acc[l]? = some (a, true) ∧ RO acc l (a : Int)
/-- No such thing among the first p. -/
def Clean (acc : List (Nat × Bool)) (p : Nat) : Prop := ∀ (l a : Nat), l < p → acc[l]? = some (a, true) → ¬ RO acc l (a : Int)

theorem take_succ_some {acc : List (Nat × Bool)} {j : Nat} {x : Nat × Bool} (h : acc[j]? = some x) : acc.take (j + 1) = acc.take j ++ [x] := by
  rw [List.take_add_one, h]
  rfl
theorem lastW_write {acc : List (Nat × Bool)} {j a : Nat} (h : acc[j]? = some (a, true)) : lastW (acc.take (j + 1)) = a := by
  rw [take_succ_some h]
  simp [lastW]
theorem lastW_read {acc : List (Nat × Bool)} {j a : Nat} (h : acc[j]? = some (a, false)) : lastW (acc.take (j + 1)) = lastW (acc.take j) := by
  rw [take_succ_some h]
  simp [lastW]
theorem RO_succ_write {acc : List (Nat × Bool)} {j a : Nat} {c : Int} (h : acc[j]? = some (a, true)) (hr : RO acc (j + 1) c) : RO acc j c := by
  obtain ⟨i, b, hi, h1, h2, h3⟩ := hr
  refine ⟨i, b, ?_, h1, h2, h3⟩
  by_cases e : i = j
  · subst e
    rw [h] at h1
    cases h1
  · omega
theorem RO_succ_read {acc : List (Nat × Bool)} {j a : Nat} {c : Int} (h : acc[j]? = some (a, false)) (hr : RO acc (j + 1) c) : RO acc j c ∨ (lastW (acc.take j) = c ∧ (a : Int) ≠ c) := by
  obtain ⟨i, b, hi, h1, h2, h3⟩ := hr
  by_cases e : i = j
  · subst e
    rw [h] at h1
    cases h1
    exact .inr ⟨h2, h3⟩
  · exact .inl ⟨i, b, by omega, h1, h2, h3⟩
theorem Clean.not_bad {acc : List (Nat × Bool)} (h : Clean acc acc.length) : ¬ Bad acc := by
  rintro ⟨l, a, h1, h2⟩
  exact h l a (List.getElem?_eq_some_iff.1 h1).1 h1 h2
theorem Clean.zero (acc : List (Nat × Bool)) : Clean acc 0 := fun _ _ h => absurd h (Nat.not_lt_zero _)
theorem Clean.read {acc : List (Nat × Bool)} {j a : Nat} (h : Clean acc j) (hj : acc[j]? = some (a, false)) : Clean acc (j + 1) := fun l b hl hb => by
  by_cases e : l = j
  · subst e
    rw [hj] at hb
    cases hb
  · exact h l b (by omega) hb
theorem Clean.write {acc : List (Nat × Bool)} {j a : Nat} (h : Clean acc j) (hj : acc[j]? = some (a, true)) (hn : ¬ RO acc j a) : Clean acc (j + 1) := fun l b hl hb => by
  by_cases e : l = j
  · subst e
    rw [hj] at hb
    cases hb
    exact hn
  · exact h l b (by omega) hb
theorem foldl_range {n : Nat} : ∀ (acc : List (Nat × Bool)) (r : Int), (∀ x ∈ acc, x.1 < n) → -1 ≤ r → r < n → -1 ≤ acc.foldl (fun r x => if x.2 then (x.1 : Int) else r) r ∧ acc.foldl (fun r x => if x.2 then (x.1 : Int) else r) r < n
  | [], r, _, h1, h2 => ⟨h1, h2⟩
  | x :: l, r, h, h1, h2 => by
    have hx := h x (by simp)
    rw [List.foldl_cons]
    refine foldl_range l _ (fun y hy => h y (by simp [hy])) ?_ ?_
    · split <;> omega
    · split <;> omega
theorem lastW_range {acc : List (Nat × Bool)} {n : Nat} (h : ∀ x ∈ acc, x.1 < n) : -1 ≤ lastW acc ∧ lastW acc < n :=
  foldl_range acc (-1) h (by omega) (by omega)

/-- What the maps say of the first j accesses. -/
structure Sem2 (acc : List (Nat × Bool)) (j : Nat) (F1 F3 : Int → Option Value) : Prop where
  clean : Clean acc j
  from_ : ∀ b z, F1 b = some (.int .i64 z) → 0 ≤ z → F3 z = some (.bool true)
  ro : ∀ c : Int, 0 ≤ c → RO acc j c → F3 c = some (.bool true)

theorem Sem2.start (acc : List (Nat × Bool)) : Sem2 acc 0 (fun _ => none) (fun _ => none) :=
  ⟨Clean.zero acc, (fun _ _ h => by cases h), fun c _ ⟨_, _, h, _⟩ => absurd h (Nat.not_lt_zero _)⟩

section
variable {acc : List (Nat × Bool)} {j a : Nat} {F1 F3 : Int → Option Value}
theorem Sem2.write (h : Sem2 acc j F1 F3) (hj : acc[j]? = some (a, true)) (hn : F3 (a : Int) ≠ some (.bool true)) : Sem2 acc (j + 1) F1 F3 :=
  ⟨h.clean.write hj (fun hr => hn (h.ro a (by omega) hr)), h.from_, fun c hc hr => h.ro c hc (RO_succ_write hj hr)⟩
/-- The reader's own write was the last. -/
theorem Sem2.own (h : Sem2 acc j F1 F3) (hj : acc[j]? = some (a, false)) (hl : lastW (acc.take j) = (a : Int)) : Sem2 acc (j + 1) F1 F3 :=
  ⟨h.clean.read hj, h.from_, fun c hc hr => by
    rcases RO_succ_read hj hr with hr | ⟨h1, h2⟩
    · exact h.ro c hc hr
    · exact absurd (hl.symm.trans h1) h2⟩
/-- It has read the same write before. -/
theorem Sem2.again (h : Sem2 acc j F1 F3) (hj : acc[j]? = some (a, false)) (hl : F1 (a : Int) = some (.int .i64 (lastW (acc.take j)))) : Sem2 acc (j + 1) F1 F3 :=
  ⟨h.clean.read hj, h.from_, fun c hc hr => by
    rcases RO_succ_read hj hr with hr | ⟨h1, _⟩
    · exact h.ro c hc hr
    · rw [← h1]
      exact h.from_ a _ hl (by omega)⟩
/-- It reads for the first time: no write stands. -/
theorem Sem2.first_none (h : Sem2 acc j F1 F3) (hj : acc[j]? = some (a, false)) (hl : lastW (acc.take j) < 0) : Sem2 acc (j + 1) (updG F1 a (.int .i64 (lastW (acc.take j)))) F3 :=
  ⟨h.clean.read hj, fun b z hb hz => by
    unfold updG at hb
    split at hb
    · cases hb
      omega
    · exact h.from_ b z hb hz, fun c hc hr => by
    rcases RO_succ_read hj hr with hr | ⟨h1, _⟩
    · exact h.ro c hc hr
    · omega⟩
/-- It reads for the first time: a write stands. -/
theorem Sem2.first_some (h : Sem2 acc j F1 F3) (hj : acc[j]? = some (a, false)) : Sem2 acc (j + 1) (updG F1 a (.int .i64 (lastW (acc.take j)))) (updG F3 (lastW (acc.take j)) (.bool true)) :=
  ⟨h.clean.read hj, fun b z hb hz => by
    unfold updG at hb
    split at hb
    · cases hb
      simp [updG]
    · have := h.from_ b z hb hz
      unfold updG
      split
      · rfl
      · exact this, fun c hc hr => by
    unfold updG
    split
    · rfl
    · rename_i hne
      rcases RO_succ_read hj hr with hr | ⟨h1, _⟩
      · exact h.ro c hc hr
      · exact absurd h1.symm hne⟩
end

end Go.Proofs.Qxb6001364a
