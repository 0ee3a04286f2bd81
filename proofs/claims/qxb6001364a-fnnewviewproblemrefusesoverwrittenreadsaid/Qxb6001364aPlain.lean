import Derived.Test.Qxb6001364aPe
import Derived.Test.Qxb6001364aOver
namespace Go.Proofs.Qxb6001364a
open Go.ChangeShapes Go.WideShapes Go.ChangeAt Go.RowKit Go.Maps

/-! ### A history with an overwritten read has an item with bad accesses -/
theorem accOf_split {hs : Hist} {p : Nat} {h : Nat × Bool × Nat} (hp : hs[p]? = some h) : accOf hs h.2.2 = accOf (hs.take p) h.2.2 ++ (h.1, h.2.1) :: accOf (hs.drop (p + 1)) h.2.2 := by
  have hlt := (List.getElem?_eq_some_iff.1 hp).1
  have hd : hs.drop p = h :: hs.drop (p + 1) := by
    rw [List.drop_eq_getElem_cons hlt]
    have := (List.getElem?_eq_some_iff.1 hp).2
    rw [this]
  have h1 := accOf_append (hs.take p) (hs.drop p) h.2.2
  rw [List.take_append_drop, hd] at h1
  rw [h1]
  congr 1
  simp [accOf]
theorem accOf_pos {hs : Hist} {p : Nat} {h : Nat × Bool × Nat} (hp : hs[p]? = some h) : (accOf hs h.2.2)[(accOf (hs.take p) h.2.2).length]? = some (h.1, h.2.1) ∧ (accOf hs h.2.2).take (accOf (hs.take p) h.2.2).length = accOf (hs.take p) h.2.2 := by
  rw [accOf_split hp]
  constructor
  · rw [List.getElem?_append_right (Nat.le_refl _), Nat.sub_self]
    rfl
  · rw [List.take_append_of_le_length (Nat.le_refl _), List.take_length]
theorem accOf_lt {hs : Hist} {p q : Nat} {h : Nat × Bool × Nat} (hp : hs[p]? = some h) (hpq : p < q) : (accOf (hs.take p) h.2.2).length < (accOf (hs.take q) h.2.2).length := by
  have hp' : (hs.take q)[p]? = some h := by
    rw [List.getElem?_take, if_pos hpq]
    exact hp
  have := accOf_split hp'
  rw [List.take_take, Nat.min_eq_left (Nat.le_of_lt hpq)] at this
  rw [this, List.length_append, List.length_cons]
  omega
theorem foldl_reads : ∀ (m : List (Nat × Bool)) (r : Int), (∀ y ∈ m, y.2 = false) → m.foldl (fun r x => if x.2 then (x.1 : Int) else r) r = r
  | [], _, _ => rfl
  | y :: m, r, h => by
    rw [List.foldl_cons, h y (by simp)]
    exact foldl_reads m r (fun z hz => h z (by simp [hz]))
theorem lastW_mid (l m : List (Nat × Bool)) (a : Nat) (h : ∀ y ∈ m, y.2 = false) : lastW (l ++ (a, true) :: m) = a := by
  unfold lastW
  rw [List.foldl_append, List.foldl_cons]
  exact foldl_reads m _ h

theorem bad_of_hist {hs : Hist} {k : Nat} (hk : ∀ e ∈ hs, e.2.2 < k) (h : BadH (hs.map fun e => (e.1 : Int)) (hs.map fun e => e.2.1) (hs.map fun e => e.2.2)) : ∃ x, x < k ∧ Bad (accOf hs x) := by
  obtain ⟨i, j, l, x, a, b, hij, hjl, wi, wj, wl, xi, xj, xl, zi, zl, zj, hab, hno⟩ := h
  simp only [List.getElem?_map, Option.map_eq_some_iff] at wi wj wl xi xj xl zi zl zj
  obtain ⟨ei, hi, wi⟩ := wi
  obtain ⟨ej, hj, wj⟩ := wj
  obtain ⟨el, hl, wl⟩ := wl
  obtain ⟨ei', hi', xi⟩ := xi
  obtain ⟨ej', hj', xj⟩ := xj
  obtain ⟨el', hl', xl⟩ := xl
  obtain ⟨ei2, hi2, zi⟩ := zi
  obtain ⟨el2, hl2, zl⟩ := zl
  obtain ⟨ej2, hj2, zj⟩ := zj
  rw [hi] at hi' hi2
  rw [hj] at hj' hj2
  rw [hl] at hl' hl2
  cases hi'
  cases hi2
  cases hj'
  cases hj2
  cases hl'
  cases hl2
  refine ⟨x, by rw [← xi]; exact hk ei (List.mem_of_getElem? hi), ?_⟩
  have pj := accOf_pos hj
  have pl := accOf_pos hl
  have ltjl := accOf_lt hj hjl
  rw [xj] at pj ltjl
  rw [xl] at pl
  rw [wj] at pj
  rw [wl] at pl
  have hi' : (hs.take j)[i]? = some ei := by
    rw [List.getElem?_take, if_pos hij]
    exact hi
  have sp := accOf_split hi'
  rw [xi, wi] at sp
  have hmid : ∀ y ∈ accOf ((hs.take j).drop (i + 1)) x, y.2 = false := by
    intro y hy
    unfold accOf at hy
    rw [List.mem_map] at hy
    obtain ⟨z, hz, rfl⟩ := hy
    obtain ⟨hz1, hz2⟩ := List.mem_filter.1 hz
    obtain ⟨q, hq⟩ := List.mem_iff_getElem?.1 hz1
    rw [List.getElem?_drop, List.getElem?_take] at hq
    split at hq
    · rename_i hlt
      have := hno (i + 1 + q) (by omega) hlt (by
        rw [List.getElem?_map, hq]
        simp at hz2
        simp [hz2])
      rw [List.getElem?_map, hq] at this
      simp at this
      exact this
    · cases hq
  have hla : lastW (accOf (hs.take j) x) = (ei.1 : Int) := by
    rw [sp]
    exact lastW_mid _ _ _ hmid
  have hea : (el.1 : Int) = (ei.1 : Int) := zl.trans zi.symm
  refine ⟨(accOf (hs.take l) x).length, el.1, pl.1, (accOf (hs.take j) x).length, ej.1, ltjl, pj.1, ?_, ?_⟩
  · rw [pj.2, hla, hea]
  · intro e
    exact hab (by rw [← zl, ← zj, e])

end Go.Proofs.Qxb6001364a
