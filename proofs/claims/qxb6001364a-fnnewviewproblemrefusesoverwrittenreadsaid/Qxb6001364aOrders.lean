import Derived.Test.Qxb6001364aProb
namespace Go.Proofs.Qxb6001364a
open Go.ChangeShapes Go.WideShapes Go.ChangeAt Go.RowKit Go.Maps

/-! ### A region that draws its order, by an invariant over what has come up: one proof an operation, whatever the order -/
def up (L : Nat → Bool) (i : Nat) : Nat → Bool := fun j => if j = i then true else L j
theorem up_self (L : Nat → Bool) (i : Nat) : up L i i = true := by simp [up]
theorem up_ne (L : Nat → Bool) {i j : Nat} (h : j ≠ i) : up L i j = L j := by simp [up, h]

def Cl (ops : Array Oper) (L : Nat → Bool) : Prop := ∀ (i : Nat) (o : Oper), ops[i]? = some o → L i = true → ∀ e ∈ o.after.toList, Region.binds .any e = true → L e.on = true

/-- What has come up, as a function. -/
def Lof (listed : Array Bool) : Nat → Bool := fun i => listed.getD i false
theorem Lof_set (listed : Array Bool) (i : Nat) (hi : i < listed.size) : Lof (listed.setIfInBounds i true) = up (Lof listed) i := by
  funext j
  unfold Lof up
  by_cases h : j = i
  · subst h
    simp [hi]
  · simp [h, Ne.symm h]

section
variable {P : Program} {ops : Array Oper} {Q : Exit → Act → World → Prop}

theorem mem_ready {listed : Array Bool} {i : Nat} (hs : listed.size = ops.size) : i ∈ Region.ready .any ops listed ↔ ∃ o, ops[i]? = some o ∧ Lof listed i = false ∧ ∀ e ∈ o.after.toList, Region.binds .any e = true → Lof listed e.on = true := by
  unfold Region.ready Lof
  rw [List.mem_filter, List.mem_range]
  constructor
  · rintro ⟨hi, h⟩
    rw [Bool.and_eq_true] at h
    obtain ⟨h1, h2⟩ := h
    refine ⟨ops[i], Array.getElem?_eq_getElem hi, ?_, ?_⟩
    · have hi' : i < listed.size := by omega
      simp [Array.getD, hi'] at h1 ⊢
      exact h1
    · intro e he hb
      rw [Array.getElem?_eq_getElem hi] at h2
      simp only [Option.map_some, Option.getD_some] at h2
      rw [← Array.all_toList, List.all_eq_true] at h2
      have h3 := h2 e he
      rw [hb] at h3
      simpa using h3
  · rintro ⟨o, ho, h1, h2⟩
    have hi : i < ops.size := (Array.getElem?_eq_some_iff.1 ho).1
    have hi' : i < listed.size := by omega
    refine ⟨hi, ?_⟩
    rw [Bool.and_eq_true]
    refine ⟨?_, ?_⟩
    · simp [Array.getD, hi'] at h1 ⊢
      exact h1
    · rw [ho]
      simp only [Option.map_some, Option.getD_some]
      rw [← Array.all_toList, List.all_eq_true]
      intro e he
      cases hb : Region.binds .any e with
      | false => rfl
      | true =>
        have h3 := h2 e he hb
        simpa using h3

theorem count_set (l : List Bool) (i : Nat) (h : l[i]? = some false) : (l.set i true).countP (· == false) + 1 = l.countP (· == false) := by
  induction l generalizing i with
  | nil => simp at h
  | cons x l ih =>
    cases i with
    | zero =>
      simp at h
      subst h
      simp
    | succ i =>
      simp at h
      have := ih i h
      simp only [List.set_cons_succ, List.countP_cons]
      omega

theorem wpAny_inv (I : (Nat → Bool) → Act → World → Prop) (hg : ∀ (i : Nat) (o : Oper), ops[i]? = some o → o.guard = none) (hlt : ∀ (i : Nat) (o : Oper), ops[i]? = some o → ∀ e ∈ o.after.toList, e.on < i)
    (step : ∀ L a w i o, ops[i]? = some o → L i = false → (∀ e ∈ o.after.toList, Region.binds .any e = true → L e.on = true) → Cl ops L → I L a w → o.wp P a w (fun a' w' => I (up L i) a' w') Q)
    (fin : ∀ L a w, (∀ i, i < ops.size → L i = true) → I L a w → Q .normal a w) :
    ∀ (fuel : Nat) (listed : Array Bool) (a : Act) (w : World), listed.size = ops.size → listed.toList.countP (· == false) ≤ fuel → Cl ops (Lof listed) → I (Lof listed) a w → wpAny P .any ops Q fuel listed a w := by
  have hall : ∀ listed : Array Bool, listed.size = ops.size → Region.ready .any ops listed = [] → ∀ i, i < ops.size → Lof listed i = true := by
    intro listed hs hr i
    induction i using Nat.strongRecOn with
    | _ i ih =>
      intro hi
      cases hL : Lof listed i with
      | true => rfl
      | false =>
        have : i ∈ Region.ready .any ops listed := (mem_ready hs).2 ⟨ops[i], Array.getElem?_eq_getElem hi, hL, fun e he _ => by
          have h1 := hlt i _ (Array.getElem?_eq_getElem hi) e he
          exact ih _ h1 (by omega)⟩
        rw [hr] at this
        cases this
  intro fuel
  induction fuel with
  | zero =>
    intro listed a w hs hc _ hI
    have hr : Region.ready .any ops listed = [] := by
      apply List.eq_nil_iff_forall_not_mem.2
      intro i hi
      obtain ⟨o, ho, hL, _⟩ := (mem_ready hs).1 hi
      have hi' : i < listed.size := by have := (Array.getElem?_eq_some_iff.1 ho).1; omega
      have h0 : listed.toList.countP (· == false) = 0 := by omega
      rw [List.countP_eq_zero] at h0
      refine h0 listed[i] (by simp) ?_
      simp [Lof, Array.getD, hi'] at hL
      simp [hL]
    exact ⟨hr, fin _ a w (hall listed hs hr) hI⟩
  | succ fuel ih =>
    intro listed a w hs hc hcl hI
    refine ⟨fun hr => fin _ a w (hall listed hs hr) hI, fun i hi => ?_⟩
    obtain ⟨o, ho, hL, hd⟩ := (mem_ready hs).1 hi
    have hi' : i < listed.size := by have := (Array.getElem?_eq_some_iff.1 ho).1; omega
    have hst := step (Lof listed) a w i o ho hL hd hcl hI
    have hw : Region.wanted o (yielded ops a.tmps) = true := by simp [Region.wanted, hg i o ho]
    unfold wpOp
    rw [ho]
    simp only [hw, if_true]
    refine .inl (Oper.wp_mono (fun a' w' h => ?_) hst)
    refine ih _ a' w' (by simpa using hs) ?_ ?_ ?_
    · have : listed.toList[i]? = some false := by
        simp [Lof, Array.getD, hi'] at hL
        simp [hi', hL]
      have := count_set _ _ this
      rw [Array.toList_setIfInBounds]
      omega
    · rw [Lof_set _ _ hi']
      intro j oj hj hjl e he hb
      by_cases hji : j = i
      · subst hji
        rw [ho] at hj
        cases hj
        have h1 := hlt j o ho e he
        rw [up_ne _ (by omega)]
        exact hd e he hb
      · rw [up_ne _ hji] at hjl
        have := hcl j oj hj hjl e he hb
        unfold up
        split
        · rfl
        · exact this
    · rw [Lof_set _ _ hi']
      exact h

theorem wp_region_inv {id : Nat} {a : Act} {w : World} (hm : P.follows .mixedOrders = true) (I : (Nat → Bool) → Act → World → Prop) (hg : ∀ (i : Nat) (o : Oper), ops[i]? = some o → o.guard = none) (hlt : ∀ (i : Nat) (o : Oper), ops[i]? = some o → ∀ e ∈ o.after.toList, e.on < i)
    (h0 : I (fun _ => false) a w.drew)
    (step : ∀ L a w i o, ops[i]? = some o → L i = false → (∀ e ∈ o.after.toList, Region.binds .any e = true → L e.on = true) → Cl ops L → I L a w → o.wp P a w (fun a' w' => I (up L i) a' w') Q)
    (fin : ∀ L a w, (∀ i, i < ops.size → L i = true) → I L a w → Q .normal a w) : (Code.region id ops true).wp P Q a w := by
  refine wp_region_any hm (wpAny_inv I hg hlt step fin _ _ a _ (by simp) ?_ ?_ ?_)
  · rw [Array.toList_replicate]
    exact Nat.le_trans List.countP_le_length (by simp)
  · intro i o _ h
    exfalso
    unfold Lof at h
    simp [Array.getD] at h
  · have : Lof (Array.replicate ops.size false) = fun _ => false := by
      funext i
      unfold Lof
      simp [Array.getD]
    rw [this]
    exact h0
end

/-! ### The slots of such a region: d0, d0 + 1, .. -/
structure Slots (a0 : Act) (d0 m : Nat) (V : Nat → Value) (skip : Nat) (L : Nat → Bool) (a : Act) : Prop where
  sz : a.tmps.size = a0.tmps.size
  df : a.defers = a0.defers
  out : ∀ s, (s < d0 ∨ d0 + m ≤ s) → G a s = G a0 s
  ins : ∀ j, j < m → j ≠ skip → L j = true → G a (d0 + j) = V j

theorem G_put_self {a : Act} {d : Nat} (v : Value) (h : d < a.tmps.size) : G (a.put (some d) v) d = v := by
  simp [G, Act.put, h]
theorem G_put_ne {a : Act} {d s : Nat} (v : Value) (h : s ≠ d) : G (a.put (some d) v) s = G a s := by
  simp [G, Act.put, Ne.symm h]

section
variable {a0 a : Act} {d0 m skip : Nat} {V : Nat → Value} {L : Nat → Bool}
theorem Slots.start : Slots a0 d0 m V skip (fun _ => false) a0 := ⟨rfl, rfl, fun _ _ => rfl, fun _ _ _ h => by cases h⟩
theorem Slots.put (h : Slots a0 d0 m V skip L a) (hm : d0 + m ≤ a0.tmps.size) {j : Nat} (hj : j < m) {v : Value} (hv : j ≠ skip → v = V j) : Slots a0 d0 m V skip (up L j) (a.put (some (d0 + j)) v) where
  sz := by simp [Act.put, h.sz]
  df := by simp [Act.put, h.df]
  out := fun s hs => by rw [G_put_ne v (by omega)]; exact h.out s hs
  ins := fun i hi hs hl => by
    by_cases e : i = j
    · subst e
      rw [G_put_self v (by rw [h.sz]; omega)]
      exact hv hs
    · rw [G_put_ne v (by omega)]
      rw [up_ne _ e] at hl
      exact h.ins i hi hs hl
theorem Slots.past (h : Slots a0 d0 m V skip L a) {j : Nat} (hj : m ≤ j) (v : Value) : Slots a0 d0 m V skip (up L j) (a.put none v) :=
  ⟨h.sz, h.df, h.out, fun i hi hs hl => by rw [up_ne _ (by omega)] at hl; exact h.ins i hi hs hl⟩
end

/-- An operation that yields a value. -/
theorem wp_val {P : Program} {o : Oper} {a : Act} {w w' : World} {v : Value} {K : Act → World → Prop} {Q : Exit → Act → World → Prop} (h : (execOp a.eval o).run P w = .ok (.value v) w') (hK : K (a.put o.dst v) w') : o.wp P a w K Q := by
  unfold Oper.wp
  rw [h]
  exact hK
theorem wp_skip {P : Program} {o : Oper} {a : Act} {w w' : World} {K : Act → World → Prop} {Q : Exit → Act → World → Prop} (h : (execOp a.eval o).run P w = .ok .skip w') (hK : K (a.put o.dst undef) w') : o.wp P a w K Q := by
  unfold Oper.wp
  rw [h]
  exact hK

/-- The regions of a function, by number. -/
def regs : Code → List Code
  | .region i ops b => [.region i ops b]
  | .loop c => regs c
  | .seq a b => regs a ++ regs b
  | .block _ c => regs c
  | .scope c => regs c
  | .cond _ a b => regs a ++ regs b
  | _ => []
def isReg (k : Nat) : Code → Bool
  | .region i _ _ => i == k
  | _ => false
def regOf (f : Func) (k : Nat) : Code := ((regs (f.body.getD .skip)).find? (isReg k)).getD .skip

end Go.Proofs.Qxb6001364a
